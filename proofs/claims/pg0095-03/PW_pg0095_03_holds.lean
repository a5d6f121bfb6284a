import PyProof.Rows.All
import Wide.All
import OpenK.AllK
import Wide.FinOn
import PySem.Challenge.RW_pg0095_03
set_option Elab.async false
set_option maxRecDepth 100000
set_option maxHeartbeats 8000000
set_option bootstrap.genMatcherCode false
namespace Mine
open PySem PySem.W PySem.Calls PyProof.Rows
section
noncomputable abbrev Sym := Fin 4

structure FnRec where
  params : Arguments
  body : FuncBody
  scope : Scope

inductive PV where
  | none
  | bool (b : Bool)
  | int (i : Int)
  | str (s : List Sym)
  | list (l : List PV)
  | tuple (l : List PV)
  | range (a b k : Int)
  | glob (x : Str)
  | fn (r : FnRec) (caps : List (Str × PV)) (dfl : List PV) (attr : Option (Str × PV))

noncomputable def big : Nat := 1048576

noncomputable def mkS (κ : Sym → Nat) (s : List Sym) : Str := ⟨(s.map κ).toArray⟩

structure GCtx where
  prog : Program
  w : World
  κ : Sym → Nat
  low : Sym → Sym
  mg : Str → Option Value
  mb : Str → Option Value
  g : Heap
  tabs : List (Addr × Addr)
  recs : Str → Option (FnRec × Option Addr)

noncomputable abbrev GCtx.M (c : GCtx) : Model := model c.prog c.w

structure Wd where
  H : Addr → Option Obj
  C : Addr → Prop

mutual
inductive Rep (c : GCtx) (W : Wd) : Value → PV → Prop
  | none : Rep c W .none .none
  | bool (b : Bool) : Rep c W (.bool b) (.bool b)
  | int (i : Int) (t : Tok) : Rep c W (.int i t) (.int i)
  | str (s : List Sym) (t : Tok) : s.length ≤ big → Rep c W (.str (mkS c.κ s) t) (.str s)
  | list (a : Addr) (o : Obj) (n : Nat) (vs : List Value) (l : List PV) : W.H a = some o → o.cls = .type "list" → o.data = .seq vs.toArray n →
      RepL c W vs l → l.length ≤ big → Rep c W (.ref a) (.list l)
  | tuple (a : Addr) (o : Obj) (n : Nat) (vs : List Value) (l : List PV) : W.H a = some o → o.cls = .type "tuple" → o.data = .seq vs.toArray n →
      RepL c W vs l → l.length ≤ big → Rep c W (.ref a) (.tuple l)
  | range (r : Addr) (a b k : Int) (t u v : Tok) : W.H r = some { cls := .type "range", data := .fields #[.int a t, .int b u, .int k v] } → Rep c W (.ref r) (.range a b k)
  | glob (x : Str) (v : Value) : c.mg x = some v → (c.recs x).isSome = true → Rep c W v (.glob x)
  | fn (a : Addr) (o : Obj) (fd : FuncData) (r : FnRec) (caps : List (Str × PV)) (dfl : List PV) (dv : List Value) (attr : Option (Str × PV)) (cd : Addr) :
      W.H a = some o → o.cls = .type "function" → o.data = .func fd → fd.params = r.params → fd.body = r.body → fd.scope = r.scope → fd.globals = mainGlobals →
      fd.builtins = builtinsNs → fd.kwdefaults = .none → fd.code = .ref cd → W.C cd →
      RepCl c W fd.closure caps → RepL c W dv dfl →
      ((dv = [] ∧ fd.defaults = .none) ∨ ∃ t ot n, fd.defaults = .ref t ∧ W.H t = some ot ∧ ot.cls = .type "tuple" ∧ ot.data = .seq dv.toArray n) →
      RepAt c W o.dict attr → Rep c W (.ref a) (.fn r caps dfl attr)
inductive RepL (c : GCtx) (W : Wd) : List Value → List PV → Prop
  | nil : RepL c W [] []
  | cons (v : Value) (pv : PV) (vs : List Value) (l : List PV) : Rep c W v pv → RepL c W vs l → RepL c W (v :: vs) (pv :: l)
inductive RepCl (c : GCtx) (W : Wd) : List (Str × Addr) → List (Str × PV) → Prop
  | nil : RepCl c W [] []
  | cons (x : Str) (a : Addr) (o : Obj) (v : Value) (pv : PV) (cl : List (Str × Addr)) (caps : List (Str × PV)) : W.H a = some o → o.data = .cell (some v) → Rep c W v pv →
      RepCl c W cl caps → RepCl c W ((x, a) :: cl) ((x, pv) :: caps)
inductive RepAt (c : GCtx) (W : Wd) : Option Addr → Option (Str × PV) → Prop
  | none : RepAt c W none none
  | some (d : Addr) (o : Obj) (es : Array DictEntry) (ep : Nat) (x : Str) (v : Value) (pv : PV) : W.H d = some o → o.data = .dict es ep → StrKeys es →
      (∀ y, nsFind es y = if y = x then Option.some v else Option.none) → Rep c W v pv → RepAt c W (Option.some d) (Option.some (x, pv))
end

noncomputable def RepInv (c : GCtx) (W : Wd) (v : Value) : PV → Prop
  | .none => v = .none
  | .bool b => v = .bool b
  | .int i => ∃ t, v = .int i t
  | .str s => ∃ t, v = .str (mkS c.κ s) t ∧ s.length ≤ big
  | .list l => ∃ a o n vs, v = .ref a ∧ W.H a = some o ∧ o.cls = .type "list" ∧ o.data = .seq vs.toArray n ∧ RepL c W vs l ∧ l.length ≤ big
  | .tuple l => ∃ a o n vs, v = .ref a ∧ W.H a = some o ∧ o.cls = .type "tuple" ∧ o.data = .seq vs.toArray n ∧ RepL c W vs l ∧ l.length ≤ big
  | .range a b k => ∃ r t u w, v = .ref r ∧ W.H r = some { cls := .type "range", data := .fields #[.int a t, .int b u, .int k w] }
  | _ => True
theorem Rep.inv {c : GCtx} {W : Wd} {v pv} (R : Rep c W v pv) : RepInv c W v pv := by
  cases R with
  | none => exact rfl
  | bool b => exact rfl
  | int i t => exact ⟨t, rfl⟩
  | str s t h => exact ⟨t, rfl, h⟩
  | list a o n vs l h1 h2 h3 h4 h5 => exact ⟨a, o, n, vs, rfl, h1, h2, h3, h4, h5⟩
  | tuple a o n vs l h1 h2 h3 h4 h5 => exact ⟨a, o, n, vs, rfl, h1, h2, h3, h4, h5⟩
  | range r a b k t u w h => exact ⟨r, t, u, w, rfl, h⟩
  | glob x v h h2 => exact trivial
  | fn a o fd r caps dfl dv attr cd h1 h2 h3 h4 h5 h6 h7 h8 h9 h10 h11 h12 h13 h14 h15 => exact trivial
noncomputable def RepLInv (c : GCtx) (W : Wd) (vs : List Value) : List PV → Prop
  | [] => vs = []
  | p :: l => ∃ v ws, vs = v :: ws ∧ Rep c W v p ∧ RepL c W ws l
theorem RepL.inv {c : GCtx} {W : Wd} {vs l} (R : RepL c W vs l) : RepLInv c W vs l := by
  cases R with
  | nil => exact rfl
  | cons v pv vs l h1 h2 => exact ⟨v, vs, rfl, h1, h2⟩

noncomputable def Wd.le (W W' : Wd) : Prop := (∀ a o, W.H a = some o → W'.H a = some o) ∧ ∀ a, W.C a → W'.C a
theorem Wd.le.refl (W : Wd) : W.le W := ⟨fun _ _ e => e, fun _ e => e⟩
theorem Wd.le.trans {W W' W'' : Wd} (x : W.le W') (y : W'.le W'') : W.le W'' := ⟨fun a o e => y.1 a o (x.1 a o e), fun a e => y.2 a (x.2 a e)⟩

theorem Rep.mono {c : GCtx} {W W' : Wd} (le : W.le W') {v pv} (R : Rep c W v pv) : Rep c W' v pv :=
  Rep.rec (motive_1 := fun v pv _ => Rep c W' v pv) (motive_2 := fun vs l _ => RepL c W' vs l) (motive_3 := fun vs l _ => RepCl c W' vs l) (motive_4 := fun d l _ => RepAt c W' d l)
    (.none) (fun b => .bool b) (fun i t => .int i t) (fun s t h => .str s t h)
    (fun a o n vs l h1 h2 h3 _ h5 ih => .list a o n vs l (le.1 _ _ h1) h2 h3 ih h5) (fun a o n vs l h1 h2 h3 _ h5 ih => .tuple a o n vs l (le.1 _ _ h1) h2 h3 ih h5)
    (fun r a b k t u v h => .range r a b k t u v (le.1 _ _ h)) (fun x v h h2 => .glob x v h h2)
    (fun a o fd r caps dfl dv attr cd h1 h2 h3 h4 h5 h6 h7 h8 h9 h10 h11 _ _ h14 _ i1 i2 i3 => .fn a o fd r caps dfl dv attr cd (le.1 _ _ h1) h2 h3 h4 h5 h6 h7 h8 h9 h10 (le.2 _ h11) i1 i2
      (h14.imp id fun ⟨t, ot, n, e1, e2, e3, e4⟩ => ⟨t, ot, n, e1, le.1 _ _ e2, e3, e4⟩) i3)
    (.nil) (fun v pv vs l _ _ i1 i2 => .cons v pv vs l i1 i2) (.nil) (fun x a o v pv cl caps h1 h2 _ _ i1 i2 => .cons x a o v pv cl caps (le.1 _ _ h1) h2 i1 i2)
    (.none) (fun d o es ep x v pv h1 h3 h4 h5 _ i1 => .some d o es ep x v pv (le.1 _ _ h1) h3 h4 h5 i1) R
theorem RepL.mono {c : GCtx} {W W' : Wd} (le : W.le W') {vs l} (R : RepL c W vs l) : RepL c W' vs l :=
  RepL.rec (motive_1 := fun v pv _ => Rep c W' v pv) (motive_2 := fun vs l _ => RepL c W' vs l) (motive_3 := fun vs l _ => RepCl c W' vs l) (motive_4 := fun d l _ => RepAt c W' d l)
    (.none) (fun b => .bool b) (fun i t => .int i t) (fun s t h => .str s t h)
    (fun a o n vs l h1 h2 h3 _ h5 ih => .list a o n vs l (le.1 _ _ h1) h2 h3 ih h5) (fun a o n vs l h1 h2 h3 _ h5 ih => .tuple a o n vs l (le.1 _ _ h1) h2 h3 ih h5)
    (fun r a b k t u v h => .range r a b k t u v (le.1 _ _ h)) (fun x v h h2 => .glob x v h h2)
    (fun a o fd r caps dfl dv attr cd h1 h2 h3 h4 h5 h6 h7 h8 h9 h10 h11 _ _ h14 _ i1 i2 i3 => .fn a o fd r caps dfl dv attr cd (le.1 _ _ h1) h2 h3 h4 h5 h6 h7 h8 h9 h10 (le.2 _ h11) i1 i2
      (h14.imp id fun ⟨t, ot, n, e1, e2, e3, e4⟩ => ⟨t, ot, n, e1, le.1 _ _ e2, e3, e4⟩) i3)
    (.nil) (fun v pv vs l _ _ i1 i2 => .cons v pv vs l i1 i2) (.nil) (fun x a o v pv cl caps h1 h2 _ _ i1 i2 => .cons x a o v pv cl caps (le.1 _ _ h1) h2 i1 i2)
    (.none) (fun d o es ep x v pv h1 h3 h4 h5 _ i1 => .some d o es ep x v pv (le.1 _ _ h1) h3 h4 h5 i1) R
theorem RepCl.mono {c : GCtx} {W W' : Wd} (le : W.le W') {vs l} (R : RepCl c W vs l) : RepCl c W' vs l :=
  RepCl.rec (motive_1 := fun v pv _ => Rep c W' v pv) (motive_2 := fun vs l _ => RepL c W' vs l) (motive_3 := fun vs l _ => RepCl c W' vs l) (motive_4 := fun d l _ => RepAt c W' d l)
    (.none) (fun b => .bool b) (fun i t => .int i t) (fun s t h => .str s t h)
    (fun a o n vs l h1 h2 h3 _ h5 ih => .list a o n vs l (le.1 _ _ h1) h2 h3 ih h5) (fun a o n vs l h1 h2 h3 _ h5 ih => .tuple a o n vs l (le.1 _ _ h1) h2 h3 ih h5)
    (fun r a b k t u v h => .range r a b k t u v (le.1 _ _ h)) (fun x v h h2 => .glob x v h h2)
    (fun a o fd r caps dfl dv attr cd h1 h2 h3 h4 h5 h6 h7 h8 h9 h10 h11 _ _ h14 _ i1 i2 i3 => .fn a o fd r caps dfl dv attr cd (le.1 _ _ h1) h2 h3 h4 h5 h6 h7 h8 h9 h10 (le.2 _ h11) i1 i2
      (h14.imp id fun ⟨t, ot, n, e1, e2, e3, e4⟩ => ⟨t, ot, n, e1, le.1 _ _ e2, e3, e4⟩) i3)
    (.nil) (fun v pv vs l _ _ i1 i2 => .cons v pv vs l i1 i2) (.nil) (fun x a o v pv cl caps h1 h2 _ _ i1 i2 => .cons x a o v pv cl caps (le.1 _ _ h1) h2 i1 i2)
    (.none) (fun d o es ep x v pv h1 h3 h4 h5 _ i1 => .some d o es ep x v pv (le.1 _ _ h1) h3 h4 h5 i1) R
theorem RepL.length {c : GCtx} {W : Wd} : ∀ {vs l}, RepL c W vs l → vs.length = l.length
  | _, _, .nil => rfl
  | _, _, .cons _ _ _ _ _ h => by simp [h.length]
theorem RepL.get {c : GCtx} {W : Wd} : ∀ {vs l} (i : Nat) {pv}, RepL c W vs l → l[i]? = some pv → ∃ v, vs[i]? = some v ∧ Rep c W v pv
  | _, _, _, _, .nil, e => by simp at e
  | _, _, 0, _, .cons v pv _ _ h _, e => by simp at e; subst e; exact ⟨v, by simp, h⟩
  | _, _, i + 1, _, .cons v pv vs l _ h, e => by simp at e; obtain ⟨v, h1, h2⟩ := h.get i e; exact ⟨v, by simpa using h1, h2⟩
theorem RepL.append {c : GCtx} {W : Wd} : ∀ {vs l vs' l'}, RepL c W vs l → RepL c W vs' l' → RepL c W (vs ++ vs') (l ++ l')
  | _, _, _, _, .nil, h => h
  | _, _, _, _, .cons v pv vs l h1 h2, h => .cons _ _ _ _ h1 (h2.append h)
theorem RepL.set {c : GCtx} {W : Wd} : ∀ {vs l} (i : Nat) {v pv}, RepL c W vs l → Rep c W v pv → RepL c W (vs.set i v) (l.set i pv)
  | _, _, _, _, _, .nil, _ => .nil
  | _, _, 0, _, _, .cons v pv _ _ _ h, r => .cons _ _ _ _ r h
  | _, _, i + 1, _, _, .cons v pv vs l h0 h, r => .cons _ _ _ _ h0 (h.set i r)

structure Inv (c : GCtx) (W : Wd) (h : Heap) : Prop where
  base : ∀ b o, c.g.get? b = some o → h.get? b = some o
  size : c.g.objs.size ≤ h.objs.size
  froz : ∀ a o, W.H a = some o → h.get? a = some o
  code : ∀ cd, W.C cd → ∃ P ps, CodeHd h cd P ∧ h.get? P = some (tabObj ps) ∧ TriplesOk ps.toList ∧
    (∀ pos cv, codeAmong pos ps.toList = some cv → ∃ c', cv = .ref c' ∧ W.C c') ∧ c.g.get? P = none ∧ W.H P = none
  tab : ∀ q ∈ c.tabs, ∃ ps, h.get? q.2 = some (tabObj ps)
  stat : ∀ x r m, c.recs x = some (r, some m) → W.C m

noncomputable def Ext (h h' : Heap) : Prop := ∀ b o, h.get? b = some o → (∀ ps, o ≠ tabObj ps) → h'.get? b = some o
theorem Ext.refl (h : Heap) : Ext h h := fun _ _ e _ => e
theorem Ext.trans {h h' h'' : Heap} (x : Ext h h') (y : Ext h' h'') : Ext h h'' := fun b o e n => y b o (x b o e n) n
theorem Ext.of_keep {h h' : Heap} (k : ∀ b o, h.get? b = some o → h'.get? b = some o) : Ext h h' := fun b o e _ => k b o e

structure Step (W : Wd) (h : Heap) (W' : Wd) (h' : Heap) : Prop where
  ext : Ext h h'
  size : h.objs.size ≤ h'.objs.size
  le : W.le W'
  low : ∀ a, a < h.objs.size → W'.H a = W.H a
theorem Step.refl (W : Wd) (h : Heap) : Step W h W h := ⟨.refl h, Nat.le_refl _, .refl W, fun _ _ => rfl⟩
theorem Step.trans {W W' W'' : Wd} {h h' h'' : Heap} (x : Step W h W' h') (y : Step W' h' W'' h'') : Step W h W'' h'' :=
  ⟨x.ext.trans y.ext, Nat.le_trans x.size y.size, x.le.trans y.le, fun a ha => (y.low a (Nat.lt_of_lt_of_le ha x.size)).trans (x.low a ha)⟩

structure Post (c : GCtx) (W : Wd) (s : Shared) (W' : Wd) (s' : Shared) : Prop where
  inv : Inv c W' s'.heap
  step : Step W s.heap W' s'.heap
  os : s'.os = s.os
  gens : s'.gens = s.gens
theorem Post.trans {c : GCtx} {W W' W'' : Wd} {s s' s'' : Shared} (x : Post c W s W' s') (y : Post c W' s' W'' s'') : Post c W s W'' s'' :=
  ⟨y.inv, x.step.trans y.step, y.os.trans x.os, y.gens.trans x.gens⟩
theorem Post.refl {c : GCtx} {W : Wd} {s : Shared} (I : Inv c W s.heap) : Post c W s W s := ⟨I, .refl _ _, rfl, rfl⟩
theorem Post.tok {c : GCtx} {W : Wd} {s : Shared} (I : Inv c W s.heap) (t : Nat) : Post c W s W { s with toks := t } := ⟨I, .refl _ _, rfl, rfl⟩

noncomputable def OwnL (h : Heap) (a : Addr) (vs : List Value) : Prop := ∃ n sl, h.get? a = some ⟨.type "list", none, .seq vs.toArray n, sl⟩
theorem OwnL.isList {h : Heap} {a : Addr} {vs : List Value} (x : OwnL h a vs) : h.IsList a vs.toArray := let ⟨n, _, e⟩ := x; ⟨_, e, rfl, n, rfl⟩
theorem OwnL.lt {h : Heap} {a : Addr} {vs : List Value} (x : OwnL h a vs) : a < h.objs.size := let ⟨_, _, e⟩ := x; Heap.lt_size e
theorem OwnL.ext {h h' : Heap} {a : Addr} {vs : List Value} (x : OwnL h a vs) (e : Ext h h') : OwnL h' a vs := let ⟨n, sl, q⟩ := x; ⟨n, sl, e _ _ q (fun ps r => by cases r)⟩
theorem OwnL.same {h h' : Heap} {a t : Addr} {vs : List Value} (x : OwnL h a vs) (hs : Heap.SameBut t h h') (hne : a ≠ t) : OwnL h' a vs := let ⟨n, sl, q⟩ := x; ⟨n, sl, (hs.2 _ hne).trans q⟩

inductive Slot where
  | val (v : PV)
  | own (l : List PV)
  | view (l : List PV)

noncomputable abbrev Store := List (Str × Slot)
noncomputable def Store.put : Store → Str → Slot → Store
  | [], x, v => [(x, v)]
  | (y, w) :: r, x, v => if y == x then (x, v) :: r else (y, w) :: Store.put r x v
theorem Store.lookup_put (σ : Store) (x y : Str) (v : Slot) : (σ.put x v).lookup y = if y = x then some v else σ.lookup y := by
  induction σ with
  | nil =>
    by_cases h : y = x
    · subst h; simp [Store.put, List.lookup]
    · simp [Store.put, List.lookup, h, beq_eq_false_iff_ne.mpr h]
  | cons p r ih =>
    obtain ⟨z, w⟩ := p
    simp only [Store.put]
    by_cases hz : z = x
    · subst hz
      simp only [beq_self_eq_true, if_true, List.lookup_cons]
      by_cases h : y = z
      · subst h; simp
      · simp [h, beq_eq_false_iff_ne.mpr h]
    · rw [if_neg (by simpa using hz)]
      simp only [List.lookup_cons, ih]
      by_cases h : y = z
      · subst h; simp [hz]
      · simp [beq_eq_false_iff_ne.mpr h]

structure FSt where
  scope : Scope
  n : Nat
  own : Bool
  maker : Bool

inductive VarIs (F : FSt) (env : Env) (h0 h : Heap) (m : Str → Option Value) (x : Str) (v : Value) : Prop
  | loc (hk : env.kindOf x = some .local) (hm : m x = some v)
  | own (hk : env.kindOf x = some .cell) (cl : Addr) (hc : env.cells.lookup x = some cl) (hv : h.IsCell cl (some v))
  | old (hk : env.kindOf x = some .cell ∨ env.kindOf x = some .free) (hn : (x == ("__classdict__" : Str)) = false) (cl : Addr) (hc : env.cells.lookup x = some cl) (hv : h0.IsCell cl (some v))

noncomputable def SlotOk (c : GCtx) (W : Wd) (F : FSt) (env : Env) (h0 h : Heap) (m : Str → Option Value) (adr : Str → Addr) (x : Str) : Slot → Prop
  | .val pv => ∃ v, VarIs F env h0 h m x v ∧ Rep c W v pv
  | .own l => VarIs F env h0 h m x (.ref (adr x)) ∧ h0.objs.size ≤ adr x ∧ W.H (adr x) = none ∧ l.length ≤ big ∧ ∃ vs, OwnL h (adr x) vs ∧ RepL c W vs l
  | .view l => l.length ≤ big ∧ ∃ a vs, VarIs F env h0 h m x (.ref a) ∧ h0.IsList a vs.toArray ∧ RepL c W vs l

structure FrInv (c : GCtx) (W : Wd) (F : FSt) (env : Env) (h0 : Heap) (σ : Store) (h : Heap) : Prop where
  inv : Inv c W h
  ext : Ext h0 h
  size : h0.objs.size ≤ h.objs.size
  g0 : c.g.objs.size ≤ h0.objs.size
  kind : F.scope.kind = .function
  scope : env.scope = F.scope
  glob : env.globals = mainGlobals
  blt : env.builtins = builtinsNs
  code : F.maker = true → ∃ cd, env.code = .ref cd ∧ W.C cd
  sld : F.own = false → F.maker = true → ∀ x, env.kindOf x = some .cell → ∃ cl o v, env.cells.lookup x = some cl ∧ W.H cl = some o ∧ o.data = .cell v
  loc : h0.objs.size ≤ env.locals
  locH : W.H env.locals = none
  cells : F.own = true → ∀ x, env.kindOf x = some .cell → ∃ cl, env.cells.lookup x = some cl ∧ h0.objs.size ≤ cl ∧ W.H cl = none ∧ ∃ v, h.IsCell cl v
  apart : F.own = true → ∀ x y cx cy, env.kindOf x = some .cell → env.kindOf y = some .cell → env.cells.lookup x = some cx → env.cells.lookup y = some cy → x ≠ y → cx ≠ cy
  slots : ∃ m adr, h.Ns env.locals m ∧ (∀ x sl, σ.lookup x = some sl → SlotOk c W F env h0 h m adr x sl) ∧
    (∀ x y lx ly, σ.lookup x = some (.own lx) → σ.lookup y = some (.own ly) → x ≠ y → adr x ≠ adr y)

theorem isCell_ext {h h' : Heap} {cl : Addr} {v} (x : h.IsCell cl v) (e : Ext h h') : h'.IsCell cl v := by
  obtain ⟨o, ho, hd⟩ := x
  exact ⟨o, e _ _ ho (fun ps q => by subst q; cases hd), hd⟩
theorem ns_ext {h h' : Heap} {a : Addr} {m} (x : h.Ns a m) (e : Ext h h') : h'.Ns a m := by
  obtain ⟨o, es, ep, ho, hd, r⟩ := x
  exact ⟨o, es, ep, e _ _ ho (fun ps q => by subst q; cases hd), hd, r⟩
theorem isList_ext {h h' : Heap} {a : Addr} {m} (x : h.IsList a m) (e : Ext h h') : h'.IsList a m := by
  obtain ⟨o, ho, hc, n, hd⟩ := x
  exact ⟨o, e _ _ ho (fun ps q => by subst q; cases hd), hc, n, hd⟩

theorem VarIs.step {F env h0 h h' m x v} (V : VarIs F env h0 h m x v) (e : Ext h h') : VarIs F env h0 h' m x v := by
  cases V with
  | loc hk hm => exact .loc hk hm
  | own hk cl hc hv => exact .own hk cl hc (isCell_ext hv e)
  | old hk hn cl hc hv => exact .old hk hn cl hc hv

theorem FrInv.step {c W F env h0 σ h W' h'} (I : FrInv c W F env h0 σ h) (st : Step W h W' h') (I' : Inv c W' h') : FrInv c W' F env h0 σ h' := by
  obtain ⟨m, adr, hns, hsl, hdis⟩ := I.slots
  refine ⟨I', I.ext.trans st.ext, Nat.le_trans I.size st.size, I.g0, I.kind, I.scope, I.glob, I.blt, fun hm => let ⟨cd, e1, e2⟩ := I.code hm; ⟨cd, e1, st.le.2 _ e2⟩, fun q1 q2 x hk => let ⟨cl, o, v, e1, e2, e3⟩ := I.sld q1 q2 x hk; ⟨cl, o, v, e1, st.le.1 _ _ e2, e3⟩, I.loc,
    (st.low _ hns.lt).trans I.locH, fun ho x hk => ?_, I.apart, m, adr, ns_ext hns st.ext, fun x sl e => ?_, hdis⟩
  · obtain ⟨cl, h1, h2, h3, v, h4⟩ := I.cells ho x hk
    exact ⟨cl, h1, h2, (st.low _ h4.lt).trans h3, v, isCell_ext h4 st.ext⟩
  · have := hsl x sl e
    cases sl with
    | val pv => obtain ⟨v, h1, h2⟩ := this; exact ⟨v, h1.step st.ext, h2.mono st.le⟩
    | own l =>
      obtain ⟨h1, h2, h3, h4, vs, h5, h6⟩ := this
      exact ⟨h1.step st.ext, h2, (st.low _ h5.lt).trans h3, h4, vs, h5.ext st.ext, h6.mono st.le⟩
    | view l =>
      obtain ⟨h0', a, vs, h1, h2, h3⟩ := this
      exact ⟨h0', a, vs, h1.step st.ext, h2, h3.mono st.le⟩

theorem codeHd_same {h h' : Heap} {cd P a : Addr} (C : CodeHd h cd P) (hs : Heap.SameBut a h h') (ha : ∃ o, h.get? a = some o ∧ ∀ vs, o.data ≠ .fields vs) : CodeHd h' cd P := by
  obtain ⟨o, vs, file, tf, flags, tg, inF, text, tt, e1, e2, e3, r⟩ := C
  obtain ⟨oa, ha, hn⟩ := ha
  have hne : cd ≠ a := fun q => by subst q; rw [ha] at e1; cases e1; exact hn _ e3
  exact ⟨o, vs, file, tf, flags, tg, inF, text, tt, (hs.2 _ hne).trans e1, e2, e3, r⟩

theorem Inv.upd {c W h h'} {a : Addr} (I : Inv c W h) (hs : Heap.SameBut a h h') (hH : W.H a = none) (hg : c.g.get? a = none) (ha : ∃ o, h.get? a = some o ∧ ∀ vs, o.data ≠ .fields vs) : Inv c W h' := by
  have tabne : ∀ {P ps}, h.get? P = some (tabObj ps) → P ≠ a := fun {P ps} e q => by
    subst q; obtain ⟨oa, ha, hn⟩ := ha; rw [ha] at e; cases e; exact hn _ rfl
  refine ⟨fun b o e => (hs.2 b (fun q => by subst q; rw [hg] at e; cases e)).trans (I.base b o e), by rw [hs.1]; exact I.size, fun b o e => (hs.2 b (fun q => by subst q; rw [hH] at e; cases e)).trans (I.froz b o e), fun cd hc => ?_, fun q hq => ?_, I.stat⟩
  · obtain ⟨P, ps, h1, h2, h3, h4, h5, h6⟩ := I.code cd hc
    exact ⟨P, ps, codeHd_same h1 hs ha, (hs.2 _ (tabne h2)).trans h2, h3, h4, h5, h6⟩
  · obtain ⟨ps, e⟩ := I.tab q hq
    exact ⟨ps, (hs.2 _ (tabne e)).trans e⟩

theorem g_none {c W F env h0 σ h} (I : FrInv c W F env h0 σ h) {a : Addr} (ha : h0.objs.size ≤ a) : c.g.get? a = none := Heap.get?_none_of_le (Nat.le_trans I.g0 ha)

theorem Ext.same {h0 h h' : Heap} {a : Addr} (e : Ext h0 h) (hs : Heap.SameBut a h h') (ha : h0.objs.size ≤ a) : Ext h0 h' :=
  fun b o eb n => (hs.2 b (Nat.ne_of_lt (Nat.lt_of_lt_of_le (Heap.lt_size eb) ha))).trans (e b o eb n)

structure WkInv (c : GCtx) (W : Wd) (h0 h : Heap) : Prop where
  inv : Inv c W h
  ext : Ext h0 h
  size : h0.objs.size ≤ h.objs.size
theorem FrInv.wk {c W F env h0 σ h} (I : FrInv c W F env h0 σ h) : WkInv c W h0 h := ⟨I.inv, I.ext, I.size⟩
end

section
noncomputable def AOk (n : Nat) (A : Around) : Prop := A.depth + n < recursionLimit ∧ A.units + 16 * n + 100 < cLine ∧ A.handled = none
theorem AOk.le {n m : Nat} {A : Around} (h : AOk n A) (hm : m ≤ n) : AOk m A := ⟨by have := h.1; (first | lia | omega), by have := h.2.1; (first | lia | omega), h.2.2⟩

section defs
variable (c : GCtx) (F : FSt)

noncomputable abbrev KontV (W : Wd) (s : Shared) (P : PV → Prop) (Q : Value → Shared → Prop) : Prop := ∀ pv v W' s', P pv → Post c W s W' s' → Rep c W' v pv → Q v s'

noncomputable def EvE (e : Expr) (σ : Store) (P : PV → Prop) : Prop :=
  ∀ ⦃W env h0 A s⦄ ⦃Q E : Value → Shared → Prop⦄, FrInv c W F env h0 σ s.heap → AOk F.n A → KontV c W s P Q → wpAny c.M A (eval e env) Q E s
noncomputable def EvT (e : Expr) (σ : Store) (P : Bool → Prop) : Prop :=
  ∀ ⦃W env h0 A s⦄ ⦃Q : Bool → Shared → Prop⦄ ⦃E : Value → Shared → Prop⦄, FrInv c W F env h0 σ s.heap → AOk F.n A → (∀ b W' s', P b → Post c W s W' s' → Q b s') →
    wpAny c.M A (isTrue e env (eval e env)) Q E s
noncomputable def EvL : List Expr → Store → (List PV → Prop) → Prop
  | [], _, P => P []
  | e :: es, σ, P => EvE c F e σ fun pv => EvL es σ fun pvs => P (pv :: pvs)

noncomputable def BinS (op : Operator) (a b : PV) (P : PV → Prop) : Prop :=
  ∀ ⦃W A s va vb⦄ ⦃Q E : Value → Shared → Prop⦄, Inv c W s.heap → AOk 0 A → Rep c W va a → Rep c W vb b → KontV c W s P Q → wpAny c.M A (binaryOp op va vb) Q E s
noncomputable def InpS (op : Operator) (a b : PV) (P : PV → Prop) : Prop :=
  ∀ ⦃W A s va vb⦄ ⦃Q E : Value → Shared → Prop⦄, Inv c W s.heap → AOk 0 A → Rep c W va a → Rep c W vb b → KontV c W s P Q → wpAny c.M A (inplaceOp op va vb) Q E s
noncomputable def CmpS (op : CmpOp) (a b : PV) (P : Bool → Prop) : Prop :=
  ∀ ⦃W A s va vb⦄ ⦃Q E : Value → Shared → Prop⦄, Inv c W s.heap → AOk 0 A → Rep c W va a → Rep c W vb b → (∀ b W' s', P b → Post c W s W' s' → Q (.bool b) s') → wpAny c.M A (compareOp op va vb) Q E s
noncomputable def UnS (op : UnaryOp) (a : PV) (P : PV → Prop) : Prop :=
  ∀ ⦃W A s va⦄ ⦃Q E : Value → Shared → Prop⦄, Inv c W s.heap → AOk 0 A → Rep c W va a → KontV c W s P Q → wpAny c.M A (unaryOp op va) Q E s
noncomputable def TruS (a : PV) (P : Bool → Prop) : Prop :=
  ∀ ⦃W A s va⦄ ⦃Q : Bool → Shared → Prop⦄ ⦃E : Value → Shared → Prop⦄, Inv c W s.heap → AOk 0 A → Rep c W va a → (∀ b W' s', P b → Post c W s W' s' → Q b s') → wpAny c.M A (truthy va) Q E s
noncomputable def CallS (n : Nat) (f : PV) (args : List PV) (P : PV → Prop) : Prop :=
  ∀ ⦃W A s v vs⦄ ⦃Q E : Value → Shared → Prop⦄, Inv c W s.heap → AOk n A → Rep c W v f → RepL c W vs args → KontV c W s P Q → wpAny c.M A (call v vs) Q E s

inductive PFlow where
  | next | brk | cont
  | ret (v : PV)
inductive FlowRep (W : Wd) : Flow → PFlow → Prop
  | next : FlowRep W .next .next
  | brk : FlowRep W .brk .brk
  | cont : FlowRep W .cont .cont
  | ret (v : Value) (pv : PV) : Rep c W v pv → FlowRep W (.ret v) (.ret pv)

structure SPost (W : Wd) (h0 : Heap) (s : Shared) (W' : Wd) (s' : Shared) : Prop where
  le : W.le W'
  low : ∀ a, a < h0.objs.size → W'.H a = W.H a
  os : s'.os = s.os
  gens : s'.gens = s.gens
  keep : ∀ b o vs, s.heap.get? b = some o → o.data = .fields vs → o.cls ≠ .none → s'.heap.get? b = some o
  nof : ∀ b o vs, s.heap.get? b = some o → o.data = .fields vs → o.cls ≠ .none → W'.H b = W.H b

noncomputable def FlInv (W : Wd) (env : Env) (h0 : Heap) (σ : Store) (h : Heap) : PFlow → Prop
  | .ret _ => WkInv c W h0 h
  | _ => FrInv c W F env h0 σ h
noncomputable abbrev KontF (W : Wd) (env : Env) (h0 : Heap) (s : Shared) (P : PFlow → Store → Prop) (Q : Flow → Shared → Prop) : Prop :=
  ∀ f σ' fl W' s', P f σ' → FlInv c F W' env h0 σ' s'.heap f → FlowRep c W' fl f → SPost W h0 s W' s' → Q fl s'

noncomputable def ExS (st : Stmt) (σ : Store) (P : PFlow → Store → Prop) : Prop :=
  ∀ ⦃W env h0 A s⦄ ⦃Q : Flow → Shared → Prop⦄ ⦃E : Value → Shared → Prop⦄, FrInv c W F env h0 σ s.heap → AOk F.n A → KontF c F W env h0 s P Q → wpAny c.M A (exec st env) Q E s
noncomputable def ExSs (sts : List Stmt) (σ : Store) (P : PFlow → Store → Prop) : Prop :=
  ∀ ⦃W env h0 A s⦄ ⦃Q : Flow → Shared → Prop⦄ ⦃E : Value → Shared → Prop⦄, FrInv c W F env h0 σ s.heap → AOk F.n A → KontF c F W env h0 s P Q → wpAny c.M A (execs sts env) Q E s
noncomputable def KeepS (env : Env) (s s' : Shared) : Prop := ∀ b o, s.heap.get? b = some o → b ≠ env.locals → (F.own = true → ∀ v, o.data ≠ .cell v) → (∀ ps, o ≠ tabObj ps) → s'.heap.get? b = some o
noncomputable def AsS (t : Expr) (pv : PV) (σ : Store) (P : Store → Prop) : Prop :=
  ∀ ⦃W env h0 A s v⦄ ⦃Q : Unit → Shared → Prop⦄ ⦃E : Value → Shared → Prop⦄, FrInv c W F env h0 σ s.heap → AOk F.n A → Rep c W v pv →
    (∀ σ' W' s', P σ' → FrInv c W' F env h0 σ' s'.heap → SPost W h0 s W' s' → KeepS F env s s' → Q () s') → wpAny c.M A (assign t env v) Q E s
end defs

theorem KeepS.refl (F : FSt) (env : Env) (s : Shared) : KeepS F env s s := fun _ _ e _ _ _ => e
theorem KeepS.trans {F : FSt} {env : Env} {s s' s'' : Shared} (x : KeepS F env s s') (y : KeepS F env s' s'') : KeepS F env s s'' := fun b o e h1 h2 h3 => y b o (x b o e h1 h2 h3) h1 h2 h3
theorem KeepS.of {F : FSt} {env : Env} {s s' : Shared} (x : Ext s.heap s'.heap) : KeepS F env s s' := fun b o e _ _ h3 => x b o e h3
theorem SPost.trans {W W' W'' : Wd} {h0 : Heap} {s s' s'' : Shared} (x : SPost W h0 s W' s') (y : SPost W' h0 s' W'' s'') : SPost W h0 s W'' s'' :=
  ⟨x.le.trans y.le, fun a ha => (y.low a ha).trans (x.low a ha), y.os.trans x.os, y.gens.trans x.gens, fun b o vs e d n => y.keep b o vs (x.keep b o vs e d n) d n, fun b o vs e d n => (y.nof b o vs (x.keep b o vs e d n) d n).trans (x.nof b o vs e d n)⟩
theorem SPost.refl (W : Wd) (h0 : Heap) (s : Shared) : SPost W h0 s W s := ⟨.refl W, fun _ _ => rfl, rfl, rfl, fun _ _ _ e _ _ => e, fun _ _ _ _ _ _ => rfl⟩
theorem Post.sp {c : GCtx} {W W' : Wd} {h0 : Heap} {s s' : Shared} (p : Post c W s W' s') (h : h0.objs.size ≤ s.heap.objs.size) : SPost W h0 s W' s' :=
  ⟨p.step.le, fun a ha => p.step.low a (Nat.lt_of_lt_of_le ha h), p.os, p.gens, fun b o vs e d n => p.step.ext b o e (fun ps q => n (by rw [q])), fun b o vs e d n => p.step.low b (Heap.lt_size e)⟩

section
variable {c : GCtx} {F : FSt} {σ : Store}
theorem FrInv.post {W env h0 W'} {s s' : Shared} (I : FrInv c W F env h0 σ s.heap) (p : Post c W s W' s') : FrInv c W' F env h0 σ s'.heap := I.step p.step p.inv

theorem load_var {W env h0 A m x v} {s : Shared} {Q E : Value → Shared → Prop} (I : FrInv c W F env h0 σ s.heap) (hns : s.heap.Ns env.locals m) (V : VarIs F env h0 s.heap m x v) (h : Q v s) : wpAny c.M A (loadName env x) Q E s := by
  have hk : env.scope.kind = .function := by rw [I.scope]; exact I.kind
  cases V with
  | loc hl hm => exact wpAny_loadName_local hk hl hns hm h
  | own hl cl hc hv => exact wpAny_loadName_cell hk hl hc hv h
  | old hl hn cl hc hv =>
    have hv' := isCell_ext hv I.ext
    rcases hl with hl | hl
    · exact wpAny_loadName_cell hk hl hc hv' h
    · exact wpAny_loadName_free hk hl hc hv' h hn

theorem EvE.name {x pos pv} {P : PV → Prop} (hx : σ.lookup x = some (.val pv)) (h : P pv) (hd : (x == ("__debug__" : Str)) = false := by decide) : EvE c F (.Name x pos) σ P := by
  intro W env h0 A s Q E I ok k
  obtain ⟨m, adr, hns, hsl, _⟩ := I.slots
  obtain ⟨v, V, R⟩ := hsl x _ hx
  exact wpAny_Name (load_var I hns V (k _ _ _ _ h (.refl I.inv) R)) hd

structure GOk (c : GCtx) : Prop where
  gN : c.g.Ns mainGlobals c.mg
  bN : c.g.Ns builtinsNs c.mb
  nolim : c.g.NoLimit
  inj : ∀ x y, c.κ x = c.κ y → x = y
  asc : ∀ x, c.κ x < 128
  fn : ∀ x r mk, c.recs x = some (r, mk) → ∃ a o fd cd oc vs q t, c.mg x = some (.ref a) ∧ c.g.get? a = some o ∧ True ∧ o.data = .func fd ∧ fd.params = r.params ∧ fd.body = r.body ∧ fd.scope = r.scope ∧
    fd.globals = mainGlobals ∧ fd.builtins = builtinsNs ∧ fd.closure = [] ∧ fd.defaults = .none ∧ fd.kwdefaults = .none ∧ fd.code = .ref cd ∧
    c.g.get? cd = some oc ∧ oc.data = .fields vs ∧ vs[1]? = some (.str q t) ∧ ∀ m, mk = some m → cd = m

theorem Inv.gN {W h} (ok : GOk c) (I : Inv c W h) : h.Ns mainGlobals c.mg := ok.gN.keeps I.base
theorem Inv.bN {W h} (ok : GOk c) (I : Inv c W h) : h.Ns builtinsNs c.mb := ok.bN.keeps I.base
theorem Inv.nolim {W h} (ok : GOk c) (I : Inv c W h) : h.NoLimit := ok.nolim.keeps I.base

theorem EvE.gname {x pos} {P : PV → Prop} {pv : PV} (ok : GOk c) (hv : ∃ v, c.mg x = some v ∧ ∀ W, Rep c W v pv) (h : P pv) (hk : F.scope.names.lookup x = some .globalImplicit) (hd : (x == ("__debug__" : Str)) = false := by decide) : EvE c F (.Name x pos) σ P := by
  intro W env h0 A s Q E I ao k
  obtain ⟨v, e, R⟩ := hv
  have hke : env.scope.kind = .function := by rw [I.scope]; exact I.kind
  refine Name_function_global hke (by show env.scope.names.lookup x = _; rw [I.scope]; exact hk) (loadGlobal_global (mg := c.mg) (by rw [I.glob]; exact I.inv.gN ok) e (k _ _ _ _ h (.refl I.inv) (R W))) hd
theorem EvE.gfun {x pos} {P : PV → Prop} (ok : GOk c) (hv : ∃ v, c.mg x = some v) (hr : (c.recs x).isSome = true) (h : P (.glob x)) (hk : F.scope.names.lookup x = some .globalImplicit) (hd : (x == ("__debug__" : Str)) = false := by decide) : EvE c F (.Name x pos) σ P :=
  EvE.gname ok (let ⟨v, e⟩ := hv; ⟨v, e, fun _ => .glob x v e hr⟩) h hk hd

theorem EvE.int {i k pos} {P : PV → Prop} (h : P (.int i)) : EvE c F (.Constant (.int i) k pos) σ P := by
  intro W env h0 A s Q E I ao kk
  exact wpAny_Constant_int (kk _ _ _ _ h (Post.tok I.inv _) (.int _ _))
theorem EvE.none {k pos} {P : PV → Prop} (h : P .none) : EvE c F (.Constant .none k pos) σ P := by
  intro W env h0 A s Q E I ao kk
  exact fun _ _ _ => kk _ _ _ _ h (.refl I.inv) .none
theorem EvE.str {x k pos} {P : PV → Prop} (s : List Sym) (hx : x = mkS c.κ s) (hl : s.length ≤ big) (h : P (.str s)) : EvE c F (.Constant (.str x) k pos) σ P := by
  intro W env h0 A st Q E I ao kk
  subst hx
  exact Constant_str (kk _ _ _ _ h (Post.tok I.inv _) (.str _ _ hl))

theorem AOk.zero {n A} (h : AOk n A) : AOk 0 A := h.le (Nat.zero_le _)

theorem EvE.binop {l op r pos} {P : PV → Prop} (h : EvE c F l σ fun a => EvE c F r σ fun b => BinS c op a b P) : EvE c F (.BinOp l op r pos) σ P := by
  intro W env h0 A s Q E I ao kk
  refine wpAny_BinOp (h I ao fun a va W1 s1 h1 p1 R1 => ?_)
  refine h1 (I.post p1) ao fun b vb W2 s2 h2 p2 R2 => ?_
  exact h2 p2.inv ao.zero (R1.mono p2.step.le) R2 fun pv v W3 s3 hp p3 R3 => kk _ _ _ _ hp ((p1.trans p2).trans p3) R3
theorem EvE.unary {op x pos} {P : PV → Prop} (h : EvE c F x σ fun a => UnS c op a P) : EvE c F (.UnaryOp op x pos) σ P := by
  intro W env h0 A s Q E I ao kk
  show wpAny _ _ (eval x env >>= fun v => standAt pos >>= fun _ => holding [v] (unaryOp op v)) Q E s
  refine wpAny_bind (h I ao fun a va W1 s1 h1 p1 R1 => wpAny_bind (wpAny_standAt (wpAny_holding ?_)))
  exact h1 p1.inv ao.zero R1 fun pv v W3 s3 hp p3 R3 => kk _ _ _ _ hp (p1.trans p3) R3
theorem EvE.cmp {l op r pos} {P : PV → Prop} (h : EvE c F l σ fun a => EvE c F r σ fun b => CmpS c op a b fun x => P (.bool x)) (hm : behindInMarks op r = false := by with_unfolding_all rfl) : EvE c F (.Compare l [op] [r] pos) σ P := by
  intro W env h0 A s Q E I ao kk
  refine wpAny_Compare1 (h I ao fun a va W1 s1 h1 p1 R1 => ?_) hm
  refine h1 (I.post p1) ao fun b vb W2 s2 h2 p2 R2 => ?_
  exact h2 p2.inv ao.zero (R1.mono p2.step.le) R2 fun b W3 s3 hp p3 => kk _ _ _ _ hp ((p1.trans p2).trans p3) (.bool _)
theorem EvT.cmp {l op r pos} {P : Bool → Prop} (h : EvE c F l σ fun a => EvE c F r σ fun b => CmpS c op a b P) (hm : behindInMarks op r = false := by with_unfolding_all rfl) : EvT c F (.Compare l [op] [r] pos) σ P := by
  intro W env h0 A s Q E I ao kk
  refine wpAny_isTrue_Compare1 (h I ao fun a va W1 s1 h1 p1 R1 => ?_) hm
  refine h1 (I.post p1) ao fun b vb W2 s2 h2 p2 R2 => ?_
  exact h2 p2.inv ao.zero (R1.mono p2.step.le) R2 fun b W3 s3 hp p3 => wpAny_truthy_bool (kk _ _ _ hp ((p1.trans p2).trans p3))
theorem EvE.ifexp {t b o pos} {P : PV → Prop} (h : EvT c F t σ fun x => if x then EvE c F b σ P else EvE c F o σ P) : EvE c F (.IfExp t b o pos) σ P := by
  intro W env h0 A s Q E I ao kk
  show wpAny _ _ (isTrue t env (eval t env) >>= fun x => if x then eval b env else eval o env) Q E s
  refine wpAny_bind (h I ao fun x W1 s1 h1 p1 => ?_)
  cases x with
  | true => have h1' : EvE c F b σ P := h1; exact h1' (I.post p1) ao fun pv v W3 s3 hp p3 R3 => kk _ _ _ _ hp (p1.trans p3) R3
  | false => have h1' : EvE c F o σ P := h1; exact h1' (I.post p1) ao fun pv v W3 s3 hp p3 R3 => kk _ _ _ _ hp (p1.trans p3) R3
theorem EvT.not {x pos} {P : Bool → Prop} (h : EvT c F x σ fun b => P (!b)) : EvT c F (.UnaryOp .Not x pos) σ P := by
  intro W env h0 A s Q E I ao kk
  show wpAny _ _ (isTrue x env (eval x env) >>= fun b => pure !b) Q E s
  exact wpAny_bind (h I ao fun b W1 s1 h1 p1 => wpAny_pure (kk _ _ _ h1 p1))

noncomputable def EvAll (c : GCtx) (F : FSt) (op : BoolOp) : List Expr → Store → (Bool → Prop) → Prop
  | [], _, P => P (op == .And)
  | x :: r, σ, P => EvT c F x σ fun b => match op, b with
    | .And, false => P false
    | .Or, true => P true
    | _, _ => EvAll c F op r σ P
theorem EvT.boolop {op pos} {P : Bool → Prop} {vs : List Expr} (h : EvAll c F op vs σ P) : EvT c F (.BoolOp op vs pos) σ P := by
  intro W env h0 A s Q E I ao kk
  show wpAny _ _ (allTrue op vs env) Q E s
  induction vs generalizing W s with
  | nil => exact wpAny_pure (kk _ _ _ h (.refl I.inv))
  | cons x r ih =>
    show wpAny _ _ (isTrue x env (eval x env) >>= fun b => match op, b with
      | .And, false => pure false
      | .Or, true => pure true
      | _, _ => allTrue op r env) Q E s
    refine wpAny_bind (h I ao fun b W1 s1 h1 p1 => ?_)
    cases op <;> cases b
    · exact wpAny_pure (kk _ _ _ h1 p1)
    · exact ih h1 (I.post p1) fun b W' s' hb p' => kk _ _ _ hb (p1.trans p')
    · exact ih h1 (I.post p1) fun b W' s' hb p' => kk _ _ _ hb (p1.trans p')
    · exact wpAny_pure (kk _ _ _ h1 p1)
theorem EvT.val {e : Expr} {P : Bool → Prop} (he : ∀ env whole, isTrue e env whole = (do let v ← whole; standAt e.pos; holding [v] (truthy v))) (h : EvE c F e σ fun a => TruS c a P) : EvT c F e σ P := by
  intro W env h0 A s Q E I ao kk
  rw [he]
  refine wpAny_bind (h I ao fun a va W1 s1 h1 p1 R1 => wpAny_bind (wpAny_standAt (wpAny_holding ?_)))
  exact h1 p1.inv ao.zero R1 fun b W' s' hb p' => kk _ _ _ hb (p1.trans p')
theorem EvE.or2 {x y pos} {P : PV → Prop} (h : EvE c F x σ fun a => TruS c a fun b => if b then P a else EvE c F y σ P) : EvE c F (.BoolOp .Or [x, y] pos) σ P := by
  intro W env h0 A s Q E I ao kk
  show wpAny _ _ (eval x env >>= fun v => standAt pos >>= fun _ => holding [v] (truthy v) >>= fun t => match BoolOp.Or, t with
    | .And, false | .Or, true => pure v
    | _, _ => eval y env) Q E s
  refine wpAny_bind (h I ao fun a va W1 s1 h1 p1 R1 => wpAny_bind (wpAny_standAt (wpAny_bind (wpAny_holding ?_))))
  refine h1 p1.inv ao.zero R1 fun b W2 s2 h2 p2 => ?_
  cases b with
  | true => exact wpAny_pure (kk _ _ _ _ h2 (p1.trans p2) (R1.mono p2.step.le))
  | false => have h2' : EvE c F y σ P := h2; exact h2' (I.post (p1.trans p2)) ao fun pv v W3 s3 hp p3 R3 => kk _ _ _ _ hp ((p1.trans p2).trans p3) R3

theorem EvT.mono {e} {P P' : Bool → Prop} (h : EvT c F e σ P) (hp : ∀ v, P v → P' v) : EvT c F e σ P' := by
  intro W env h0 A s Q E I ao kk
  exact h I ao fun b W' s' p => kk b W' s' (hp _ p)
theorem CallS.mono {n f args} {P P' : PV → Prop} (h : CallS c n f args P) (hp : ∀ v, P v → P' v) : CallS c n f args P' := by
  intro W A s v vs Q E I ao R RL kk
  exact h I ao R RL fun pv v W' s' p => kk pv v W' s' (hp _ p)
theorem CallS.le {n m f args} {P : PV → Prop} (h : CallS c n f args P) (hm : n ≤ m) : CallS c m f args P := by
  intro W A s v vs Q E I ao R RL kk
  exact h I (ao.le hm) R RL kk
theorem ExSs.mono {sts} {P P' : PFlow → Store → Prop} (h : ExSs c F sts σ P) (hp : ∀ f σ', P f σ' → P' f σ') : ExSs c F sts σ P' := by
  intro W env h0 A s Q E I ao kk
  exact h I ao fun f σ' fl W' s' p => kk f σ' fl W' s' (hp _ _ p)

end
end

section
section
variable {c : GCtx} {F : FSt} {σ : Store}

noncomputable def SlotsAt (c : GCtx) (W : Wd) (F : FSt) (env : Env) (h0 : Heap) (σ : Store) (h : Heap) (m : Str → Option Value) (adr : Str → Addr) : Prop :=
  h.Ns env.locals m ∧ (∀ x sl, σ.lookup x = some sl → SlotOk c W F env h0 h m adr x sl) ∧
    (∀ x y lx ly, σ.lookup x = some (.own lx) → σ.lookup y = some (.own ly) → x ≠ y → adr x ≠ adr y)

theorem SlotsAt.step {W env h0 h m adr W' h'} (S : SlotsAt c W F env h0 σ h m adr) (st : Step W h W' h') : SlotsAt c W' F env h0 σ h' m adr := by
  obtain ⟨hns, hsl, hdis⟩ := S
  refine ⟨ns_ext hns st.ext, fun x sl e => ?_, hdis⟩
  have := hsl x sl e
  cases sl with
  | val pv => obtain ⟨v, h1, h2⟩ := this; exact ⟨v, h1.step st.ext, h2.mono st.le⟩
  | own l =>
    obtain ⟨h1, h2, h3, h4, vs, h5, h6⟩ := this
    exact ⟨h1.step st.ext, h2, (st.low _ h5.lt).trans h3, h4, vs, h5.ext st.ext, h6.mono st.le⟩
  | view l =>
    obtain ⟨h0', a, vs, h1, h2, h3⟩ := this
    exact ⟨h0', a, vs, h1.step st.ext, h2, h3.mono st.le⟩

theorem SlotsAt.lt {W env h0 h m adr} (S : SlotsAt c W F env h0 σ h m adr) {y l} (e : σ.lookup y = some (.own l)) : adr y < h.objs.size := by
  obtain ⟨_, _, _, _, vs, ho, _⟩ := S.2.1 y _ e
  exact ho.lt

noncomputable def GRep (c : GCtx) (W : Wd) (n : Nat) (h : Heap) (v : Value) : Slot → Prop
  | .val pv => Rep c W v pv
  | .own l => l.length ≤ big ∧ ∃ a vs, v = .ref a ∧ n ≤ a ∧ W.H a = none ∧ OwnL h a vs ∧ RepL c W vs l
  | .view _ => False

theorem GRep.step {W n h v sl W' h'} (G : GRep c W n h v sl) (st : Step W h W' h') : GRep c W' n h' v sl := by
  cases sl with
  | val pv => exact Rep.mono st.le G
  | own l =>
    obtain ⟨h1, a, vs, h2, h3, h4, h5, h6⟩ := G
    exact ⟨h1, a, vs, h2, h3, (st.low _ h5.lt).trans h4, h5.ext st.ext, h6.mono st.le⟩
  | view l => exact G

noncomputable def adrOf : Value → Addr
  | .ref a => a
  | _ => 0

theorem frinv_upd {W env h0 h h' m m' adr x v sl n t} (I : FrInv c W F env h0 σ h) (S : SlotsAt c W F env h0 σ h m adr) (hfresh : ∀ y l l', sl = .own l' → σ.lookup y = some (.own l) → v ≠ .ref (adr y)) (hn0 : h0.objs.size ≤ n)
    (G : GRep c W n h v sl) (hs : Heap.SameBut t h h') (ht : h0.objs.size ≤ t) (hH : W.H t = none) (ot : ∃ o, h.get? t = some o ∧ (∀ vs, o.data ≠ .fields vs) ∧ ∀ vs k, o.data ≠ .seq vs k)
    (hns : h'.Ns env.locals m') (hv : VarIs F env h0 h' m' x v) (hother : ∀ y u, y ≠ x → VarIs F env h0 h m y u → VarIs F env h0 h' m' y u)
    (hcell : F.own = true → ∀ y, env.kindOf y = some .cell → ∃ cl, env.cells.lookup y = some cl ∧ h0.objs.size ≤ cl ∧ W.H cl = none ∧ ∃ v, h'.IsCell cl v) :
    FrInv c W F env h0 (σ.put x sl) h' ∧ SlotsAt c W F env h0 (σ.put x sl) h' m' (fun y => if y = x then adrOf v else adr y) := by
  obtain ⟨o, hot, hnf, hnq⟩ := ot
  have lne : ∀ {a items}, h.IsList a items → a ≠ t := fun {a items} L q => by
    subst q; obtain ⟨o', e, _, k, hd⟩ := L; rw [hot] at e; cases e; exact hnq _ _ hd
  have SS : SlotsAt c W F env h0 (σ.put x sl) h' m' (fun y => if y = x then adrOf v else adr y) := ?_
  · exact ⟨⟨I.inv.upd hs hH (g_none I ht) ⟨o, hot, hnf⟩, I.ext.same hs ht, by rw [hs.1]; exact I.size, I.g0, I.kind, I.scope, I.glob, I.blt, I.code, I.sld, I.loc, I.locH, hcell, I.apart, _, _, SS⟩, SS⟩
  refine ⟨hns, fun y s' e => ?_, fun y z ly lz ey ez hyz => ?_⟩
  · rw [Store.lookup_put] at e
    by_cases hyx : y = x
    · subst hyx
      rw [if_pos rfl] at e; cases e
      cases sl with
      | val pv => exact ⟨v, hv, G⟩
      | own l =>
        obtain ⟨h1, a, vs, rfl, h3, h4, h5, h6⟩ := G
        simp only [SlotOk, if_true, adrOf]
        exact ⟨hv, Nat.le_trans hn0 h3, h4, h1, vs, h5.same hs (lne h5.isList), h6⟩
      | view l => exact G.elim
    · rw [if_neg hyx] at e
      have := S.2.1 y _ e
      cases s' with
      | val pv => obtain ⟨u, h1, h2⟩ := this; exact ⟨u, hother y u hyx h1, h2⟩
      | own l =>
        obtain ⟨h1, h2, h3, h4, vs, h5, h6⟩ := this
        simp only [SlotOk, if_neg hyx]
        exact ⟨hother y _ hyx h1, h2, h3, h4, vs, h5.same hs (lne h5.isList), h6⟩
      | view l =>
        obtain ⟨h0', a, vs, h1, h2, h3⟩ := this
        exact ⟨h0', a, vs, hother y _ hyx h1, h2, h3⟩
  · rw [Store.lookup_put] at ey ez
    have key : ∀ {y l l'}, σ.lookup y = some (.own l) → some sl = some (Slot.own l') → adr y ≠ adrOf v := fun {y l l'} e1 e2 => by
      cases e2
      obtain ⟨_, a, vs, rfl, h3, _⟩ := G
      have := hfresh y l _ rfl e1
      exact fun q => this (by rw [q]; rfl)
    by_cases hy : y = x
    · have hz : z ≠ x := fun q => hyz (hy.trans q.symm)
      rw [if_pos hy] at ey; rw [if_neg hz] at ez
      simp only [hy, hz, if_true, if_false]
      exact (key ez ey).symm
    · rw [if_neg hy] at ey
      by_cases hz : z = x
      · rw [if_pos hz] at ez
        simp only [hy, hz, if_true, if_false]
        exact key ey ez
      · rw [if_neg hz] at ez
        simp only [hy, hz, if_false]
        exact S.2.2 y z ly lz ey ez hyz

noncomputable def Storable (F : FSt) (x : Str) : Prop := F.scope.names.lookup x = some .local ∨ (F.own = true ∧ F.scope.names.lookup x = some .cell)

theorem store_slot {W env h0 A m adr x v sl n} {s : Shared} {Q : Unit → Shared → Prop} {E : Value → Shared → Prop} (I : FrInv c W F env h0 σ s.heap) (S : SlotsAt c W F env h0 σ s.heap m adr)
    (hfresh : ∀ y l l', sl = .own l' → σ.lookup y = some (.own l) → v ≠ .ref (adr y)) (hn0 : h0.objs.size ≤ n) (hk : Storable F x) (G : GRep c W n s.heap v sl)
    (k : ∀ s' m', FrInv c W F env h0 (σ.put x sl) s'.heap ∧ SlotsAt c W F env h0 (σ.put x sl) s'.heap m' (fun y => if y = x then adrOf v else adr y) → SPost W h0 s W s' → KeepS F env s s' → Q () s') : wpAny c.M A (storeName env x v) Q E s := by
  have hke : env.scope.kind = .function := by rw [I.scope]; exact I.kind
  have kd : ∀ y, env.kindOf y = F.scope.names.lookup y := fun y => by show env.scope.names.lookup y = _; rw [I.scope]
  obtain ⟨oL, esL, epL, hoL, hdL, rL⟩ := S.1
  rcases hk with hk | ⟨ho, hk⟩
  · refine wpAny_storeName_local ((kd x).trans hk) S.1 (fun h' hn' hs' => k _ _ (frinv_upd I S hfresh hn0 G hs' I.loc I.locH ⟨oL, hoL, fun vs q => by (rw [hdL] at q; cases q), fun vs k q => by (rw [hdL] at q; cases q)⟩ hn' (.loc ((kd x).trans hk) (by simp)) ?_ ?_) ⟨.refl W, fun _ _ => rfl, rfl, rfl, fun b o vs e d _ => (hs'.2 b (fun q => by subst q; rw [hoL] at e; cases e; rw [hdL] at d; cases d)).trans e, fun _ _ _ _ _ _ => rfl⟩ (fun b o e h1 _ _ => (hs'.2 b h1).trans e))
      (by rw [hke]; rfl)
    · intro y u hy V
      cases V with
      | loc h1 h2 => exact .loc h1 (by simpa [hy] using h2)
      | own h2 cl h3 h4 => exact .own h2 cl h3 (h4.sameBut hs' fun q => by subst q; obtain ⟨o', e, hd⟩ := h4; rw [hoL] at e; cases e; rw [hdL] at hd; cases hd)
      | old h1 h2 cl h3 h4 => exact .old h1 h2 cl h3 h4
    · intro ho y hy
      obtain ⟨cl, h1, h2, h3, v', h4⟩ := I.cells ho y hy
      exact ⟨cl, h1, h2, h3, v', h4.sameBut hs' fun q => by subst q; obtain ⟨o', e, hd⟩ := h4; rw [hoL] at e; cases e; rw [hdL] at hd; cases hd⟩
  · have hkx := (kd x).trans hk
    obtain ⟨cl, hc, hcl, hH, v0, hv0⟩ := I.cells ho x hkx
    obtain ⟨oc, hoc, hdc⟩ := id hv0
    have hLc : env.locals ≠ cl := fun q => by subst q; rw [hoL] at hoc; cases hoc; rw [hdL] at hdc; cases hdc
    refine wpAny_storeName_cell hke hkx hc hv0 fun h' hc' hs' => k _ _ (frinv_upd I S hfresh hn0 G hs' hcl hH ⟨oc, hoc, fun vs q => by (rw [hdc] at q; cases q), fun vs k q => by (rw [hdc] at q; cases q)⟩ (S.1.sameBut hs' hLc) (.own hkx cl hc hc') ?_ ?_) ⟨.refl W, fun _ _ => rfl, rfl, rfl, fun b o vs e d _ => (hs'.2 b (fun q => by subst q; rw [hoc] at e; cases e; rw [hdc] at d; cases d)).trans e, fun _ _ _ _ _ _ => rfl⟩ (fun b o e _ h2 _ => (hs'.2 b (fun q => by subst q; rw [hoc] at e; cases e; exact h2 ho _ hdc)).trans e)
    · intro y u hy V
      cases V with
      | loc h1 h2 => exact .loc h1 h2
      | own h2 cl' h3 h4 => exact .own h2 cl' h3 (h4.sameBut hs' (I.apart ho y x cl' cl h2 hkx h3 hc hy))
      | old h1 h2 cl' h3 h4 => exact .old h1 h2 cl' h3 h4
    · intro _ y hy
      by_cases hyx : y = x
      · subst hyx; exact ⟨cl, hc, hcl, hH, _, hc'⟩
      · obtain ⟨cl', h1, h2, h3, v', h4⟩ := I.cells ho y hy
        exact ⟨cl', h1, h2, h3, v', h4.sameBut hs' (I.apart ho y x cl' cl hy hkx h1 hc hyx)⟩

theorem store_val {W env h0 A x v pv} {s : Shared} {Q : Unit → Shared → Prop} {E : Value → Shared → Prop} (I : FrInv c W F env h0 σ s.heap) (hk : Storable F x) (R : Rep c W v pv)
    (k : ∀ s', FrInv c W F env h0 (σ.put x (.val pv)) s'.heap → SPost W h0 s W s' → KeepS F env s s' → Q () s') : wpAny c.M A (storeName env x v) Q E s := by
  obtain ⟨m, adr, S⟩ := I.slots
  exact store_slot (sl := .val pv) I S (n := s.heap.objs.size) (fun _ _ _ q => by cases q) I.size hk R fun s' m' J p kp => k s' J.1 p kp

theorem AsS.name {x pos pv} {P : Store → Prop} (hk : Storable F x) (h : P (σ.put x (.val pv))) : AsS c F (.Name x pos) pv σ P := by
  intro W env h0 A s v Q E I ao R k
  show wpAny _ _ (standAt pos >>= fun _ => bindName env x v) Q E s
  exact wpAny_bind (wpAny_standAt (wpAny_bindName (store_val I hk R fun s' I' p kp => k _ _ _ h I' p kp)))

theorem ExSs.nil {P : PFlow → Store → Prop} (h : P .next σ) : ExSs c F [] σ P := by
  intro W env h0 A s Q E I ao k
  exact wpAny_execs_nil (k _ _ _ _ _ h I .next (.refl _ _ _))
theorem ExSs.cons {st rest} {P : PFlow → Store → Prop} (h : ExS c F st σ fun f σ' => match f with | .next => ExSs c F rest σ' P | f => P f σ') : ExSs c F (st :: rest) σ P := by
  intro W env h0 A s Q E I ao k
  refine wpAny_execs_cons (h I ao fun f σ' fl W' s' hp I' R p => ?_)
  cases R with
  | next => exact hp I' ao fun f σ'' fl W'' s'' hp' I'' R' p' => k _ _ _ _ _ hp' I'' R' (p.trans p')
  | brk => exact k _ _ _ _ _ hp I' .brk p
  | cont => exact k _ _ _ _ _ hp I' .cont p
  | ret v pv r => exact k _ _ _ _ _ hp I' (.ret v pv r) p

theorem ExS.ret {e pos} {P : PFlow → Store → Prop} (h : EvE c F e σ fun v => P (.ret v) σ) : ExS c F (.Return (some e) pos) σ P := by
  intro W env h0 A s Q E I ao k
  exact wpAny_Return_some (h I ao fun pv v W' s' hp p R => k _ _ _ _ _ hp (I.post p).wk (.ret v pv R) (p.sp I.size))
theorem ExS.brk {pos} {P : PFlow → Store → Prop} (h : P .brk σ) : ExS c F (.Break pos) σ P := by
  intro W env h0 A s Q E I ao k
  exact fun _ _ _ => k _ _ _ _ _ h I .brk (.refl _ _ _)
theorem ExS.if_ {t b o pos} {P : PFlow → Store → Prop} (h : EvT c F t σ fun x => if x then ExSs c F b σ P else ExSs c F o σ P) : ExS c F (.If t b o pos) σ P := by
  intro W env h0 A s Q E I ao k
  refine wpAny_If (h I ao fun x W1 s1 h1 p1 => ?_)
  have go : ∀ {b}, ExSs c F b σ P → wpAny c.M A (execs b env) Q E s1 := fun hb => hb (I.post p1) ao fun f σ' fl W' s' hp I' R p => k _ _ _ _ _ hp I' R ((p1.sp I.size).trans p)
  cases x with
  | true => exact go h1
  | false => exact go h1

noncomputable def EvG (c : GCtx) (F : FSt) (e : Expr) (σ : Store) (P : Slot → Prop) : Prop :=
  ∀ ⦃W env h0 A s⦄ ⦃Q E : Value → Shared → Prop⦄, FrInv c W F env h0 σ s.heap → AOk F.n A → (∀ sl v W' s', P sl → Post c W s W' s' → GRep c W' s.heap.objs.size s'.heap v sl → Q v s') → wpAny c.M A (eval e env) Q E s
theorem EvG.val {e} {P : Slot → Prop} (h : EvE c F e σ fun v => P (.val v)) : EvG c F e σ P := by
  intro W env h0 A s Q E I ao k
  exact h I ao fun pv v W' s' hp p R => k _ _ _ _ hp p R

theorem ExS.assignG {x pos' e pos} {P : PFlow → Store → Prop} (hk : Storable F x) (h : EvG c F e σ fun sl => P .next (σ.put x sl))
    (hs : ∀ env, swapsWith e (some (.Name x pos')) pos.line env = pure false) : ExS c F (.Assign [.Name x pos'] e pos) σ P := by
  intro W env h0 A s Q E I ao k
  obtain ⟨m, adr, S⟩ := I.slots
  refine wpAny_Assign_Name (h I ao fun sl v W' s' hp p G => ?_) (hs env)
  refine store_slot (I.post p) (SlotsAt.step S p.step) (n := s.heap.objs.size) (fun y l l' e1 e2 q => ?_) I.size hk G fun s'' m'' I'' p'' _ => k _ _ _ _ _ hp I''.1 .next ((p.sp I.size).trans p'')
  subst e1
  obtain ⟨_, a, _, e, ha, _⟩ := G
  rw [q] at e; cases e
  exact absurd (SlotsAt.lt S e2) (Nat.not_lt.mpr ha)
theorem ExS.assign {x pos' e pos} {P : PFlow → Store → Prop} (hk : Storable F x) (h : EvE c F e σ fun v => P .next (σ.put x (.val v)))
    (hs : ∀ env, swapsWith e (some (.Name x pos')) pos.line env = pure false) : ExS c F (.Assign [.Name x pos'] e pos) σ P :=
  ExS.assignG hk (EvG.val h) hs

theorem ExS.aug {x pos' op e pos v} {P : PFlow → Store → Prop} (hx : σ.lookup x = some (.val v)) (hk : Storable F x) (h : EvE c F e σ fun b => InpS c op v b fun r => P .next (σ.put x (.val r))) :
    ExS c F (.AugAssign (.Name x pos') op e pos) σ P := by
  intro W env h0 A s Q E I ao k
  obtain ⟨m, adr, hns, hsl, _⟩ := I.slots
  obtain ⟨v0, V, R⟩ := hsl x _ hx
  refine wpAny_AugAssign_Name (load_var I hns V ?_)
  refine h I ao fun b vb W1 s1 h1 p1 R1 => ?_
  refine h1 p1.inv ao.zero (R.mono p1.step.le) R1 fun pv v W2 s2 h2 p2 R2 => ?_
  exact store_val (I.post (p1.trans p2)) hk R2 fun s'' I'' p'' _ => k _ _ _ _ _ h2 I'' .next (((p1.trans p2).sp I.size).trans p'')

theorem FrInv.freeze {W env h0 h x l} (I : FrInv c W F env h0 σ h) (hx : σ.lookup x = some (.own l)) : ∃ W', FrInv c W' F env h0 (σ.put x (.val (.list l))) h ∧ W.le W' ∧ (∀ a, a < h0.objs.size → W'.H a = W.H a) ∧ ∀ b ob vs, h.get? b = some ob → ob.data = .fields vs → W'.H b = W.H b := by
  obtain ⟨m, adr, hns, hsl, hdis⟩ := I.slots
  obtain ⟨h1, h2, h3, h4, vs, h5, h6⟩ := hsl x _ hx
  obtain ⟨o, ho, hc, n, hd⟩ := h5.isList
  let W' : Wd := ⟨fun a => if a = adr x then some o else W.H a, W.C⟩
  have le : W.le W' := ⟨fun a o' e => by
    show (if a = adr x then some o else W.H a) = some o'
    by_cases q : a = adr x
    · subst q; rw [h3] at e; cases e
    · rw [if_neg q]; exact e, fun a e => e⟩
  have off : ∀ a, a ≠ adr x → W'.H a = W.H a := fun a ha => if_neg ha
  have ne : ∀ {a o'}, h.get? a = some o' → (∀ vs k, o'.data ≠ .seq vs k) → a ≠ adr x := fun {a o'} e hn q => by subst q; rw [ho] at e; cases e; exact hn _ _ hd
  refine ⟨W', ⟨⟨I.inv.base, I.inv.size, fun a o' e => ?_, fun cd hcd => ?_, I.inv.tab, I.inv.stat⟩, I.ext, I.size, I.g0, I.kind, I.scope, I.glob, I.blt, I.code, fun q1 q2 x hk => let ⟨cl, o, v, e1, e2, e3⟩ := I.sld q1 q2 x hk; ⟨cl, o, v, e1, le.1 _ _ e2, e3⟩, I.loc, ?_, fun hw y hy => ?_, I.apart, m, adr, hns, fun y sl e => ?_, fun y z ly lz ey ez hyz => ?_⟩, le,
    fun a ha => off a (Nat.ne_of_lt (Nat.lt_of_lt_of_le ha h2)), fun b ob vs e d => off b (ne e (fun vs k q => by rw [d] at q; cases q))⟩
  · by_cases q : a = adr x
    · subst q
      have : W'.H (adr x) = some o := if_pos rfl
      rw [this] at e; cases e; exact ho
    · rw [off a q] at e; exact I.inv.froz a o' e
  · obtain ⟨P, ps, e1, e2, e3, e4, e5, e6⟩ := I.inv.code cd hcd
    exact ⟨P, ps, e1, e2, e3, e4, e5, (off P (ne e2 (fun vs k q => by cases q))).trans e6⟩
  · obtain ⟨oL, es, ep, hoL, hdL, _⟩ := hns
    exact (off _ (ne hoL (fun vs k q => by rw [hdL] at q; cases q))).trans I.locH
  · obtain ⟨cl, e1, e2, e3, v, e4⟩ := I.cells hw y hy
    obtain ⟨oc, hoc, hdc⟩ := id e4
    exact ⟨cl, e1, e2, (off _ (ne hoc (fun vs k q => by rw [hdc] at q; cases q))).trans e3, v, e4⟩
  · rw [Store.lookup_put] at e
    by_cases hy : y = x
    · subst hy
      rw [if_pos rfl] at e; cases e
      exact ⟨_, h1, .list (adr y) o n vs l (if_pos rfl) hc hd (h6.mono le) h4⟩
    · rw [if_neg hy] at e
      have := hsl y _ e
      cases sl with
      | val pv => obtain ⟨u, g1, g2⟩ := this; exact ⟨u, g1, g2.mono le⟩
      | own l' =>
        obtain ⟨g1, g2, g3, g4, vs', g5, g6⟩ := this
        exact ⟨g1, g2, (off _ (hdis y x l' l e hx hy)).trans g3, g4, vs', g5, g6.mono le⟩
      | view l' =>
        obtain ⟨g0, a, vs', g1, g2, g3⟩ := this
        exact ⟨g0, a, vs', g1, g2, g3.mono le⟩
  · rw [Store.lookup_put] at ey ez
    by_cases hy : y = x
    · rw [if_pos hy] at ey; cases ey
    · by_cases hz : z = x
      · rw [if_pos hz] at ez; cases ez
      · rw [if_neg hy] at ey; rw [if_neg hz] at ez
        exact hdis y z ly lz ey ez hyz
theorem ExSs.freeze {sts} {P : PFlow → Store → Prop} (x : Str) (l : List PV) (hx : σ.lookup x = some (.own l)) (h : ExSs c F sts (σ.put x (.val (.list l))) P) : ExSs c F sts σ P := by
  intro W env h0 A s Q E I ao k
  obtain ⟨W', I', le, low, nof⟩ := I.freeze hx
  exact h I' ao fun f σ' fl W'' s'' hp I'' R p => k _ _ _ _ _ hp I'' R ⟨le.trans p.le, fun a ha => (p.low a ha).trans (low a ha), p.os, p.gens, p.keep, fun b o vs e d n => (p.nof b o vs e d n).trans (nof b o vs e d)⟩

end
end

section
section
variable {c : GCtx}

theorem mkS_length (κ : Sym → Nat) (s : List Sym) : (mkS κ s).length = s.length := by
  show (s.map κ).toArray.size = s.length
  simp
theorem mkS_append (κ : Sym → Nat) (a b : List Sym) : mkS κ a ++ mkS κ b = mkS κ (a ++ b) := by
  show Str.mk _ = Str.mk _
  simp [mkS]
theorem map_inj {κ : Sym → Nat} (hi : ∀ x y, κ x = κ y → x = y) : ∀ (a b : List Sym), a.map κ = b.map κ → a = b
  | [], [], _ => rfl
  | [], _ :: _, h => by simp at h
  | _ :: _, [], h => by simp at h
  | x :: a, y :: b, h => by
    simp at h
    rw [hi _ _ h.1, map_inj hi a b (by simpa using h.2)]
theorem mkS_inj {κ : Sym → Nat} (hi : ∀ x y, κ x = κ y → x = y) {a b : List Sym} : mkS κ a = mkS κ b ↔ a = b := by
  constructor
  · intro h
    have h1 := congrArg (fun x => x.cps.toList) h
    exact map_inj hi a b (by simpa [mkS] using h1)
  · intro h; rw [h]
theorem mkS_beq {κ : Sym → Nat} (hi : ∀ x y, κ x = κ y → x = y) (a b : List Sym) : (mkS κ a == mkS κ b) = decide (a = b) := by
  rw [Bool.eq_iff_iff]; simp [mkS_inj hi]
theorem bigLine : big ≤ sizeLine := by decide +kernel

theorem BinS.addI {a b : Int} {P : PV → Prop} (h : P (.int (a + b))) : BinS c .Add (.int a) (.int b) P := by
  intro W A s va vb Q E I ao Ra Rb k
  obtain ⟨_, rfl⟩ := Ra.inv; obtain ⟨_, rfl⟩ := Rb.inv
  exact PyProof.Rows.add_int (k _ _ _ _ h (Post.tok I _) (.int _ _))
theorem BinS.subI {a b : Int} {P : PV → Prop} (h : P (.int (a - b))) : BinS c .Sub (.int a) (.int b) P := by
  intro W A s va vb Q E I ao Ra Rb k
  obtain ⟨_, rfl⟩ := Ra.inv; obtain ⟨_, rfl⟩ := Rb.inv
  exact PyProof.Rows.sub_int (k _ _ _ _ h (Post.tok I _) (.int _ _))
theorem intBits_small {a : Int} (h : a.natAbs < 2 ^ 64) : Builtin.Int.intBits a ≤ 64 := by
  have := bits_add_le (a := a) (n := 0) h (by (first | lia | omega))
  unfold Builtin.Int.intBits at *
  by_cases h0 : a.natAbs = 0
  · simp [h0] <;> split <;> simp_all
  · have := (Nat.log2_lt h0).mpr h
    split <;> (first | lia | omega)
theorem BinS.mulI {a b : Int} {P : PV → Prop} (ha : a.natAbs < 2 ^ 64) (h : P (.int (a * b))) : BinS c .Mult (.int a) (.int b) P := by
  intro W A s va vb Q E I ao Ra Rb k
  obtain ⟨_, rfl⟩ := Ra.inv; obtain ⟨_, rfl⟩ := Rb.inv
  exact PyProof.Rows.mul_int (k _ _ _ _ h (Post.tok I _) (.int _ _)) (IntMulOk.of_left (intBits_small ha))
theorem BinS.divI {a b : Int} {P : PV → Prop} (hb : b ≠ 0) (hs : b.natAbs < 1073741824) (h : P (.int (a.fdiv b))) : BinS c .FloorDiv (.int a) (.int b) P := by
  intro W A s va vb Q E I ao Ra Rb k
  obtain ⟨_, rfl⟩ := Ra.inv; obtain ⟨_, rfl⟩ := Rb.inv
  exact PyProof.Rows.floordiv_int hb (k _ _ _ _ h (Post.tok I _) (.int _ _)) (Or.inl (PyProof.noPylong_small hs))
theorem BinS.modI {a b : Int} {P : PV → Prop} (hb : b ≠ 0) (h : P (.int (a.fmod b))) : BinS c .Mod (.int a) (.int b) P := by
  intro W A s va vb Q E I ao Ra Rb k
  obtain ⟨_, rfl⟩ := Ra.inv; obtain ⟨_, rfl⟩ := Rb.inv
  exact PyProof.Rows.mod_int hb (k _ _ _ _ h (Post.tok I _) (.int _ _))
theorem InpS.addI {a b : Int} {P : PV → Prop} (h : P (.int (a + b))) : InpS c .Add (.int a) (.int b) P := by
  intro W A s va vb Q E I ao Ra Rb k
  obtain ⟨_, rfl⟩ := Ra.inv; obtain ⟨_, rfl⟩ := Rb.inv
  exact PyProof.Rows.iadd_int (k _ _ _ _ h (Post.tok I _) (.int _ _))
theorem InpS.subI {a b : Int} {P : PV → Prop} (h : P (.int (a - b))) : InpS c .Sub (.int a) (.int b) P := by
  intro W A s va vb Q E I ao Ra Rb k
  obtain ⟨_, rfl⟩ := Ra.inv; obtain ⟨_, rfl⟩ := Rb.inv
  exact PyProof.Rows.isub_int (k _ _ _ _ h (Post.tok I _) (.int _ _))
theorem UnS.negI {a : Int} {P : PV → Prop} (h : P (.int (-a))) : UnS c .USub (.int a) P := by
  intro W A s va Q E I ao Ra k
  obtain ⟨_, rfl⟩ := Ra.inv
  exact PyProof.Rows.neg_int (k _ _ _ _ h (Post.tok I _) (.int _ _))

theorem CmpS.ltI {a b : Int} {P : Bool → Prop} (h : P (decide (a < b))) : CmpS c .Lt (.int a) (.int b) P := by
  intro W A s va vb Q E I ao Ra Rb k
  obtain ⟨_, rfl⟩ := Ra.inv; obtain ⟨_, rfl⟩ := Rb.inv
  exact PyProof.Rows.lt_int (k _ _ _ h (Post.refl I))
theorem CmpS.gtI {a b : Int} {P : Bool → Prop} (h : P (decide (b < a))) : CmpS c .Gt (.int a) (.int b) P := by
  intro W A s va vb Q E I ao Ra Rb k
  obtain ⟨_, rfl⟩ := Ra.inv; obtain ⟨_, rfl⟩ := Rb.inv
  exact PyProof.Rows.gt_int (k _ _ _ h (Post.refl I))
theorem CmpS.leI {a b : Int} {P : Bool → Prop} (h : P (decide (a ≤ b))) : CmpS c .LtE (.int a) (.int b) P := by
  intro W A s va vb Q E I ao Ra Rb k
  obtain ⟨_, rfl⟩ := Ra.inv; obtain ⟨_, rfl⟩ := Rb.inv
  exact PyProof.Rows.le_int (k _ _ _ h (Post.refl I))
theorem CmpS.geI {a b : Int} {P : Bool → Prop} (h : P (decide (b ≤ a))) : CmpS c .GtE (.int a) (.int b) P := by
  intro W A s va vb Q E I ao Ra Rb k
  obtain ⟨_, rfl⟩ := Ra.inv; obtain ⟨_, rfl⟩ := Rb.inv
  exact PyProof.Rows.ge_int (k _ _ _ h (Post.refl I))
theorem CmpS.eqI {a b : Int} {P : Bool → Prop} (h : P (decide (a = b))) : CmpS c .Eq (.int a) (.int b) P := by
  intro W A s va vb Q E I ao Ra Rb k
  obtain ⟨_, rfl⟩ := Ra.inv; obtain ⟨_, rfl⟩ := Rb.inv
  exact PyProof.Rows.eq_int (k (a == b) _ _ (by rw [show (a == b) = decide (a = b) from by rw [Bool.eq_iff_iff]; simp]; exact h) (Post.refl I))
theorem CmpS.neI {a b : Int} {P : Bool → Prop} (h : P (decide (a ≠ b))) : CmpS c .NotEq (.int a) (.int b) P := by
  intro W A s va vb Q E I ao Ra Rb k
  obtain ⟨_, rfl⟩ := Ra.inv; obtain ⟨_, rfl⟩ := Rb.inv
  exact PyProof.Rows.ne_int (k (a != b) _ _ (by rw [show (a != b) = decide (a ≠ b) from by rw [Bool.eq_iff_iff]; simp]; exact h) (Post.refl I))
theorem CmpS.eqS {a b : List Sym} {P : Bool → Prop} (ok : GOk c) (h : P (decide (a = b))) : CmpS c .Eq (.str a) (.str b) P := by
  intro W A s va vb Q E I ao Ra Rb k
  obtain ⟨_, rfl, _⟩ := Ra.inv; obtain ⟨_, rfl, _⟩ := Rb.inv
  exact PyProof.Rows.eq_str (k _ _ _ (by rw [mkS_beq ok.inj]; exact h) (Post.refl I))
noncomputable def PV.isNone : PV → Bool
  | .none => true
  | _ => false
theorem rep_isNone {W v pv} (ok : GOk c) (R : Rep c W v pv) : (v == .none) = pv.isNone ∧ PySem.plainIs v .none = true := by
  cases R with
  | glob x _ h1 h2 =>
    obtain ⟨⟨r, mk⟩, e⟩ := Option.isSome_iff_exists.mp h2
    obtain ⟨a, _, _, _, _, _, _, _, e2, _⟩ := ok.fn x r mk e
    rw [h1] at e2; cases e2; exact ⟨rfl, rfl⟩
  | _ => exact ⟨rfl, rfl⟩
theorem CmpS.isNone {a : PV} {P : Bool → Prop} (ok : GOk c) (h : P a.isNone) : CmpS c .Is a .none P := by
  intro W A s va vb Q E I ao Ra Rb k
  obtain rfl := Rb.inv
  exact wpAny_is_plain (rep_isNone ok Ra).2 (k _ _ _ (by rw [(rep_isNone ok Ra).1]; exact h) (Post.refl I))
theorem TruS.bool {b : Bool} {P : Bool → Prop} (h : P b) : TruS c (.bool b) P := by
  intro W A s va Q E I ao Ra k
  obtain rfl := Ra.inv
  exact wpAny_truthy_bool (k _ _ _ h (Post.refl I))
theorem TruS.none {P : Bool → Prop} (h : P false) : TruS c .none P := by
  intro W A s va Q E I ao Ra k
  obtain rfl := Ra.inv
  exact fun _ _ _ => k _ _ _ h (Post.refl I)
theorem TruS.int {a : Int} {P : Bool → Prop} (h : P (decide (a ≠ 0))) : TruS c (.int a) P := by
  intro W A s va Q E I ao Ra k
  obtain ⟨_, rfl⟩ := Ra.inv
  exact PyProof.Rows.truthy_int (k (a != 0) _ _ (by rw [show (a != 0) = decide (a ≠ 0) from by rw [Bool.eq_iff_iff]; simp]; exact h) (Post.refl I))
theorem TruS.str {a : List Sym} {P : Bool → Prop} (h : P (decide (a ≠ []))) : TruS c (.str a) P := by
  intro W A s va Q E I ao Ra k
  obtain ⟨t, rfl, hl⟩ := Ra.inv
  have hlen : ((mkS c.κ a).length : Int) < 9223372036854775808 := by
    rw [mkS_length]; have : a.length ≤ 1048576 := hl; (first | lia | omega)
  refine PyProof.Rows.SBL.truthy hlen (k (((mkS c.κ a).length : Int) != 0) _ _ ?_ (Post.tok I _))
  rw [show ((((mkS c.κ a).length : Nat) : Int) != 0) = decide (a ≠ []) from by
    rw [mkS_length, Bool.eq_iff_iff]; cases a <;> simp <;> (first | lia | omega)]
  exact h

theorem BinS.addS {a b : List Sym} {P : PV → Prop} (hl : (a ++ b).length ≤ big) (h : P (.str (a ++ b))) : BinS c .Add (.str a) (.str b) P := by
  intro W A s va vb Q E I ao Ra Rb k
  obtain ⟨_, rfl, _⟩ := Ra.inv; obtain ⟨_, rfl, _⟩ := Rb.inv
  refine PyProof.Rows.add_str (fun t' tk => ?_) ?_
  · rw [mkS_append]; exact k _ _ _ _ h (Post.tok I _) (.str _ _ hl)
  · rw [mkS_length, mkS_length, ← List.length_append]; exact Nat.le_trans hl bigLine
end
end

section
theorem runs_size {M : Model} {Γ : Ctx} {p : Pos} {t : Sem Fin} {fs : List Frame} {s s' : Shared} {e : End} (h : Runs M Γ p t fs s e s') : s.heap.objs.size ≤ s'.heap.objs.size := by
  induction h <;> (try simp only [Shared.setGen, Heap.size_push, Heap.size_after_update] at *) <;> (first | lia | omega)
theorem wakes_size {M : Model} {Γ : Ctx} {p : Pos} {g : Nat} {r : Resume} {s s' : Shared} {res : GenResult} (h : Wakes M Γ p g r s res s') : s.heap.objs.size ≤ s'.heap.objs.size := by
  unfold Wakes at h
  split at h
  · exact h.elim
  · split at h
    · obtain ⟨e₁, s₁, hr, _, _, rfl⟩ := h; exact (runs_size hr : (s.setGen g .running).heap.objs.size ≤ s₁.heap.objs.size)
    · rw [h.2]; exact Nat.le_refl _
    · rw [h.2]; exact Nat.le_refl _
  · obtain ⟨e₁, s₁, hr, _, _, rfl⟩ := h; exact (runs_size hr : (s.setGen g .running).heap.objs.size ≤ s₁.heap.objs.size)
  · rw [h.2]; exact Nat.le_refl _
  · rw [h.2]; exact Nat.le_refl _

theorem wp_size {α : Type} (M : Model) (Γ : Ctx) (n : Nat) (t : Sem α) : ∀ (Q : α → Pos → Shared → Prop) (E : Value → Pos → Shared → Prop) (p : Pos) (s : Shared), n ≤ s.heap.objs.size → Sem.wp M Γ t Q E p s →
    Sem.wp M Γ t (fun a p' s' => n ≤ s'.heap.objs.size ∧ Q a p' s') (fun e p' s' => n ≤ s'.heap.objs.size ∧ E e p' s') p s := by
  induction t with
  | pure a => intro Q E p s hn h; exact ⟨hn, h⟩
  | raise e => intro Q E p s hn h; exact ⟨hn, h⟩
  | unsupported _ => intro Q E p s _ h; exact h
  | finish _ => intro Q E p s _ h; exact h
  | rule _ k ih => intro Q E p s hn h; exact ih () Q E p s hn h
  | «at» p' k ih => intro Q E p s hn h; exact ih () Q E p' s hn h
  | load a _ k ih => intro Q E p s hn h; obtain ⟨o, ho, h⟩ := h; exact ⟨o, ho, ih o Q E p s hn h⟩
  | update a _ f k ih => intro Q E p s hn h; exact ⟨h.1, ih () Q E p _ (by simpa using hn) h.2⟩
  | loadIfAlive a k ih => intro Q E p s hn h; exact ih _ Q E p s hn h
  | point _ k ih => intro Q E p s hn h; exact ih () Q E p s hn h
  | register _ _ => intro Q E p s _ h; exact h
  | alloc o k ih => intro Q E p s hn h; exact ih _ Q E p _ (by simp; (first | lia | omega)) h
  | fresh k ih => intro Q E p s hn h; exact ih _ Q E p _ hn h
  | ask k ih => intro Q E p s hn h; exact ih _ Q E p s hn h
  | choose src m k ih => intro Q E p s hn h; exact ⟨h.1, ih _ Q E p _ hn h.2⟩
  | os q _ k ih => intro Q E p s hn h; exact ih _ Q E p _ hn h
  | call c hd _ _ k ih => intro Q E p s hn h; obtain ⟨r, s', hr, h⟩ := h; exact ⟨r, s', hr, ih r Q E p s' (Nat.le_trans hn (runs_size hr)) h⟩
  | handled own k ih => intro Q E p s hn h; exact ih _ Q E p s hn h
  | genState g k ih => intro Q E p s hn h; obtain ⟨st, hs, h⟩ := h; exact ⟨st, hs, ih _ Q E p s hn h⟩
  | newGen c k ih => intro Q E p s hn h; exact ih _ Q E p _ hn h
  | resume g r _ k ih => intro Q E p s hn h; obtain ⟨res, s', hw, h⟩ := h; exact ⟨res, s', hw, ih res Q E p s' (Nat.le_trans hn (wakes_size hw)) h⟩
  | yield _ _ _ _ => intro Q E p s _ h; exact h
  | stack k ih => intro Q E p s hn h; exact ih _ Q E p s hn h
  | fork _ _ => intro Q E p s _ h; exact h
  | thread k ih => intro Q E p s hn h; exact ih _ Q E p s hn h
  | await _ _ _ _ _ => intro Q E p s _ h; exact h

theorem wpAny_size {α : Type} {M : Model} {A : Around} {s : Shared} {t : Sem α} {Q : α → Shared → Prop} {E : Value → Shared → Prop}
    (h : wpAny M A t (fun a s' => s.heap.objs.size ≤ s'.heap.objs.size → Q a s') E s) : wpAny M A t Q E s :=
  fun Γ p hΓ => Sem.wp_mono M Γ _ (fun _ _ _ x => x.2 x.1) (fun _ _ _ x => x.2) p s (wp_size M Γ s.heap.objs.size t _ _ p s (Nat.le_refl _) (h Γ p hΓ))
end

section
section
variable {c : GCtx} {F : FSt} {σ : Store}

theorem Inv.grow {W h h'} (I : Inv c W h) (k : ∀ b o, h.get? b = some o → h'.get? b = some o) (hs : h.objs.size ≤ h'.objs.size) : Inv c W h' :=
  ⟨fun b o e => k b o (I.base b o e), Nat.le_trans I.size hs, fun a o e => k a o (I.froz a o e), fun cd hc => by
    obtain ⟨P, ps, h1, h2, h3, h4, h5, h6⟩ := I.code cd hc
    exact ⟨P, ps, h1.keeps k, k _ _ h2, h3, h4, h5, h6⟩, fun q hq => by obtain ⟨ps, e⟩ := I.tab q hq; exact ⟨ps, k _ _ e⟩, I.stat⟩
theorem Inv.push {W h} (I : Inv c W h) (o : Obj) : Inv c W (h.push o) := I.grow (fun _ _ e => Heap.get?_push_of_some _ e) (by rw [Heap.size_push]; (first | lia | omega))
theorem Step.grow {W h h'} (k : ∀ b o, h.get? b = some o → h'.get? b = some o) (hs : h.objs.size ≤ h'.objs.size) : Step W h W h' := ⟨.of_keep k, hs, .refl _, fun _ _ => rfl⟩
theorem Post.grow {W} {s s' : Shared} (I : Inv c W s.heap) (k : ∀ b o, s.heap.get? b = some o → s'.heap.get? b = some o) (hs : s.heap.objs.size ≤ s'.heap.objs.size) (hos : s'.os = s.os := by rfl) (hg : s'.gens = s.gens := by rfl) : Post c W s W s' :=
  ⟨I.grow k hs, .grow k hs, hos, hg⟩
theorem Post.push {W} {s : Shared} (I : Inv c W s.heap) (o : Obj) (t : Nat) : Post c W s W { s with heap := s.heap.push o, toks := t } :=
  Post.grow I (fun _ _ e => Heap.get?_push_of_some _ e) (by show _ ≤ (s.heap.push o).objs.size; rw [Heap.size_push]; (first | lia | omega))

noncomputable def Wd.add (W : Wd) (a : Addr) (o : Obj) : Wd := ⟨fun b => if b = a then some o else W.H b, W.C⟩
theorem Wd.add_self (W : Wd) (a : Addr) (o : Obj) : (W.add a o).H a = some o := if_pos rfl
theorem Wd.le_add {W : Wd} {a : Addr} (o : Obj) (h : W.H a = none) : W.le (W.add a o) := ⟨fun b o' e => by
  show (if b = a then some o else W.H b) = some o'
  by_cases q : b = a
  · subst q; rw [h] at e; cases e
  · rw [if_neg q]; exact e, fun _ e => e⟩
theorem Inv.fresh {W h} (I : Inv c W h) {a : Addr} (ha : h.objs.size ≤ a) : W.H a = none := by
  cases e : W.H a with
  | none => rfl
  | some o => exact absurd (Heap.lt_size (I.froz a o e)) (Nat.not_lt.mpr ha)
theorem Inv.add {W h} (I : Inv c W h) {a : Addr} {o : Obj} (ho : h.get? a = some o) (hn : ∀ ps, o ≠ tabObj ps) : Inv c (W.add a o) h := by
  have off : ∀ b, b ≠ a → (W.add a o).H b = W.H b := fun b hb => if_neg hb
  refine ⟨I.base, I.size, fun b o' e => ?_, fun cd hc => ?_, I.tab, I.stat⟩
  · by_cases q : b = a
    · subst q; rw [Wd.add_self] at e; cases e; exact ho
    · rw [off b q] at e; exact I.froz b o' e
  · obtain ⟨P, ps, h1, h2, h3, h4, h5, h6⟩ := I.code cd hc
    exact ⟨P, ps, h1, h2, h3, h4, h5, (off P (fun q => by subst q; rw [ho] at h2; cases h2; exact hn _ rfl)).trans h6⟩
theorem Post.add {W W'} {s s' : Shared} (p : Post c W s W' s') {a : Addr} {o : Obj} (ha : s.heap.objs.size ≤ a) (hH : W'.H a = none) (ho : s'.heap.get? a = some o) (hn : ∀ ps, o ≠ tabObj ps) : Post c W s (W'.add a o) s' :=
  ⟨p.inv.add ho hn, ⟨p.step.ext, p.step.size, p.step.le.trans (Wd.le_add o hH), fun b hb => (if_neg (Nat.ne_of_lt (Nat.lt_of_lt_of_le hb ha))).trans (p.step.low b hb)⟩, p.os, p.gens⟩
theorem Post.alloc {W} {s : Shared} (I : Inv c W s.heap) (o : Obj) (t : Nat) (hf : o.isFreed = false) (hn : ∀ ps, o ≠ tabObj ps) : Post c W s (W.add s.heap.objs.size o) { s with heap := s.heap.push o, toks := t } :=
  (Post.push I o t).add (Nat.le_refl _) (I.fresh (Nat.le_refl _)) (Heap.get?_push_size _ hf) hn

theorem rep_list {W} {a : Addr} {vs : List Value} {l : List PV} {o : Obj} {n : Nat} (h1 : W.H a = some o) (h2 : o.cls = .type "list") (h3 : o.data = .seq vs.toArray n) (h4 : RepL c W vs l) (h5 : l.length ≤ big) : Rep c W (.ref a) (.list l) :=
  .list a o n vs l h1 h2 h3 h4 h5

theorem GRep.freeze {W W' n v l} {s s' : Shared} (p : Post c W s W' s') (hn : s.heap.objs.size ≤ n) (G : GRep c W' n s'.heap v (.own l)) : ∃ W'', Post c W s W'' s' ∧ Rep c W'' v (.list l) := by
  obtain ⟨h1, a, vs, rfl, h3, h4, h5, h6⟩ := G
  obtain ⟨o, ho, hc, k, hd⟩ := h5.isList
  exact ⟨_, p.add (Nat.le_trans hn h3) h4 ho (fun ps q => by rw [q] at hd; cases hd), rep_list (Wd.add_self ..) hc hd (h6.mono (Wd.le_add o h4)) h1⟩
theorem EvE.ofG {e} {P : PV → Prop} (h : EvG c F e σ fun sl => match sl with | .own l => P (.list l) | .val v => P v | .view _ => False) : EvE c F e σ P := by
  intro W env h0 A s Q E I ao kk
  refine h I ao fun sl v W' s' hp p G => ?_
  cases sl with
  | val pv => exact kk _ _ _ _ hp p G
  | own l => obtain ⟨W'', p', R⟩ := G.freeze p (Nat.le_refl _); exact kk _ _ _ _ hp p' R
  | view l => exact hp.elim

noncomputable def slc {α : Type} (lo hi : Option Int) (l : List α) : List α := (l.drop (lo.elim 0 (clipAt l.length))).take (hi.elim l.length (clipAt l.length) - lo.elim 0 (clipAt l.length))
theorem clip_le (n : Nat) (i : Int) : clipAt n i ≤ n := by unfold clipAt; split <;> (first | lia | omega)
theorem strIdx (lo hi : Option Int) (n : Nat) : Builtin.Str.strSliceIndices lo hi 1 n = (List.range (hi.elim n (clipAt n) - lo.elim 0 (clipAt n))).map (lo.elim 0 (clipAt n) + ·) := by
  have h : Builtin.Str.strSliceIndices lo hi 1 n = sliceRange ((lo.elim 0 (clipAt n) : Nat) : Int) ((hi.elim n (clipAt n) : Nat) : Int) 1 := by
    unfold Builtin.Str.strSliceIndices
    cases lo <;> cases hi <;> simp [clipAt_cast]
  rw [h, sliceRange_one]
noncomputable def PV.part : PV → Option (Option Int)
  | .int i => Option.some (Option.some i)
  | .none => Option.some Option.none
  | _ => Option.none
noncomputable def EvP (c : GCtx) (F : FSt) : Option Expr → Store → (Option Int → Prop) → Prop
  | none, _, P => P none
  | some e, σ, P => EvE c F e σ fun pv => ∃ r, pv.part = some r ∧ P r

theorem EvP.run {o : Option Expr} {P : Option Int → Prop} (h : EvP c F o σ P) {W env h0 A s} {Q E : Value → Shared → Prop} (I : FrInv c W F env h0 σ s.heap) (ao : AOk F.n A)
    (k : ∀ r W' s' (u : Option (Int × Tok)), P r → Post c W s W' s' → u.map (·.1) = r → Q (partValue u) s') : wpAny c.M A (evalPart o env) Q E s := by
  cases o with
  | none => exact wpAny_pure (k none _ _ none h (.refl I.inv) rfl)
  | some e =>
    refine h I ao fun pv v W' s' hp p R => ?_
    obtain ⟨r, hr, hP⟩ := hp
    cases R with
    | int i t => cases hr; exact k _ _ _ (some (i, t)) hP p rfl
    | none => cases hr; exact k _ _ _ none hP p rfl
    | _ => cases hr

theorem isPart_of (u : Option (Int × Tok)) : IsPart (partValue u) (u.map (·.1)) := by
  cases u with
  | none => exact .none
  | some p => exact .int _ _

noncomputable def slcX {α : Type} (lo hi : Option Int) (st : Int) (l : List α) : List α := (Builtin.Str.strSliceIndices lo hi st l.length).filterMap (l[·]?)
theorem slcX_length {α : Type} (lo hi : Option Int) (st : Int) (l : List α) (h0 : st ≠ 0) : (slcX lo hi st l).length ≤ l.length := by
  unfold slcX
  refine Nat.le_trans (List.length_filterMap_le ..) ?_
  unfold Builtin.Str.strSliceIndices
  refine sliceRange_length_le _ _ _ _ (fun h => ?_) (fun h => ?_) <;> cases lo <;> cases hi <;> simp [h] <;> (first | lia | omega)
theorem slcX_map {α β : Type} (f : α → β) (lo hi : Option Int) (st : Int) (l : List α) : (slcX lo hi st l).map f = slcX lo hi st (l.map f) := by
  unfold slcX
  rw [List.map_filterMap, List.length_map]
  congr 1
  funext i
  simp
theorem repL_pick {W} {vs : List Value} {l : List PV} (R : RepL c W vs l) : ∀ is : List Nat, RepL c W (is.filterMap (vs[·]?)) (is.filterMap (l[·]?))
  | [] => .nil
  | i :: is => by
    simp only [List.filterMap_cons]
    cases e : l[i]? with
    | none =>
      have hv : vs[i]? = none := by rw [List.getElem?_eq_none_iff] at e ⊢; rw [R.length]; exact e
      rw [hv]; exact repL_pick R is
    | some pv =>
      obtain ⟨v, hv, r⟩ := R.get i e
      rw [hv]; exact .cons _ _ _ _ r (repL_pick R is)
theorem slc_eq_X {α : Type} (lo hi : Option Int) (l : List α) : slc lo hi l = slcX lo hi 1 l := by
  unfold slcX
  rw [strIdx]
  have := pick_run l.toArray (lo.elim 0 (clipAt l.length)) (hi.elim l.length (clipAt l.length) - lo.elim 0 (clipAt l.length))
  simp only [List.getElem?_toArray] at this
  rw [this]; rfl

noncomputable def SlcP (o : PV) (l u : Option Int) (P : PV → Prop) : Prop := match o with
  | .str s => P (.str (slc l u s))
  | .list xs => P (.list (slc l u xs))
  | _ => False
noncomputable def SlcXP (o : PV) (l u : Option Int) (st : Int) (P : PV → Prop) : Prop := match o with
  | .str s => P (.str (slcX l u st s))
  | .list xs => P (.list (slcX l u st xs))
  | _ => False

theorem slice_any {W A} {s : Shared} {Q E : Value → Shared → Prop} {vo : Value} {o : PV} {a : Addr} {l u st : Option (Int × Tok)} {P : PV → Prop} (I : Inv c W s.heap) (R : Rep c W vo o)
    (hs : s.heap.get? a = some { cls := .type "slice", data := .fields #[partValue l, partValue u, partValue st] }) (h0 : (st.map (·.1)).getD 1 ≠ 0)
    (h : SlcXP o (l.map (·.1)) (u.map (·.1)) ((st.map (·.1)).getD 1) P) (k : KontV c W s P Q) (value slice : Expr) (hsl : ∃ ops, subscripted slice false vo (.ref a) = operate ops (getItem vo (.ref a))) :
    wpAny c.M A (subscriptTail value slice vo (.ref a)) Q E s := by
  obtain ⟨ops, hsl⟩ := hsl
  cases R with
  | str x t hl =>
    refine tail_any (T := "str") rfl slot_str_getitem.lookup (wpAny_getItem_str_slice (l := l) (u := u) (st := st) ⟨_, hs, rfl, rfl⟩ (by simpa using h0) ?_) hsl
    have e : (⟨((slicePicked (mkS c.κ x) l u st).filterMap ((mkS c.κ x).cps[·]?)).toArray⟩ : Str) = mkS c.κ (slcX (l.map (·.1)) (u.map (·.1)) ((st.map (·.1)).getD 1) x) := by
      show Str.mk _ = Str.mk _
      rw [slcX_map]
      unfold slicePicked slcX
      rw [mkS_length, List.length_map]
      simp [mkS]
    unfold sliceMade
    split
    · rename_i hq
      simp only [Bool.and_eq_true, beq_iff_eq] at hq
      refine k _ _ _ _ h (Post.refl I) ?_
      have : slcX (l.map (·.1)) (u.map (·.1)) ((st.map (·.1)).getD 1) x = x := by
        rw [hq.1, ← slc_eq_X]
        have h2 := hq.2
        unfold slicePicked at h2
        rw [hq.1, mkS_length, strIdx, List.length_map, List.length_range] at h2
        have hc1 : (u.map (·.1)).elim x.length (clipAt x.length) ≤ x.length := by cases u with | none => exact Nat.le_refl _ | some p => exact clip_le _ _
        have hz : (l.map (·.1)).elim 0 (clipAt x.length) = 0 ∨ x.length = 0 := by (first | lia | omega)
        unfold slc
        rcases hz with hz | hz
        · rw [hz] at h2 ⊢; rw [List.drop_zero, h2, List.take_length]
        · have : x = [] := List.length_eq_zero_iff.mp hz
          subst this; simp
      rw [this]
      exact .str _ _ hl
    · rw [e]
      have hl' : (slcX (l.map (·.1)) (u.map (·.1)) ((st.map (·.1)).getD 1) x).length ≤ big := Nat.le_trans (slcX_length _ _ _ _ h0) hl
      exact ⟨by rw [mkS_length]; exact Nat.le_trans hl' bigLine, k _ _ _ _ h (Post.tok I _) (.str _ _ hl')⟩
  | list b ob n vs xs h1 h2 h3 h4 h5 =>
    have hL : s.heap.IsList b vs.toArray := ⟨ob, I.froz _ _ h1, h2, n, h3⟩
    have hz : vs.length ≤ big := by rw [h4.length]; exact h5
    have hst : st.map (·.1) ≠ some 0 := fun q => by rw [q] at h0; exact h0 rfl
    refine tail_any hL.typeIs slot_list_getitem.lookup (wpAny_getItem_list_slice hL ⟨_, hs, rfl, rfl⟩ (isPart_of l) (isPart_of u) (isPart_of st) hst ?_ (by rw [List.size_toArray]; exact Nat.le_trans hz bigLine)) hsl
    have e : slicePick vs.toArray (l.map (·.1)) (u.map (·.1)) (st.map (·.1)) = (slcX (l.map (·.1)) (u.map (·.1)) ((st.map (·.1)).getD 1) vs).toArray := by
      simp only [slicePick, slcX, sliceBounds, Builtin.Str.strSliceIndices, List.size_toArray, List.getElem?_toArray]
      cases l <;> cases u <;> rfl
    rw [e]
    have hR : RepL c W (slcX (l.map (·.1)) (u.map (·.1)) ((st.map (·.1)).getD 1) vs) (slcX (l.map (·.1)) (u.map (·.1)) ((st.map (·.1)).getD 1) xs) := by
      unfold slcX; rw [h4.length]; exact repL_pick h4 _
    refine k _ _ _ _ h (Post.alloc I { cls := .type "list", data := .seq (slcX (l.map (·.1)) (u.map (·.1)) ((st.map (·.1)).getD 1) vs).toArray } s.toks rfl (fun ps q => by cases q)) ?_
    exact rep_list (Wd.add_self ..) rfl rfl (hR.mono (Wd.le_add _ (I.fresh (Nat.le_refl _)))) (Nat.le_trans (slcX_length _ _ _ _ h0) h5)
  | _ => exact h.elim

theorem EvE.slice {v lo hi p pos} {P : PV → Prop} (h : EvE c F v σ fun o => EvP c F lo σ fun l => EvP c F hi σ fun u => SlcP o l u P) : EvE c F (.Subscript v (.Slice lo hi Option.none p) pos) σ P := by
  intro W env h0 A s Q E I ao kk
  refine Subscript_ (h I ao fun o vo W1 s1 h1 p1 R1 => wpAny_Slice ?_)
  refine EvP.run h1 (I.post p1) ao fun l W2 s2 l' h2 p2 e2 => ?_
  refine EvP.run h2 (I.post (p1.trans p2)) ao fun u W3 s3 u' h3 p3 e3 => wpAny_pure ?_
  subst e2; subst e3
  have pp := (p1.trans p2).trans p3
  refine slice_any (l := l') (u := u') (st := Option.none) (P := P) (pp.inv.push _) (R1.mono (p2.trans p3).step.le) (Heap.get?_push_size _ rfl) (by simp) ?_ (fun pv v W4 s4 h4 p4 R4 => kk _ _ _ _ h4 ((pp.trans (Post.push pp.inv _ _)).trans p4) R4) v _ ⟨_, rfl⟩
  cases o <;> first | exact h3 | (simp only [SlcP, slc_eq_X] at h3; exact h3)
theorem EvE.sliceX {v lo hi e p pos} {P : PV → Prop} (h : EvE c F v σ fun o => EvP c F lo σ fun l => EvP c F hi σ fun u => EvE c F e σ fun x => ∃ st, x = .int st ∧ st ≠ 0 ∧ SlcXP o l u st P) : EvE c F (.Subscript v (.Slice lo hi (Option.some e) p) pos) σ P := by
  intro W env h0 A s Q E I ao kk
  refine Subscript_ (h I ao fun o vo W1 s1 h1 p1 R1 => wpAny_Slice ?_)
  refine EvP.run h1 (I.post p1) ao fun l W2 s2 l' h2 p2 e2 => ?_
  refine EvP.run h2 (I.post (p1.trans p2)) ao fun u W3 s3 u' h3 p3 e3 => ?_
  subst e2; subst e3
  have pp := (p1.trans p2).trans p3
  refine h3 (I.post pp) ao fun x vx W4 s4 h4 p4 R4 => ?_
  obtain ⟨st, rfl, hst, hP⟩ := h4
  obtain ⟨t, rfl⟩ := R4.inv
  have pq := pp.trans p4
  exact slice_any (l := l') (u := u') (st := Option.some (st, t)) (P := P) (pq.inv.push _) (R1.mono ((p2.trans p3).trans p4).step.le) (Heap.get?_push_size _ rfl) hst hP (fun pv v W5 s5 h5 p5 R5 => kk _ _ _ _ h5 ((pq.trans (Post.push pq.inv _ _)).trans p5) R5) v _ ⟨_, rfl⟩

noncomputable def IdxS (c : GCtx) (o i : PV) (P : PV → Prop) : Prop :=
  ∀ ⦃W A s vo vi⦄ ⦃Q E : Value → Shared → Prop⦄ (value slice : Expr), Inv c W s.heap → AOk 0 A → Rep c W vo o → Rep c W vi i → (∃ ops, subscripted slice false vo vi = operate ops (getItem vo vi)) → KontV c W s P Q → wpAny c.M A (subscriptTail value slice vo vi) Q E s
theorem EvE.sub {v i pos} {P : PV → Prop} (h : EvE c F v σ fun o => EvE c F i σ fun x => IdxS c o x P) (hs : ∀ o x, subscripted i false o x = operate [o, x] (getItem o x)) : EvE c F (.Subscript v i pos) σ P := by
  intro W env h0 A s Q E I ao kk
  refine Subscript_ (h I ao fun o vo W1 s1 h1 p1 R1 => ?_)
  refine h1 (I.post p1) ao fun x vx W2 s2 h2 p2 R2 => ?_
  exact h2 v i p2.inv ao.zero (R1.mono p2.step.le) R2 ⟨_, hs _ _⟩ fun pv v W3 s3 h3 p3 R3 => kk _ _ _ _ h3 ((p1.trans p2).trans p3) R3
theorem IdxS.str {s : List Sym} {i : Int} {x : Sym} {P : PV → Prop} (j : Nat) (hr : -(2 ^ 63) ≤ i ∧ i < 2 ^ 63) (hj : seqIndex? i s.length = some j) (hx : s[j]? = some x) (h : P (.str [x])) : IdxS c (.str s) (.int i) P := by
  intro W A st vo vi Q E value slice I ao Ro Ri hsl kk
  obtain ⟨ops, hsl⟩ := hsl
  obtain ⟨_, rfl, _⟩ := Ro.inv; obtain ⟨_, rfl⟩ := Ri.inv
  refine tail_any (T := "str") rfl F.slot_str_getitem.lookup (PyProof.Rows.getItem_str (c := c.κ x) (by simp; (first | lia | omega)) ?_ (kk _ _ _ _ h (Post.tok I _) (.str [x] _ (show 1 ≤ big by decide +kernel)))) hsl
  rw [mkS_length, hj]
  show (s.map c.κ).toArray[j]? = some (c.κ x)
  simp [hx]
theorem list_item {A s} {Q E : Value → Shared → Prop} {a : Addr} {vs : List Value} {i : Int} {t : Tok} {v : Value} {j : Nat} (value slice : Expr) (hL : s.heap.IsList a vs.toArray) (hr : -(2 ^ 63) ≤ i ∧ i < 2 ^ 63) (hj : seqIndex? i vs.length = some j) (hv : vs[j]? = some v)
    (hsl : ∃ ops, subscripted slice false (.ref a) (.int i t) = operate ops (getItem (.ref a) (.int i t))) (k : Q v s) : wpAny c.M A (subscriptTail value slice (.ref a) (.int i t)) Q E s := by
  obtain ⟨ops, hsl⟩ := hsl
  refine tail_any hL.typeIs slot_list_getitem.lookup ?_ hsl
  unfold seqIndex? at hj
  dsimp only at hj
  by_cases h0 : i < 0
  · rw [if_pos h0] at hj
    split at hj
    · rename_i hq
      simp only [Bool.and_eq_true, decide_eq_true_eq] at hq
      cases hj
      exact wpAny_getItem_list_neg hL h0 (by rw [List.size_toArray]; (first | lia | omega)) hr.1 (by simpa using hv) k
    · cases hj
  · rw [if_neg h0] at hj
    split at hj
    · rename_i hq
      simp only [Bool.and_eq_true, decide_eq_true_eq] at hq
      cases hj
      exact wpAny_getItem_list hL hq.1 hr.2 (by simpa using hv) k
    · cases hj
theorem IdxS.list {xs : List PV} {i : Int} {x : PV} {P : PV → Prop} (j : Nat) (hr : -(2 ^ 63) ≤ i ∧ i < 2 ^ 63) (hj : seqIndex? i xs.length = some j) (hx : xs[j]? = some x) (h : P x) : IdxS c (.list xs) (.int i) P := by
  intro W A s vo vi Q E value slice I ao Ro Ri hsl kk
  obtain ⟨_, rfl⟩ := Ri.inv
  obtain ⟨a, o, n, vs, rfl, h1, h2, h3, h4, h5⟩ := Ro.inv
  obtain ⟨v, hv, R⟩ := h4.get j hx
  exact list_item value slice ⟨o, I.froz _ _ h1, h2, n, h3⟩ hr (by rw [h4.length]; exact hj) hv hsl (kk _ _ _ _ h (Post.refl I) R)
theorem IdxS.tuple {xs : List PV} {i : Int} {x : PV} {P : PV → Prop} (j : Nat) (hr : -(2 ^ 63) ≤ i ∧ i < 2 ^ 63) (hj : seqIndex? i xs.length = some j) (hx : xs[j]? = some x) (h : P x) : IdxS c (.tuple xs) (.int i) P := by
  intro W A s vo vi Q E value slice I ao Ro Ri hsl kk
  obtain ⟨ops, hsl⟩ := hsl
  obtain ⟨_, rfl⟩ := Ri.inv
  obtain ⟨a, o, n, vs, rfl, h1, h2, h3, h4, h5⟩ := Ro.inv
  obtain ⟨v, hv, R⟩ := h4.get j hx
  have hT : IsTup s.heap a vs.toArray := ⟨o, I.froz _ _ h1, h2, n, h3⟩
  exact tail_any hT.typeIs slot_tuple_getitem.lookup (PyProof.Rows.getItem_tuple hT hr.1 hr.2 (by rw [List.size_toArray, h4.length]; exact hj) (by simpa using hv) (kk _ _ _ _ h (Post.refl I) R)) hsl
theorem EvE.subOwn {x xp i pos l} {P : PV → Prop} (hx : σ.lookup x = some (.own l) ∨ σ.lookup x = some (.view l)) (h : EvE c F i σ fun k => ∃ (z : Int) (j : Nat) (y : PV), k = .int z ∧ (-(2 ^ 63) ≤ z ∧ z < 2 ^ 63) ∧ seqIndex? z l.length = some j ∧ l[j]? = some y ∧ P y)
    (hs : ∀ o x, subscripted i false o x = operate [o, x] (getItem o x)) (hd : (x == ("__debug__" : Str)) = false) : EvE c F (.Subscript (.Name x xp) i pos) σ P := by
  intro W env h0 A s Q E I ao kk
  obtain ⟨m, adr, S⟩ := I.slots
  have key : ∃ a vs, VarIs F env h0 s.heap m x (.ref a) ∧ s.heap.IsList a vs.toArray ∧ RepL c W vs l := by
    rcases hx with hx | hx
    · obtain ⟨g1, _, _, _, vs, g5, g6⟩ := S.2.1 x _ hx
      exact ⟨_, vs, g1, g5.isList, g6⟩
    · obtain ⟨_, a, vs, g1, g2, g3⟩ := S.2.1 x _ hx
      exact ⟨a, vs, g1, isList_ext g2 I.ext, g3⟩
  obtain ⟨a, vs, V, hL, R⟩ := key
  refine Subscript_ (wpAny_Name (load_var I S.1 V ?_) hd)
  refine h I ao fun k vk W1 s1 h1 p1 R1 => ?_
  obtain ⟨z, j, y, rfl, hr, hj, hy, hP⟩ := h1
  obtain ⟨_, rfl⟩ := R1.inv
  obtain ⟨v, hv, Rv⟩ := R.get j hy
  exact list_item _ _ (isList_ext hL p1.step.ext) hr (by rw [R.length]; exact hj) hv ⟨_, hs _ _⟩ (kk _ _ _ _ hP p1 (Rv.mono p1.step.le))
end
end

section
section
variable {c : GCtx} {F : FSt} {σ : Store}

structure Aside (c : GCtx) (W : Wd) (h : Heap) (it : Addr) : Prop where
  obj : ∃ o vs, h.get? it = some o ∧ o.data = .fields vs ∧ o.cls ≠ .none ∧ o.cls ≠ .type "code"
  H : W.H it = none
  g : c.g.get? it = none

theorem Inv.aside {W h h' it} (I : Inv c W h) (B : Aside c W h it) (e : Heap.ExtBut it h h') (hs : h.objs.size ≤ h'.objs.size) : Inv c W h' := by
  obtain ⟨o, vs, ho, hd, hc1, hc2⟩ := B.obj
  have tabne : ∀ {P ps}, h.get? P = some (tabObj ps) → P ≠ it := fun {P ps} q r => by subst r; rw [ho] at q; cases q; exact hc1 rfl
  refine ⟨fun b o' q => e b o' (fun r => by subst r; rw [B.g] at q; cases q) (I.base b o' q), Nat.le_trans I.size hs, fun b o' q => e b o' (fun r => by subst r; rw [B.H] at q; cases q) (I.froz b o' q), fun cd hcd => ?_, fun q hq => ?_, I.stat⟩
  · obtain ⟨P, ps, h1, h2, r⟩ := I.code cd hcd
    obtain ⟨oc, vc, file, tf, flags, tg, inF, text, tt, e1, e2, r1⟩ := h1
    exact ⟨P, ps, ⟨oc, vc, file, tf, flags, tg, inF, text, tt, e _ _ (fun q => by subst q; rw [ho] at e1; cases e1; exact hc2 e2) e1, e2, r1⟩, e _ _ (tabne h2) h2, r⟩
  · obtain ⟨ps, q'⟩ := I.tab q hq
    exact ⟨ps, e _ _ (tabne q') q'⟩

theorem FrInv.aside {W env h0 h h' it} (I : FrInv c W F env h0 σ h) (B : Aside c W h it) (e : Heap.ExtBut it h h') (hs : h.objs.size ≤ h'.objs.size) (h0i : h0.objs.size ≤ it) : FrInv c W F env h0 σ h' := by
  obtain ⟨o, vs, ho, hd, _, _⟩ := B.obj
  have ne : ∀ {a o'}, h.get? a = some o' → (∀ vs, o'.data ≠ .fields vs) → a ≠ it := fun {a o'} q hn r => by subst r; rw [ho] at q; cases q; exact hn _ hd
  have cellE : ∀ {cl v}, h.IsCell cl v → h'.IsCell cl v := fun {cl v} ⟨oc, q, hdc⟩ => ⟨oc, e _ _ (ne q (fun vs r => by rw [hdc] at r; cases r)) q, hdc⟩
  have listE : ∀ {a vs}, OwnL h a vs → OwnL h' a vs := fun {a vs} ⟨n, sl, q⟩ => ⟨n, sl, e _ _ (ne q (fun vs r => by cases r)) q⟩
  have varE : ∀ {m x v}, VarIs F env h0 h m x v → VarIs F env h0 h' m x v := fun {m x v} V => by
    cases V with
    | loc h1 h2 => exact .loc h1 h2
    | own h2 cl h3 h4 => exact .own h2 cl h3 (cellE h4)
    | old h1 h2 cl h3 h4 => exact .old h1 h2 cl h3 h4
  obtain ⟨m, adr, hns, hsl, hdis⟩ := I.slots
  refine ⟨I.inv.aside B e hs, fun b o' q n => e b o' (Nat.ne_of_lt (Nat.lt_of_lt_of_le (Heap.lt_size q) h0i)) (I.ext b o' q n), Nat.le_trans I.size hs, I.g0, I.kind, I.scope, I.glob, I.blt, I.code, I.sld, I.loc, I.locH, fun ho x hk => ?_, I.apart, m, adr, ?_, fun x sl q => ?_, hdis⟩
  · obtain ⟨cl, g1, g2, g3, v, g4⟩ := I.cells ho x hk
    exact ⟨cl, g1, g2, g3, v, cellE g4⟩
  · obtain ⟨oL, es, ep, q, hdL, r⟩ := hns
    exact ⟨oL, es, ep, e _ _ (ne q (fun vs r' => by rw [hdL] at r'; cases r')) q, hdL, r⟩
  · have := hsl x sl q
    cases sl with
    | val pv => obtain ⟨v, g1, g2⟩ := this; exact ⟨v, varE g1, g2⟩
    | own l => obtain ⟨g1, g2, g3, g4, vs, g5, g6⟩ := this; exact ⟨varE g1, g2, g3, g4, vs, listE g5, g6⟩
    | view l => obtain ⟨g0, a, vs, g1, g2, g3⟩ := this; exact ⟨g0, a, vs, varE g1, g2, g3⟩

noncomputable def rangeL (a b k : Int) : List PV := (List.range (Builtin.Range.rangeSize a b k).toNat).map fun (i : Nat) => .int (a + k * i)

inductive ItAt (c : GCtx) (W : Wd) (h : Heap) (it : Addr) : List PV → Prop
  | list (l : Addr) (o : Obj) (n : Nat) (vs : List Value) (xs : List PV) (i : Nat) (h1 : h.IsListIter it l i) (h2 : W.H l = some o) (h3 : o.cls = .type "list") (h4 : o.data = .seq vs.toArray n) (h5 : RepL c W vs xs) : ItAt c W h it (xs.drop i)
  | str (s : List Sym) (t : Tok) (i : Nat) (h1 : h.IsStrIter it "str_ascii_iterator" (mkS c.κ s) t i) : ItAt c W h it ((s.drop i).map fun x => .str [x])
  | range (x left step : Int) (h1 : IsRangeIter h it x left step) : ItAt c W h it ((List.range left.toNat).map fun (i : Nat) => .int (x + step * i))

theorem ItAt.keep {W W' h h' it rest} (T : ItAt c W h it rest) (le : W.le W') (e : ∀ o vs, h.get? it = some o → o.data = .fields vs → o.cls ≠ .none → h'.get? it = some o) : ItAt c W' h' it rest := by
  cases T with
  | list l o n vs xs i h1 h2 h3 h4 h5 => obtain ⟨oi, e1, e2, e3⟩ := h1; exact .list l o n vs xs i ⟨oi, e oi _ e1 e3 (by rw [e2]; intro q; cases q), e2, e3⟩ (le.1 _ _ h2) h3 h4 (h5.mono le)
  | str s t i h1 => obtain ⟨oi, e1, e2, e3⟩ := h1; exact .str s t i ⟨oi, e oi _ e1 e3 (by rw [e2]; intro q; cases q), e2, e3⟩
  | range x left step h1 => exact .range x left step (e _ _ h1 rfl (by intro q; cases q))
theorem ItAt.obj {W h it rest} (T : ItAt c W h it rest) : ∃ o vs, h.get? it = some o ∧ o.data = .fields vs ∧ o.cls ≠ .none ∧ o.cls ≠ .type "code" ∧ ∃ n, o.cls = .type n ∧ ["enumerate", "zip", "dict_itemiterator", "dict_reverseitemiterator", "odict_iterator", "itertools.zip_longest", "itertools.pairwise"].contains n = false := by
  cases T with
  | list l o n vs xs i h1 h2 h3 h4 h5 => obtain ⟨oi, e1, e2, e3⟩ := h1; exact ⟨oi, _, e1, e3, (by rw [e2]; decide), (by rw [e2]; decide), _, e2, by decide⟩
  | str s t i h1 => obtain ⟨oi, e1, e2, e3⟩ := h1; exact ⟨oi, _, e1, e3, (by rw [e2]; decide), (by rw [e2]; decide), _, e2, by decide⟩
  | range x left step h1 => exact ⟨_, _, h1, rfl, (show Value.type "range_iterator" ≠ Value.none by decide), (show Value.type "range_iterator" ≠ Value.type "code" by decide), _, rfl, by decide⟩

theorem ItAt.next {W A it rest} {s : Shared} {Q : Option Value → Shared → Prop} {E : Value → Shared → Prop} (T : ItAt c W s.heap it rest) (I : Inv c W s.heap) (ao : AOk 0 A)
    (k : ∀ r s', Heap.ExtBut it s.heap s'.heap → s.heap.objs.size ≤ s'.heap.objs.size → s'.os = s.os → s'.gens = s.gens →
      (match rest with | [] => r = none | x :: xs => ∃ v, r = some v ∧ Rep c W v x ∧ ItAt c W s'.heap it xs) → Q r s') : wpAny c.M A (pyNext (.ref it)) Q E s := by
  refine wpAny_size ?_
  cases T with
  | list l o n vs xs i h1 h2 h3 h4 h5 =>
    have hL : s.heap.IsList l vs.toArray := ⟨o, I.froz _ _ h2, h3, n, h4⟩
    cases e : xs[i]? with
    | none =>
      have hd : xs.drop i = [] := List.drop_eq_nil_of_le (List.getElem?_eq_none_iff.mp e)
      rw [hd] at k
      refine wpAny_pyNext_list_end ao.2.2 h1 hL ?_ fun h' he hs => k none _ he hs rfl rfl rfl
      simp; rw [h5.length]; exact List.getElem?_eq_none_iff.mp e
    | some x =>
      obtain ⟨v, hv, R⟩ := h5.get i e
      have hlt : i < xs.length := by rcases Nat.lt_or_ge i xs.length with q | q; exact q; rw [List.getElem?_eq_none_iff.mpr q] at e; cases e
      have hd : xs.drop i = x :: xs.drop (i + 1) := by
        rw [List.drop_eq_getElem_cons hlt]
        rw [List.getElem?_eq_getElem hlt] at e; cases e; rfl
      rw [hd] at k
      exact wpAny_pyNext_list_item h1 hL (by simpa using hv) fun h' hi hsb hs => k (some v) _ hsb.extBut hs rfl rfl ⟨v, rfl, R, .list l o n vs xs (i + 1) hi h2 h3 h4 h5⟩
  | str x t i h1 =>
    cases e : x[i]? with
    | none =>
      have hd : x.drop i = [] := List.drop_eq_nil_of_le (List.getElem?_eq_none_iff.mp e)
      rw [hd] at k
      exact wpAny_pyNext_ascii_end ao.2.2 h1 (by simp [mkS, List.getElem?_eq_none_iff.mp e]) fun h' he hs => k none _ he hs rfl rfl rfl
    | some y =>
      have hlt : i < x.length := by rcases Nat.lt_or_ge i x.length with q | q; exact q; rw [List.getElem?_eq_none_iff.mpr q] at e; cases e
      have hd : x.drop i = y :: x.drop (i + 1) := by
        rw [List.drop_eq_getElem_cons hlt]
        rw [List.getElem?_eq_getElem hlt] at e; cases e; rfl
      rw [hd] at k
      exact wpAny_pyNext_ascii_item (c := c.κ y) h1 (by simp [mkS, e]) fun h' hi hsb hs => k (some _) _ hsb.extBut hs rfl rfl ⟨_, rfl, .str [y] _ (show 1 ≤ big by decide +kernel), .str x t (i + 1) hi⟩
  | range x left step h1 =>
    by_cases h0 : 0 < left
    · have hd : (List.range left.toNat).map (fun (i : Nat) => PV.int (x + step * i)) = .int x :: (List.range (left - 1).toNat).map (fun (i : Nat) => PV.int (x + step + step * i)) := by
        rw [show left.toNat = (left - 1).toNat + 1 by (first | lia | omega), List.range_succ_eq_map, List.map_cons, List.map_map]
        congr 1
        · simp
        · apply List.map_congr_left; intro i _; simp [Int.mul_add]; (first | lia | omega)
      rw [hd] at k
      exact wpAny_pyNext_range_item h1 h0 fun h' hi hsb hs => k (some _) _ hsb.extBut hs rfl rfl ⟨_, rfl, .int _ _, .range _ _ _ hi⟩
    · have hd : (List.range left.toNat).map (fun (i : Nat) => PV.int (x + step * i)) = [] := by rw [show left.toNat = 0 by (first | lia | omega)]; rfl
      rw [hd] at k
      exact wpAny_pyNext_range_end ao.2.2 h1 (by (first | lia | omega)) fun h' he hs => k none _ he hs rfl rfl rfl

noncomputable def IterP (o : PV) (P : List PV → Prop) : Prop := match o with
  | .list xs => P xs
  | .str s => P (s.map fun x => .str [x])
  | .range a b k => Builtin.Range.small a b k = true ∧ P (rangeL a b k)
  | _ => False

theorem iter_any {W A vo o} {s : Shared} {Q E : Value → Shared → Prop} {P : List PV → Prop} (ok : GOk c) (I : Inv c W s.heap) (R : Rep c W vo o) (h : IterP o P)
    (k : ∀ it items s', P items → Post c W s W s' → ItAt c W s'.heap it items → s.heap.objs.size ≤ it → Q (.ref it) s') : wpAny c.M A (pyIter vo) Q E s := by
  cases R with
  | list a ob n vs xs h1 h2 h3 h4 h5 =>
    exact wpAny_pyIter_list ⟨ob, I.froz _ _ h1, h2, n, h3⟩ (k _ _ _ h (Post.push I _ _) (.list a ob n vs xs 0 ⟨_, Heap.get?_push_size _ rfl, rfl, rfl⟩ h1 h2 h3 h4) (Nat.le_refl _))
  | str x t hl =>
    refine wpAny_pyIter_ascii ?_ (k _ _ _ h (Post.push I _ _) (.str x t 0 ⟨_, Heap.get?_push_size _ rfl, rfl, rfl⟩) (Nat.le_refl _))
    simp [mkS, ok.asc]
  | range r a b k' t u v h1 =>
    refine wpAny_pyIter_range (I.froz _ _ h1) h.1 (k _ _ _ h.2 (Post.push I _ _) ?_ (Nat.le_refl _))
    exact .range _ _ _ (Heap.get?_push_size _ rfl)
  | _ => exact h.elim

noncomputable def ForS (c : GCtx) (F : FSt) (t : Expr) (body : List Stmt) (P : PFlow → Store → Prop) : List PV → Store → Prop
  | [], σ => P .next σ
  | x :: xs, σ => AsS c F t x σ fun σ1 => ExSs c F body σ1 fun f σ2 => match f with
    | .next | .cont => ForS c F t body P xs σ2
    | .brk => P .next σ2
    | .ret v => P (.ret v) σ2

theorem ownedGo {W A it rest target v} {s : Shared} {Q : Unit → Shared → Prop} {E : Value → Shared → Prop} (T : ItAt c W s.heap it rest) (h : Q () s) : wpAny c.M A (letOwnedTupleGo target (.ref it) v) Q E s := by
  obtain ⟨o, vs, e1, e2, _, _, n, e3, e4⟩ := T.obj
  unfold letOwnedTupleGo
  split
  all_goals first
    | exact wpAny_pure h
    | (split
       · rename_i hq
         cases hq
         refine wpAny_bind (wpAny_load e1 ?_)
         rw [e3, e2]
         dsimp only
         rw [e4]
         exact wpAny_pure h
       · exact wpAny_pure h)

theorem ExS.for_ {t iter body pos} {P : PFlow → Store → Prop} (ok : GOk c) (h : EvE c F iter σ fun o => IterP o fun items => ForS c F t body P items σ)
    (hs : ∀ env x, foldedSetIterable iter env x = pure x := by intros; rfl) : ExS c F (.For t iter body [] pos) σ P := by
  intro W env h0 A s Q E I ao k
  refine wpAny_For (h I ao fun o vo W1 s1 h1 p1 R1 => ?_) (hs env)
  refine iter_any ok p1.inv R1 h1 fun it items s2 h2 p2 T2 hit => ?_
  have pp := p1.trans p2
  have I2 := I.post pp
  have hsz : s.heap.objs.size ≤ it := Nat.le_trans p1.step.size hit
  refine codeAny_forLoop_any (fun n s' => ∃ rest σ' W', rest.length = n ∧ ForS c F t body P rest σ' ∧ FrInv c W' F env h0 σ' s'.heap ∧ SPost W h0 s W' s' ∧ ItAt c W' s'.heap it rest ∧ W'.H it = none)
    (fun n s3 ⟨rest, σ3, W3, hn, h3, I3, p3, T3, hH3⟩ => ?_) items.length ⟨items, σ, W1, rfl, h2, I2, pp.sp I.size, T2, p1.inv.fresh hit⟩
  have h0i : h0.objs.size ≤ it := Nat.le_trans I.size hsz
  obtain ⟨oi, vi, e1, e2, e3, e4, _⟩ := T3.obj
  have B3 : Aside c W3 s3.heap it := ⟨⟨oi, vi, e1, e2, e3, e4⟩, hH3, g_none I3 h0i⟩
  refine T3.next I3.inv ao.zero fun r s4 he4 hs4 hos4 hg4 hr => ?_
  have I4 := I3.aside B3 he4 hs4 h0i
  have sp4 : SPost W h0 s W3 s4 := ⟨p3.le, p3.low, hos4.trans p3.os, hg4.trans p3.gens, fun b o vs q d n => by
    have hb : b ≠ it := Nat.ne_of_lt (Nat.lt_of_lt_of_le (Heap.lt_size q) hsz)
    exact he4 b o hb (p3.keep b o vs q d n), p3.nof⟩
  cases rest with
  | nil =>
    cases hr
    exact wpAny_execs_nil (k _ _ _ _ _ h3 I4 .next sp4)
  | cons x xs =>
    obtain ⟨v, rfl, Rv, T4⟩ := hr
    refine ownedGo T4 ?_
    refine h3 I4 ao Rv fun σ5 W5 s5 h5 I5 p5 _ => ?_
    refine h5 I5 ao fun f σ6 fl W6 s6 h6 I6 R6 p6 => ?_
    have pq := p5.trans p6
    have T6 : ItAt c W6 s6.heap it xs := T4.keep pq.le fun o vs q d n => pq.keep it o vs q d n
    have hH6 : W6.H it = none := by
      obtain ⟨oi', vi', g1, g2, g3, g4, _⟩ := T4.obj
      exact (pq.nof it oi' vi' g1 g2 g3).trans hH3
    have pr := sp4.trans pq
    cases R6 with
    | next => exact ⟨xs.length, by simp at hn; (first | lia | omega), xs, σ6, W6, rfl, h6, I6, pr, T6, hH6⟩
    | cont => exact ⟨xs.length, by simp at hn; (first | lia | omega), xs, σ6, W6, rfl, h6, I6, pr, T6, hH6⟩
    | brk => exact k _ _ _ _ _ h6 I6 .next pr
    | ret v pv r => exact k _ _ _ _ _ h6 I6 (.ret v pv r) pr

end
end

section
section
variable {c : GCtx} {F : FSt} {σ : Store}

noncomputable def noStar : List Expr → Bool
  | [] => true
  | .Starred .. :: _ => false
  | _ :: r => noStar r
theorem starEach_cons {e : Expr} {es : List Expr} {env : Env} (h : noStar (e :: es) = true) : starEach (e :: es) env = (false, eval e env) :: starEach es env ∧ noStar es = true := by
  cases e <;> first | exact ⟨rfl, h⟩ | cases h
theorem backTo_cons {pos : Pos} {t : Sem Value} {r : List (Bool × Sem Value)} : backTo pos ((false, t) :: r) = (false, t) :: backTo pos r := rfl

theorem EvL.run : ∀ {es : List Expr} {P : List PV → Prop}, EvL c F es σ P → noStar es = true → ∀ {W env h0 A s} {Q : List Value → Shared → Prop} {E : Value → Shared → Prop} (pos : Pos), FrInv c W F env h0 σ s.heap → AOk F.n A →
    (∀ pvs vs W' s', P pvs → Post c W s W' s' → RepL c W' vs pvs → Q vs s') → wpAny c.M A (spliced (backTo pos (starEach es env))) Q E s
  | [], P, h, _, W, env, h0, A, s, Q, E, pos, I, ao, k => spliced_nil (k _ _ _ _ h (.refl I.inv) .nil)
  | e :: es, P, h, hn, W, env, h0, A, s, Q, E, pos, I, ao, k => by
    obtain ⟨e1, e2⟩ := starEach_cons (env := env) hn
    rw [e1, backTo_cons]
    refine spliced_cons (h I ao fun pv v W1 s1 h1 p1 R1 => ?_)
    exact EvL.run h1 e2 pos (I.post p1) ao fun pvs vs W2 s2 h2 p2 R2 => k _ _ _ _ h2 (p1.trans p2) (.cons _ _ _ _ (R1.mono p2.step.le) R2)

theorem EvE.tuple {es n pos} {P : PV → Prop} (h : EvL c F es σ fun pvs => pvs.length ≤ big ∧ P (.tuple pvs)) (hn : noStar es = true) : EvE c F (.Tuple es n pos) σ P := by
  intro W env h0 A s Q E I ao kk
  refine PyProof.Rows.Tuple_ (EvL.run h hn pos I ao fun pvs vs W1 s1 h1 p1 R1 => ?_)
  have hl : vs.length ≤ big := by rw [R1.length]; exact h1.1
  refine wpAny_newTuple ?_ (Nat.le_trans hl bigLine)
  exact kk _ _ _ _ h1.2 (p1.trans (Post.alloc p1.inv { cls := .type "tuple", data := .seq vs.toArray } s1.toks rfl (fun ps q => by cases q)))
    (.tuple _ _ 0 vs pvs (Wd.add_self ..) rfl rfl (R1.mono (Wd.le_add _ (p1.inv.fresh (Nat.le_refl _)))) h1.1)
theorem EvG.list {es pos} {P : Slot → Prop} (h : EvL c F es σ fun pvs => pvs.length ≤ big ∧ P (.own pvs)) (hn : noStar es = true := by rfl) : EvG c F (.List es pos) σ P := by
  intro W env h0 A s Q E I ao kk
  refine PyProof.Rows.List_ (EvL.run h hn pos I ao fun pvs vs W1 s1 h1 p1 R1 => ?_)
  have hl : vs.length ≤ big := by rw [R1.length]; exact h1.1
  refine wpAny_newList ?_ (Nat.le_trans hl bigLine)
  exact kk _ _ _ _ h1.2 (p1.trans (Post.push p1.inv _ _)) ⟨h1.1, _, vs, rfl, p1.step.size, p1.inv.fresh (Nat.le_refl _), ⟨0, #[], Heap.get?_push_size _ rfl⟩, R1⟩
theorem EvE.list {es pos} {P : PV → Prop} (h : EvL c F es σ fun pvs => pvs.length ≤ big ∧ P (.list pvs)) (hn : noStar es = true := by rfl) : EvE c F (.List es pos) σ P :=
  EvE.ofG (EvG.list h hn)

theorem own_upd {W env h0 h h' x l l' vs'} (I : FrInv c W F env h0 σ h) (hx : σ.lookup x = some (.own l)) {m adr} (S : SlotsAt c W F env h0 σ h m adr) (hs : Heap.SameBut (adr x) h h') (hL : OwnL h' (adr x) vs') (R : RepL c W vs' l') (hl : l'.length ≤ big) :
    FrInv c W F env h0 (σ.put x (.own l')) h' := by
  obtain ⟨g1, g2, g3, g4, vs, g5, g6⟩ := S.2.1 x _ hx
  obtain ⟨o, ho, hc, n, hd⟩ := g5.isList
  have ne : ∀ {a o'}, h.get? a = some o' → (∀ vs k, o'.data ≠ .seq vs k) → a ≠ adr x := fun {a o'} e hn q => by subst q; rw [ho] at e; cases e; exact hn _ _ hd
  have cellE : ∀ {cl v}, h.IsCell cl v → h'.IsCell cl v := fun {cl v} C => by
    obtain ⟨oc, q, hdc⟩ := id C
    exact C.sameBut hs (ne q (fun vs k r => by rw [hdc] at r; cases r))
  have varE : ∀ {y v}, VarIs F env h0 h m y v → VarIs F env h0 h' m y v := fun {y v} V => by
    cases V with
    | loc h1 h2 => exact .loc h1 h2
    | own h2 cl h3 h4 => exact .own h2 cl h3 (cellE h4)
    | old h1 h2 cl h3 h4 => exact .old h1 h2 cl h3 h4
  have hLne : env.locals ≠ adr x := by obtain ⟨oL, es, ep, q, hdL, _⟩ := S.1; exact ne q (fun vs k r => by rw [hdL] at r; cases r)
  refine ⟨I.inv.upd hs g3 (g_none I g2) ⟨o, ho, fun vs q => by rw [hd] at q; cases q⟩, I.ext.same hs g2, by rw [hs.1]; exact I.size, I.g0, I.kind, I.scope, I.glob, I.blt, I.code, I.sld, I.loc, I.locH, fun hw y hy => ?_, I.apart, m, adr, S.1.sameBut hs hLne, fun y sl e => ?_, fun y z ly lz ey ez hyz => ?_⟩
  · obtain ⟨cl, k1, k2, k3, v, k4⟩ := I.cells hw y hy
    exact ⟨cl, k1, k2, k3, v, cellE k4⟩
  · rw [Store.lookup_put] at e
    by_cases hy : y = x
    · subst hy
      rw [if_pos rfl] at e; cases e
      exact ⟨varE g1, g2, g3, hl, vs', hL, R⟩
    · rw [if_neg hy] at e
      have := S.2.1 y _ e
      cases sl with
      | val pv => obtain ⟨v, k1, k2⟩ := this; exact ⟨v, varE k1, k2⟩
      | own l2 => obtain ⟨k1, k2, k3, k4, vs2, k5, k6⟩ := this; exact ⟨varE k1, k2, k3, k4, vs2, k5.same hs (S.2.2 y x l2 l e hx hy), k6⟩
      | view l2 => obtain ⟨k0, a, vs2, k1, k2, k3⟩ := this; exact ⟨k0, a, vs2, varE k1, k2, k3⟩
  · have un : ∀ {u lu}, (σ.put x (.own l')).lookup u = some (.own lu) → ∃ lu', σ.lookup u = some (.own lu') := fun {u lu} e => by
      rw [Store.lookup_put] at e
      by_cases hu : u = x
      · exact ⟨l, hu ▸ hx⟩
      · rw [if_neg hu] at e; exact ⟨lu, e⟩
    obtain ⟨ly', ey'⟩ := un ey
    obtain ⟨lz', ez'⟩ := un ez
    exact S.2.2 y z ly' lz' ey' ez' hyz

theorem own_sp {W env h0 x l m adr} {s : Shared} {h' : Heap} (S : SlotsAt c W F env h0 σ s.heap m adr) (hx : σ.lookup x = some (.own l)) (hs : Heap.SameBut (adr x) s.heap h') (t : Nat) : SPost W h0 s W { s with heap := h', toks := t } := by
  obtain ⟨_, _, _, _, vs, hown, _⟩ := S.2.1 x _ hx
  obtain ⟨o, ho, hc, n, hd⟩ := hown.isList
  exact ⟨.refl W, fun _ _ => rfl, rfl, rfl, fun b ob vs e d _ => (hs.2 b (fun q => by subst q; rw [ho] at e; cases e; rw [hd] at d; cases d)).trans e, fun _ _ _ _ _ _ => rfl⟩

theorem Obj.own_mapSeq {vs : List Value} {n : Nat} {sl : Array (Option Value)} (f : Array Value → Array Value) (ws : List Value) (h : f vs.toArray = ws.toArray) :
    ∃ n', Obj.mapSeq f ⟨.type "list", none, .seq vs.toArray n, sl⟩ = ⟨.type "list", none, .seq ws.toArray n', sl⟩ := by
  simp only [Obj.mapSeq, h]
  exact ⟨_, rfl⟩
theorem set_own {A l vs t} {k : Int} {v : Value} {s : Shared} {Q : Unit → Shared → Prop} {E : Value → Shared → Prop} (hl : OwnL s.heap l vs) (h0 : 0 ≤ k) (hfit : k < 2 ^ 63) (hn : k < vs.length)
    (hQ : ∀ h', OwnL h' l (vs.set k.toNat v) → Heap.SameBut l s.heap h' → Q () { s with heap := h' }) : wpAny c.M A (setItem (.ref l) (.int k t) v) Q E s := by
  have hL := hl.isList
  obtain ⟨ne, sl, ho⟩ := hl
  unfold setItem
  try with_reducible refine wpAny_holding ?_
  first | refine wpAny_bind (wpAny_pure ?_) | skip
  refine wpAny_bind (wpAny_sequenceKey hL.typeIs (by decide) ?_)
  refine wpAny_bind (wpAny_callSpecial?_slot (name := Str.ofString "__setitem__") hL.typeIs slot_list_setitem
    (wpAny_call_entry slot_list_setitem hL.typeIs entry_list_setitem ?_ (args_list_setitem _ _ _)))
  show wpAny _ _ (Builtin.List.listSubscript? (.int k t) >>= _) _ _ s
  refine wpAny_bind (wpAny_listSubscript_int (fitsIndex_of h0 hfit) ?_)
  clear hfit
  obtain ⟨j, rfl⟩ := Int.eq_ofNat_of_zero_le h0
  have hj : j < vs.toArray.size := by simp; (first | lia | omega)
  have hx' : vs.toArray[j]? = some vs.toArray[j] := Array.getElem?_eq_getElem hj
  show wpAny _ _ ((seqItemAt l j >>= fun r => pure (r.map (j, ·))) >>= _) _ _ s
  refine wpAny_bind (wpAny_bind (wpAny_seqItemAt ho rfl (wpAny_pure ?_)))
  rw [hx']
  show wpAny _ _ (setSeqItemAt l j v >>= _) _ _ s
  obtain ⟨n', hd'⟩ := Obj.own_mapSeq (vs := vs) (n := ne) (sl := sl) (·.setIfInBounds j v) (vs.set j v) (by simp)
  have hfin : OwnL (s.heap.update l (Obj.mapSeq (·.setIfInBounds j v))) l (vs.set j v) :=
    ⟨n', sl, by rw [← hd']; exact Heap.get?_update_self _ ho (by rw [hd']; rfl)⟩
  refine wpAny_bind (wpAny_setSeqItemAt ho rfl ?_)
  first
    | exact wpAny_bind (wpAny_pure (wpAny_pure ⟨.none, rfl, wpAny_pure (hQ _ hfin (Heap.SameBut.update ..))⟩))
    | exact wpAny_pure ⟨.none, rfl, wpAny_pure (hQ _ hfin (Heap.SameBut.update ..))⟩
theorem append_own {A l vs} {v : Value} {s : Shared} {Q E : Value → Shared → Prop} (hl : OwnL s.heap l vs) (hsz : vs.length ≤ big)
    (hQ : ∀ h', OwnL h' l (vs ++ [v]) → Heap.SameBut l s.heap h' → Q .none { s with heap := h' }) : wpAny c.M A (call (.builtin "list.append") [.ref l, v]) Q E s := by
  have hL := hl.isList
  obtain ⟨ne, sl, ho⟩ := hl
  have hz : vs.toArray.size ≤ sizeLine := by rw [List.size_toArray]; exact Nat.le_trans hsz bigLine
  refine wpAny_call_entry slot_list_append hL.typeIs entry_list_append ?_ (args_list_append _ _)
  show wpAny _ _ (updateSeq l (·.push v) >>= fun _ => ret .none) _ _ s
  obtain ⟨n', hd'⟩ := Obj.own_mapSeq (vs := vs) (n := ne) (sl := sl) (·.push v) (vs ++ [v]) (by simp)
  refine wpAny_bind (wpAny_updateSeq ho rfl (wpAny_pure ⟨.none, rfl, hQ _ ?_ (Heap.SameBut.update ..)⟩) hz (by simp; simp at hz; (first | lia | omega)))
  exact ⟨n', sl, by rw [← hd']; exact Heap.get?_update_self _ ho (by rw [hd']; rfl)⟩

theorem ExS.setItem {x xp i ip e pos l} {P : PFlow → Store → Prop} (hx : σ.lookup x = some (.own l)) (h : EvE c F e σ fun v => EvE c F i σ fun k => ∃ z : Int, k = .int z ∧ 0 ≤ z ∧ z < l.length ∧ P .next (σ.put x (.own (l.set z.toNat v))))
    (hs : ∀ env, swapsWith e (some (.Subscript (.Name x xp) i ip)) pos.line env = pure false := by intro _; rfl) (hd : (x == ("__debug__" : Str)) = false := by decide) : ExS c F (.Assign [.Subscript (.Name x xp) i ip] e pos) σ P := by
  intro W env h0 A s Q E I ao k
  obtain ⟨m, adr, S⟩ := I.slots
  refine wpAny_Assign_Subscript (h I ao fun v vv W1 s1 h1 p1 R1 => ?_) (hs env)
  have S1 := SlotsAt.step S p1.step
  obtain ⟨g1, g2, g3, g4, vs, g5, g6⟩ := S1.2.1 x _ hx
  refine wpAny_Name (load_var (I.post p1) S1.1 g1 ?_) hd
  refine h1 (I.post p1) ao fun z vz W2 s2 h2 p2 R2 => ?_
  obtain ⟨z, rfl, hz0, hz1, hP⟩ := h2
  obtain ⟨_, rfl⟩ := R2.inv
  have S2 := SlotsAt.step S1 p2.step
  have hl : l.length ≤ 1048576 := g4
  refine set_own (g5.ext p2.step.ext) hz0 (by (first | lia | omega)) (by rw [g6.length]; exact hz1) fun h' hL2 hs' => ?_
  exact k _ _ _ _ _ hP (own_upd (I.post (p1.trans p2)) hx S2 hs' hL2 ((g6.mono p2.step.le).set _ (R1.mono p2.step.le)) (by rw [List.length_set]; exact hl)) .next (((p1.trans p2).sp I.size).trans (own_sp S2 hx hs' _))

theorem ExS.append {x xp ap cp e pos l} {P : PFlow → Store → Prop} (hx : σ.lookup x = some (.own l)) (h : EvE c F e σ fun v => (l ++ [v]).length ≤ big ∧ P .next (σ.put x (.own (l ++ [v]))))
    (hns : noStar [e] = true) (hline : (ap.endLine == cp.line) = true) (hd : (x == ("__debug__" : Str)) = false) :
    ExS c F (.Expr (.Call (.Attribute (.Name x xp) "append" ap) [e] [] cp) pos) σ P := by
  intro W env h0 A s Q E I ao k
  obtain ⟨m, adr, S⟩ := I.slots
  obtain ⟨g1, g2, g3, g4, vs, g5, g6⟩ := S.2.1 x _ hx
  have hint : interactive env = false := by unfold interactive; rw [I.scope, I.kind]; rfl
  refine wpAny_Expr ?_ hint rfl
  refine Call_method1 rfl (by rw [(starEach_cons hns).1]; rfl) hline ?_
  refine wpAny_Name (load_var I S.1 g1 ?_) hd
  have gL := g5.isList
  refine ⟨"list", "list.append", PySem.F.plainAttrs_list, slot_list_append, by kernel_rfl, gL.typeIs, fun a q => ?_, ?_⟩
  · cases q
    obtain ⟨n, sl, q⟩ := g5
    exact ⟨_, q, rfl⟩
  · refine callWith_builtin rfl (evalArgs_plain (spliced_cons (h I ao fun v vv W1 s1 h1 p1 R1 => spliced_nil ?_)))
    have S1 := SlotsAt.step S p1.step
    refine append_own (g5.ext p1.step.ext) (by rw [g6.length]; exact g4) fun h' hL' hs' => ?_
    exact k _ _ _ _ _ h1.2 (own_upd (I.post p1) hx S1 hs' hL' ((g6.mono p1.step.le).append (.cons _ _ _ _ R1 .nil)) h1.1) .next ((p1.sp I.size).trans (own_sp S1 hx hs' _))
end
end

section
theorem cellsFrom_append (n : Nat) : ∀ (names : List (Str × NameKind)) (acc : List (Str × Addr)), cellsFrom n names acc = cellsFrom n names [] ++ acc := by
  intro names
  induction names generalizing n with
  | nil => intro acc; rfl
  | cons p r ih =>
    obtain ⟨x, k⟩ := p
    intro acc
    unfold cellsFrom
    split
    · rw [ih (n + 1) ((x, n) :: acc), ih (n + 1) [(x, n)]]; simp
    · exact ih n acc
theorem cellsFrom_mem {x : Str} {a : Addr} : ∀ (names : List (Str × NameKind)) (n : Nat), (x, a) ∈ cellsFrom n names [] → (x, NameKind.cell) ∈ names := by
  intro names
  induction names with
  | nil => intro n h; cases h
  | cons p r ih =>
    obtain ⟨y, k⟩ := p
    intro n h
    unfold cellsFrom at h
    split at h
    · rename_i hk
      rw [cellsFrom_append] at h
      rcases List.mem_append.mp h with h | h
      · exact List.mem_cons_of_mem _ (ih _ h)
      · simp at h; obtain ⟨rfl, rfl⟩ := h
        have : k = .cell := by simpa using hk
        subst this; exact List.mem_cons_self
    · exact List.mem_cons_of_mem _ (ih _ h)
theorem lookup_some_of_mem {α : Type} {x : Str} {a : α} : ∀ {l : List (Str × α)}, (x, a) ∈ l → ∃ b, l.lookup x = some b
  | (y, b) :: r, h => by
    rw [List.lookup_cons]
    by_cases hy : x = y
    · subst hy; exact ⟨b, by simp⟩
    · rw [beq_eq_false_iff_ne.mpr hy]
      rcases List.mem_cons.mp h with e | h
      · cases e; exact absurd rfl hy
      · exact lookup_some_of_mem h
theorem cellsFrom_has {x : Str} : ∀ (names : List (Str × NameKind)) (n : Nat), (x, NameKind.cell) ∈ names → ∃ a, (cellsFrom n names []).lookup x = some a := by
  intro names n h
  have : ∀ (names : List (Str × NameKind)) (n : Nat), (x, NameKind.cell) ∈ names → ∃ a, (x, a) ∈ cellsFrom n names [] := by
    intro names
    induction names with
    | nil => intro n h; cases h
    | cons p r ih =>
      obtain ⟨y, k⟩ := p
      intro n h
      unfold cellsFrom
      rcases List.mem_cons.mp h with e | h
      · cases e
        exact ⟨n, by simp only [beq_self_eq_true, if_true]; rw [cellsFrom_append]; exact List.mem_append_right _ List.mem_cons_self⟩
      · split
        · obtain ⟨a, ha⟩ := ih (n + 1) h
          exact ⟨a, by rw [cellsFrom_append]; exact List.mem_append_left _ ha⟩
        · exact ih n h
  obtain ⟨a, ha⟩ := this names n h
  exact lookup_some_of_mem ha
theorem lookup_nodup {α : Type} {x : Str} {a : α} : ∀ {l : List (Str × α)}, (l.map (·.1)).Nodup → (x, a) ∈ l → l.lookup x = some a
  | (y, b) :: r, hn, h => by
    rw [List.lookup_cons]
    simp only [List.map_cons, List.nodup_cons] at hn
    rcases List.mem_cons.mp h with e | h
    · cases e; simp
    · have hy : x ≠ y := fun q => hn.1 (q ▸ (List.mem_map.mpr ⟨(x, a), h, rfl⟩ : x ∈ r.map (·.1)))
      rw [beq_eq_false_iff_ne.mpr hy]
      exact lookup_nodup hn.2 h

section
variable {c : GCtx}

noncomputable def bindσ (σ : Store) : List (Str × PV) → Store
  | [] => σ
  | (x, v) :: r => bindσ (σ.put x (.val v)) r
noncomputable def capσ (caps : List (Str × PV)) : Store := caps.map fun p => (p.1, .val p.2)

inductive BindRep (c : GCtx) (W : Wd) : List (Str × Value) → List (Str × PV) → Prop
  | nil : BindRep c W [] []
  | cons (x : Str) (v : Value) (pv : PV) (l : List (Str × Value)) (l' : List (Str × PV)) : Rep c W v pv → BindRep c W l l' → BindRep c W ((x, v) :: l) ((x, pv) :: l')
theorem BindRep.zip {W} : ∀ {names : List Str} {vs : List Value} {pvs : List PV}, RepL c W vs pvs → BindRep c W (names.zip vs) (names.zip pvs)
  | [], _, _, _ => .nil
  | _ :: _, _, _, .nil => .nil
  | x :: names, _, _, .cons v pv vs l h1 h2 => .cons x v pv _ _ h1 (BindRep.zip h2)

theorem repCl_lookup {W} : ∀ {cl : List (Str × Addr)} {caps : List (Str × PV)} {x : Str} {pv : PV}, RepCl c W cl caps → caps.lookup x = some pv → ∃ a o v, cl.lookup x = some a ∧ W.H a = some o ∧ o.data = .cell (some v) ∧ Rep c W v pv
  | _, _, x, pv, .nil, h => by cases h
  | _, _, x, pv, .cons y a o v pv' cl caps h1 h2 h3 h4, h => by
    rw [List.lookup_cons] at h ⊢
    by_cases hy : x = y
    · subst hy; simp at h; subst h; exact ⟨a, o, v, by simp, h1, h2, h3⟩
    · rw [beq_eq_false_iff_ne.mpr hy] at h ⊢; exact repCl_lookup h4 h
theorem capσ_lookup : ∀ {caps : List (Str × PV)} {x : Str} {sl : Slot}, (capσ caps).lookup x = some sl → ∃ pv, caps.lookup x = some pv ∧ sl = .val pv
  | [], x, sl, h => by cases h
  | (y, pv) :: r, x, sl, h => by
    simp only [capσ, List.map_cons, List.lookup_cons] at h ⊢
    by_cases hy : x = y
    · subst hy; simp at h; exact ⟨pv, by simp, h.symm⟩
    · rw [beq_eq_false_iff_ne.mpr hy] at h ⊢; exact capσ_lookup h

structure ScOk (sc : Scope) (caps : List (Str × PV)) : Prop where
  kind : sc.kind = .function
  nodup : (sc.names.map (·.1)).Nodup
  free : ∀ x ∈ caps.map (·.1), sc.names.lookup x = some .free ∧ (x == ("__classdict__" : Str)) = false
  co : sc.isCoroutine = false
  gen : sc.isGenerator = false

theorem start_frame {W F cl caps} {s : Shared} {qual func code} (ok : GOk c) (I : Inv c W s.heap) (R : RepCl c W cl caps) (hsc : ScOk F.scope caps) (ho : F.own = true) (hm : F.maker = true → ∃ cd, code = .ref cd ∧ W.C cd) (env : Env)
    (he : env = newEnv F.scope s.heap.objs.size mainGlobals (cellsFrom (s.heap.objs.size + 1) F.scope.names cl) qual func code none builtinsNs) :
    FrInv c W F env s.heap (capσ caps) (pushCells (s.heap.push { cls := .type "frame", data := .dict #[] }) F.scope.names) := by
  have keep : ∀ b o, s.heap.get? b = some o → (pushCells (s.heap.push { cls := .type "frame", data := .dict #[] }) F.scope.names).get? b = some o := fun b o e => pushCells_keeps _ _ _ _ (Heap.get?_push_of_some _ e)
  have hsz : ∀ (l : List (Str × NameKind)) (h : Heap), h.objs.size ≤ (pushCells h l).objs.size := by
    intro l
    induction l with
    | nil => intro h; exact Nat.le_refl _
    | cons p r ih =>
      obtain ⟨y, k⟩ := p
      intro h
      unfold pushCells
      split
      · exact Nat.le_trans (by rw [Heap.size_push]; (first | lia | omega)) (ih _)
      · exact ih h
  have hs : s.heap.objs.size ≤ (pushCells (s.heap.push { cls := .type "frame", data := .dict #[] }) F.scope.names).objs.size := Nat.le_trans (by rw [Heap.size_push]; (first | lia | omega)) (hsz _ _)
  have CO := cellsFrom_ok F.scope.names (s.heap.push { cls := .type "frame", data := .dict #[] }) (s.heap.objs.size + 1) [] ⟨(fun _ _ h => nomatch h), List.Pairwise.nil⟩ (by rw [Heap.size_push]; (first | lia | omega))
  rw [Heap.size_push] at CO
  have hkd : ∀ x, env.kindOf x = F.scope.names.lookup x := fun x => by subst he; rfl
  have hcells : env.cells = cellsFrom (s.heap.objs.size + 1) F.scope.names [] ++ cl := by subst he; exact cellsFrom_append _ _ _
  have lk : ∀ x, F.scope.names.lookup x = some .cell → ∃ a, env.cells.lookup x = some a ∧ (x, a) ∈ cellsFrom (s.heap.objs.size + 1) F.scope.names [] := fun x hx => by
    obtain ⟨a, ha⟩ := cellsFrom_has F.scope.names (s.heap.objs.size + 1) (mem_of_lookup hx)
    exact ⟨a, by rw [hcells, List.lookup_append, ha]; rfl, mem_of_lookup ha⟩
  have lk2 : ∀ x, F.scope.names.lookup x = some .free → env.cells.lookup x = cl.lookup x := fun x hx => by
    rw [hcells, List.lookup_append]
    cases e : (cellsFrom (s.heap.objs.size + 1) F.scope.names []).lookup x with
    | none => rfl
    | some a =>
      have := lookup_nodup hsc.nodup (cellsFrom_mem _ _ (mem_of_lookup e))
      rw [hx] at this; cases this
  refine ⟨I.grow keep hs, .of_keep keep, hs, I.size, hsc.kind, by subst he; rfl, by subst he; rfl, by subst he; rfl, fun q => by subst he; exact hm q, (fun q => by rw [ho] at q; cases q), by subst he; exact Nat.le_refl _, by subst he; exact I.fresh (Nat.le_refl _), fun _ x hx => ?_, fun _ x y cx cy hx hy ex ey hxy => ?_, fun _ => none, fun _ => 0, ?_, fun x sl e => ?_, fun x y lx ly ex ey hxy => ?_⟩
  · rw [hkd] at hx
    obtain ⟨a, h1, h2⟩ := lk x hx
    obtain ⟨h3, h4⟩ := CO.empty x a h2
    exact ⟨a, h1, Nat.le_trans (Nat.le_succ _) h4, I.fresh (Nat.le_trans (Nat.le_succ _) h4), none, h3⟩
  · rw [hkd] at hx hy
    obtain ⟨a, h1, h2⟩ := lk x hx
    obtain ⟨b, h3, h4⟩ := lk y hy
    rw [ex] at h1; rw [ey] at h3; cases h1; cases h3
    intro q; subst q
    exact hxy (name_of_addr CO.apart h2 h4)
  · have : env.locals = s.heap.objs.size := by subst he; rfl
    rw [this]
    exact (Heap.Ns.new s.heap (.type "frame")).keeps (pushCells_keeps _ _)
  · obtain ⟨pv, h1, rfl⟩ := capσ_lookup e
    obtain ⟨a, o, v, h2, h3, h4, h5⟩ := repCl_lookup R h1
    have hf := hsc.free x (List.mem_map_of_mem (f := (·.1)) (mem_of_lookup h1))
    exact ⟨v, .old (.inr ((hkd x).trans hf.1)) hf.2 a ((lk2 x hf.1).trans h2) ⟨o, I.froz _ _ h3, h4⟩, h5⟩
  · obtain ⟨pv, _, q⟩ := capσ_lookup ex; cases q

theorem bind_all {F W env h0 A} : ∀ {binds : List (Str × Value)} {pb : List (Str × PV)} {σ : Store} {s : Shared} {Q : PUnit → Shared → Prop} {E : Value → Shared → Prop} (f : Str × Value → PUnit → Sem (ForInStep PUnit)) (hf : ∀ n v u, f (n, v) u = (do storeName env n v; pure (.yield ⟨⟩))),
    BindRep c W binds pb → FrInv c W F env h0 σ s.heap → (∀ x ∈ pb.map (·.1), Storable F x) → (∀ s', FrInv c W F env h0 (bindσ σ pb) s'.heap → SPost W h0 s W s' → Q ⟨⟩ s') → wpAny c.M A (forIn binds ⟨⟩ f) Q E s
  | _, _, σ, s, Q, E, f, hf, .nil, I, _, k => by rw [List.forIn_nil]; exact wpAny_pure (k s I (.refl _ _ _))
  | _, _, σ, s, Q, E, f, hf, .cons x v pv l l' h1 h2, I, hs, k => by
    rw [List.forIn_cons, hf]
    refine wpAny_bind (wpAny_bind (store_val I (hs x (by simp)) h1 fun s' I' p _ => wpAny_pure ?_))
    exact bind_all f hf h2 I' (fun y hy => hs y (by simp only [List.map_cons]; exact List.mem_cons_of_mem _ hy)) fun s'' I'' p' => k s'' I'' (p.trans p')

theorem AOk.deeper {n A env} (h : AOk (n + 1) A) : AOk n (A.deeper env) := ⟨by have := h.1; show A.depth + 1 + n < _; (first | lia | omega), by have := h.2.1; show A.units + 3 + 16 * n + 100 < _; (first | lia | omega), h.2.2⟩

theorem call_fd {W A n mk} {r : FnRec} {caps : List (Str × PV)} {pb : List (Str × PV)} {binds : List (Str × Value)} {a : Addr} {o : Obj} {fd : FuncData} {cd : Addr} {oc : Obj} {vc : Array Value} {q1 : Value} {args : List Value} {s : Shared} {R : Result → Shared → Prop} {P : PV → Prop} (ok : GOk c) (I : Inv c W s.heap) (ao : AOk (n + 1) A)
    (ho : s.heap.get? a = some o) (hd : o.data = .func fd) (hb : fd.body = r.body) (hsc : fd.scope = r.scope) (hg : fd.globals = mainGlobals) (hbl : fd.builtins = builtinsNs) (hcd : fd.code = .ref cd)
    (hoc : s.heap.get? cd = some oc) (hdc : oc.data = .fields vc) (hv1 : vc[1]? = some q1) (hmk : mk = true → W.C cd)
    (RC : RepCl c W fd.closure caps) (hS : ScOk r.scope caps) (hbind : BindsTo s fd ⟨args, []⟩ binds) (BR : BindRep c W binds pb) (hst : ∀ x ∈ pb.map (·.1), Storable ⟨r.scope, n, true, mk⟩ x)
    (h : match r.body with
      | .stmts body => ExSs c ⟨r.scope, n, true, mk⟩ body (bindσ (capσ caps) pb) fun f _ => match f with | .ret v => P v | .next => P .none | _ => False
      | .expr e => EvE c ⟨r.scope, n, true, mk⟩ e (bindσ (capσ caps) pb) P)
    (k : ∀ pv v W' s', P pv → Post c W s W' s' → Rep c W' v pv → R (.ok (.ret v)) s') : codeAny c.M A (.call (.ref a) ⟨args, []⟩) R s := by
  refine codeAny_of_tree ?_
  show wpAny _ A.in1 (callAny (.ref a) ⟨args, []⟩) _ _ s
  simp only [callAny]
  refine wpAny_bind (wpAny_load ho ?_)
  simp only [hd, callFunction, hcd]
  refine wpAny_bind (m := field (.ref cd) 1) (wpAny_field hoc hdc hv1 ?_)
  have go : ∀ qual : Str, wpAny c.M A.in1 (bindArgs fd ⟨args, []⟩ >>= fun b => newFunctionEnv fd.scope fd.globals fd.closure b (qual ++ ".<locals>.") (some a) (.ref cd) none fd.builtins >>= fun env => enterFrame >>= fun _ =>
      (match fd.scope.isGenerator, fd.scope.isCoroutine with
        | false, false => again (match fd.body with | .stmts b => Code.func b env | .expr e => .expr e env)
        | true, false => do ret (← newGenerator (match fd.body with | .stmts b => Code.func b env | .expr e => .expr e env) fd.name fd.qualname)
        | false, true => do ret (← newCoroutine (match fd.body with | .stmts b => Code.func b env | .expr e => .expr e env) fd.name fd.qualname)
        | true, true => do ret (← newAsyncGenerator (match fd.body with | .stmts b => Code.func b env | .expr e => .expr e env) fd.name fd.qualname)))
      (fun fin s' => match fin with | .done f => R (.ok f) s' | .again c' => c'.quiet = true ∧ codeAny c.M A c' R s') (fun e s' => R (.error e) s') s := by
    intro qual
    refine wpAny_bind (hbind _ _ _ _ (wpAny_bind ?_))
    rw [hsc, hg, hbl, hS.co, hS.gen]
    simp only [newFunctionEnv, Option.isSome_none, Bool.false_eq_true, if_false]
    refine wpAny_bind (wpAny_alloc ?_)
    refine wpAny_bind (wpAny_layCells _ (fun name kind cells => by cases hkc : kind == NameKind.cell <;> simp [hkc]) _ _ _ _ ?_)
    rw [show ({ s with heap := s.heap.push { cls := .type "frame", data := .dict #[] } } : Shared).heap.objs.size = s.heap.objs.size + 1 from Heap.size_push ..]
    let env := newEnv r.scope s.heap.objs.size mainGlobals (cellsFrom (s.heap.objs.size + 1) r.scope.names fd.closure) (qual ++ ".<locals>.") (some a) (.ref cd) none builtinsNs
    have I0 : FrInv c W ⟨r.scope, n, true, mk⟩ env s.heap (capσ caps) (pushCells (s.heap.push { cls := .type "frame", data := .dict #[] }) r.scope.names) :=
      start_frame (F := ⟨r.scope, n, true, mk⟩) ok I RC hS rfl (fun q => ⟨cd, rfl, hmk q⟩) env rfl
    refine wpAny_bind (bind_all (env := env) _ (fun _ _ _ => rfl) BR I0 hst fun s1 I1 p1 => wpAny_pure ?_)
    have q0 : SPost W s.heap s W s1 := ⟨p1.le, p1.low, p1.os, p1.gens, fun b ob vs e d nn => p1.keep b ob vs (pushCells_keeps _ _ _ _ (Heap.get?_push_of_some _ e)) d nn, fun _ _ _ _ _ _ => rfl⟩
    refine wpAny_bind (wpAny_enterFrame (I1.inv.nolim ok) (by have := ao.1; show A.depth < _; (first | lia | omega)) ?_)
    have fin : ∀ {pv v W'} {s' : Shared}, P pv → WkInv c W' s.heap s'.heap → SPost W s.heap s W' s' → Rep c W' v pv → R (.ok (.ret v)) s' := fun hp I' p' Rv =>
      k _ _ _ _ hp ⟨I'.inv, ⟨I'.ext, I'.size, p'.le, p'.low⟩, p'.os, p'.gens⟩ Rv
    rw [hb]
    cases hbody : r.body with
    | stmts body =>
      rw [hbody] at h
      refine wpAny_pure (And.intro rfl (codeAny_func ?_))
      refine h I1 ao.deeper fun f σ' fl W' s' hp I' RF p' => ?_
      cases RF with
      | next => exact fin hp (FrInv.wk I') (q0.trans p') .none
      | ret v pv Rv => exact fin hp I' (q0.trans p') Rv
      | brk => exact hp.elim
      | cont => exact hp.elim
    | expr e =>
      rw [hbody] at h
      refine wpAny_pure (And.intro rfl (kla_codeExpr ?_))
      exact h I1 ao.deeper fun pv v W' s' hp p' Rv => fin hp (I1.post p').wk (q0.trans (p'.sp I1.size)) Rv
  cases q1 with
  | str q t => exact wpAny_bind (wpAny_pure (go q))
  | _ => exact wpAny_bind (wpAny_pure (go fd.qualname))

end
end

section
section
variable {c : GCtx} {F : FSt} {σ : Store}

theorem filterMap_ext {α β : Type} {f g : α → Option β} : ∀ {l : List α}, (∀ x ∈ l, f x = g x) → l.filterMap f = l.filterMap g
  | [], _ => rfl
  | x :: l, h => by rw [List.filterMap_cons, List.filterMap_cons, h x List.mem_cons_self, filterMap_ext fun y hy => h y (List.mem_cons_of_mem _ hy)]
theorem zip_lookup_self : ∀ {names : List Str} {vs : List Value}, names.Nodup → vs.length = names.length → names.filterMap (fun n => ((names.zip vs).lookup n).map (n, ·)) = names.zip vs
  | [], [], _, _ => rfl
  | [], _ :: _, _, h => by simp at h
  | _ :: _, [], _, h => by simp at h
  | x :: names, v :: vs, hn, h => by
    simp only [List.nodup_cons] at hn
    simp only [List.zip_cons_cons, List.filterMap_cons, List.lookup_cons, beq_self_eq_true, Option.map_some]
    congr 1
    refine Eq.trans (filterMap_ext fun y hy => ?_) (zip_lookup_self hn.2 (by simpa using h))
    have hyx : y ≠ x := fun q => hn.1 (q ▸ hy)
    rw [beq_eq_false_iff_ne.mpr hyx]
theorem zip_lookup_some {names : List Str} {vs : List Value} (h : vs.length = names.length) : ∀ n ∈ names, ((names.zip vs).lookup n).isNone = false := by
  induction names generalizing vs with
  | nil => intro n hn; cases hn
  | cons x names ih =>
    intro n hn
    cases vs with
    | nil => simp at h
    | cons v vs =>
      rw [List.zip_cons_cons, List.lookup_cons]
      by_cases hx : n = x
      · subst hx; simp
      · rw [beq_eq_false_iff_ne.mpr hx]
        exact ih (by simpa using h) n ((List.mem_cons.mp hn).resolve_left hx)

theorem bind_plain {fd : FuncData} {ps : List Arg} {dfs : List Expr} {vs : List Value} {s : Shared} (hp : fd.params = ⟨[], ps, none, [], [], none, dfs⟩) (hd : fd.defaults = .none) (hn : (ps.map (·.arg)).Nodup) (hl : vs.length = ps.length) :
    BindsTo s fd ⟨vs, []⟩ ((ps.map (·.arg)).zip vs) := by
  refine BindsTo.of_eq ?_
  have hl' : vs.length = (ps.map (·.arg)).length := by simpa using hl
  unfold bindArgs
  rw [hp, hd]
  have hseq : seqItems? Value.none = pure none := rfl
  have hmiss : (ps.map (·.arg)).filter (fun n => (((ps.map (·.arg)).zip vs).lookup n).isNone) = [] := by
    rw [List.filter_eq_nil_iff]; intro n hn2; rw [zip_lookup_some hl' n hn2]; simp
  simp only [List.map_nil, List.nil_append, List.append_nil, hseq, pure_bind, Option.getD_none, List.forIn_nil, List.length_nil, Nat.sub_zero, List.drop_nil, Nat.zero_sub]
  rw [if_neg (by simp [hl])]
  rw [show List.take (List.map (fun x => x.arg) ps).length (List.map (fun x => x.arg) ps) = ps.map (·.arg) from List.take_length]
  rw [hmiss]
  simp only [List.isEmpty_nil, Bool.not_true, Bool.false_eq_true, if_false, List.drop_length, List.zip_nil_right, List.forIn_nil, pure_bind]
  rw [zip_lookup_self hn hl']

theorem evalArgs_any {A : Around} {s : Shared} {f : Value} {args : List (Bool × Sem Value)} {Q : Args → Shared → Prop} {E : Value → Shared → Prop} (hs : args.all (fun x => !x.1) = true)
    (h : wpAny c.M A (spliced args) (fun vs s' => Q ⟨vs, []⟩ s') E s) : wpAny c.M A (evalArgs f true args []) Q E s := by
  cases args with
  | cons x r =>
    obtain ⟨b, t⟩ := x
    cases b with
    | false => exact evalArgs_plain h
    | true => cases hs
  | nil =>
    unfold evalArgs
    show wpAny c.M A (spliced [] >>= _) Q E s
    refine wpAny_bind (wpAny_mono h (fun vs s' h' => ?_) fun _ _ x => x)
    refine wpAny_holding ?_
    exact wpAny_bind (wpAny_pure (wpAny_bind (wpAny_pure (wpAny_pure h'))))

theorem starEach_all : ∀ {es : List Expr} {env : Env} (pos : Pos), noStar es = true → (backTo pos (starEach es env)).all (fun x => !x.1) = true
  | [], _, _, _ => rfl
  | e :: es, env, pos, h => by
    obtain ⟨e1, e2⟩ := starEach_cons (env := env) h
    rw [e1, backTo_cons, List.all_cons, starEach_all pos e2]; rfl

noncomputable def Callable : PV → Prop
  | .glob _ | .fn .. => True
  | _ => False
theorem callable_fn {W v f} {h : Heap} (ok : GOk c) (I : Inv c W h) (R : Rep c W v f) (hc : Callable f) : ∃ a o fd, v = .ref a ∧ h.get? a = some o ∧ o.data = .func fd ∧ ∀ ps, o ≠ tabObj ps := by
  cases R with
  | glob x _ h1 h2 =>
    obtain ⟨⟨r, mk⟩, e⟩ := Option.isSome_iff_exists.mp h2
    obtain ⟨a, o, fd, cd, oc, vs, q, t, e1, e2, e3, e4, _⟩ := ok.fn x r mk e
    rw [h1] at e1; cases e1
    exact ⟨a, o, fd, rfl, I.base _ _ e2, e4, fun ps q => by rw [q] at e4; cases e4⟩
  | fn a o fd r caps dfl dv attr cd h1 h2 h3 => exact ⟨a, o, fd, rfl, I.froz _ _ h1, h3, fun ps q => by rw [q] at h3; cases h3⟩
  | _ => exact hc.elim

theorem call_with {W env h0 A v f} {es : List Expr} {s : Shared} {pos apos : Pos} {Q E : Value → Shared → Prop} {P : PV → Prop} (ok : GOk c) (I : FrInv c W F env h0 σ s.heap) (ao : AOk F.n A) (R : Rep c W v f) (hc : Callable f) (hn : noStar es = true)
    (h : EvL c F es σ fun pvs => CallS c F.n f pvs P) (k : KontV c W s P Q) : wpAny c.M A (callWith pos v [] (backTo apos (starEach es env)) []) Q E s := by
  obtain ⟨a, o, fd, rfl, ho, hd, hnt⟩ := callable_fn ok I.inv R hc
  refine callWith_function (o := o) (fd := fd) (evalArgs_any (starEach_all apos hn) ?_)
  refine EvL.run h hn apos I ao fun pvs vs W1 s1 h1 p1 R1 => ⟨⟨p1.step.ext _ _ ho hnt, hd⟩, ?_⟩
  exact h1 p1.inv ao (R.mono p1.step.le) R1 fun pv v W2 s2 h2 p2 R2 => k _ _ _ _ h2 (p1.trans p2) R2
theorem EvE.call {x xp es pos} {P : PV → Prop} (ok : GOk c) (h : EvE c F (.Name x xp) σ fun f => Callable f ∧ EvL c F es σ fun pvs => CallS c F.n f pvs P) (hn : noStar es = true) : EvE c F (.Call (.Name x xp) es [] pos) σ P := by
  intro W env h0 A s Q E I ao kk
  show wpAny _ _ (eval (.Name x xp) env >>= fun f => callWith pos f [] (backTo pos (starEach es env)) (backToKw pos (keywordEach [] env))) Q E s
  refine wpAny_bind (h I ao fun f v W1 s1 h1 p1 R1 => ?_)
  exact call_with ok (I.post p1) ao R1 h1.1 hn h1.2 fun pv v W2 s2 h2 p2 R2 => kk _ _ _ _ h2 (p1.trans p2) R2

theorem CallS.glob {f : Str} {r : FnRec} {mk : Option Addr} {ps : List Arg} {n : Nat} {args : List PV} {P : PV → Prop} (ok : GOk c) (hr : c.recs f = some (r, mk)) (hp : r.params = ⟨[], ps, none, [], [], none, []⟩) (hn : (ps.map (·.arg)).Nodup) (hl : args.length = ps.length)
    (hS : ScOk r.scope []) (hst : ∀ x ∈ ps.map (·.arg), Storable ⟨r.scope, n, true, mk.isSome⟩ x)
    (h : match r.body with
      | .stmts body => ExSs c ⟨r.scope, n, true, mk.isSome⟩ body (bindσ [] ((ps.map (·.arg)).zip args)) fun f _ => match f with | .ret v => P v | .next => P .none | _ => False
      | .expr e => EvE c ⟨r.scope, n, true, mk.isSome⟩ e (bindσ [] ((ps.map (·.arg)).zip args)) P) : CallS c (n + 1) (.glob f) args P := by
  intro W A s v vs Q E I ao R RL kk
  obtain ⟨a, o, fd, cd, oc, vc, q, t, e1, e2, e3, e4, e5, e6, e7, e8, e9, e10, e11, e12, e13, e14, e15, e16, e17⟩ := ok.fn f r mk hr
  cases R with
  | glob _ _ h1 _ =>
  rw [h1] at e1; cases e1
  refine wpAny_call (call_fd (pb := (ps.map (·.arg)).zip args) (caps := []) ok I ao (I.base _ _ e2) e4 e6 e7 e8 e9 e13 (I.base _ _ e14) e15 e16 (fun q => ?_) (by rw [e10]; exact .nil) hS (bind_plain (e5.trans hp) e11 hn (by rw [RL.length, hl])) (BindRep.zip RL) (fun x hx => ?_) h ?_)
  · obtain ⟨m, rfl⟩ := Option.isSome_iff_exists.mp q
    rw [e17 m rfl]; exact I.stat f r m hr
  · refine hst x ?_
    obtain ⟨p, hp1, rfl⟩ := List.mem_map.mp hx
    exact (List.of_mem_zip hp1).1
  · exact fun pv v W' s' hp p R => kk _ _ _ _ hp p R

end
end

section
section
variable {c : GCtx} {F : FSt} {σ : Store}

structure Blt (c : GCtx) (x : Str) (v : Value) : Prop where
  mg : c.mg x = none
  mb : c.mb x = some v

noncomputable def BltS (c : GCtx) (f : Value) (args : List PV) (P : PV → Prop) : Prop :=
  ∀ ⦃W A s vs⦄ ⦃Q E : Value → Shared → Prop⦄, Inv c W s.heap → AOk 0 A → RepL c W vs args → KontV c W s P Q → wpAny c.M A (call f vs) Q E s
noncomputable def BltG (c : GCtx) (f : Value) (args : List PV) (P : Slot → Prop) : Prop :=
  ∀ ⦃W A s vs⦄ ⦃Q E : Value → Shared → Prop⦄, Inv c W s.heap → AOk 0 A → RepL c W vs args → (∀ sl v W' s', P sl → Post c W s W' s' → GRep c W' s.heap.objs.size s'.heap v sl → Q v s') → wpAny c.M A (call f vs) Q E s

noncomputable def Flat : Value → Prop
  | .builtin _ | .type _ => True
  | _ => False
theorem callWith_flat {A : Around} {s : Shared} {pos : Pos} {f : Value} {args : List (Bool × Sem Value)} {Q E : Value → Shared → Prop} (hf : Flat f) (hs : args.all (fun x => !x.1) = true)
    (h : wpAny c.M A (spliced args) (fun vs s₁ => wpAny c.M A (call f vs) Q E s₁) E s) : wpAny c.M A (callWith pos f [] args []) Q E s := by
  have ha : args.any (·.1) = false := by
    rw [List.any_eq_false]; intro x hx; have := List.all_eq_true.mp hs x hx; simpa using this
  unfold callWith
  refine wpAny_bind (wpAny_holding (evalArgs_any hs (wpAny_mono h (fun vs s₁ h₁ => wpAny_bind (wpAny_standAt ?_)) fun _ _ x => x)))
  simp only [ha, List.any_nil, Bool.or_false]
  have hk : keeperOf f = pure .machine := by cases f <;> first | rfl | exact hf.elim
  rw [hk]
  refine wpAny_bind (wpAny_pure ?_)
  exact wpAny_bind (wpAny_mono h₁ (fun r s₂ hr => wpAny_bind (wpAny_holding (wpAny_point (wpAny_pure hr)))) fun _ _ x => x)

theorem load_blt {W env h0 A x v} {xp : Pos} {s : Shared} {Q E : Value → Shared → Prop} (ok : GOk c) (I : FrInv c W F env h0 σ s.heap) (hb : Blt c x v) (hk : F.scope.names.lookup x = some .globalImplicit) (h : Q v s) (hd : (x == ("__debug__" : Str)) = false) : wpAny c.M A (eval (.Name x xp) env) Q E s := by
  have hke : env.scope.kind = .function := by rw [I.scope]; exact I.kind
  exact Name_function_global hke (by show env.scope.names.lookup x = _; rw [I.scope]; exact hk) (loadGlobal_builtin (mg := c.mg) (mb := c.mb) (by rw [I.glob]; exact I.inv.gN ok) hb.mg (by rw [I.blt]; exact I.inv.bN ok) hb.mb h) hd

theorem EvG.callB {x xp es pos f} {P : Slot → Prop} (ok : GOk c) (hb : Blt c x f) (hf : Flat f) (h : EvL c F es σ fun pvs => BltG c f pvs P) (hk : F.scope.names.lookup x = some .globalImplicit) (hn : noStar es = true := by rfl) (hd : (x == ("__debug__" : Str)) = false := by decide) : EvG c F (.Call (.Name x xp) es [] pos) σ P := by
  intro W env h0 A s Q E I ao kk
  show wpAny _ _ (eval (.Name x xp) env >>= fun f => callWith pos f [] (backTo pos (starEach es env)) (backToKw pos (keywordEach [] env))) Q E s
  refine wpAny_bind (load_blt ok I hb hk ?_ hd)
  refine callWith_flat hf (starEach_all pos hn) (EvL.run h hn pos I ao fun pvs vs W1 s1 h1 p1 R1 => ?_)
  refine h1 p1.inv ao.zero R1 fun sl v W2 s2 h2 p2 G2 => kk _ _ _ _ h2 (p1.trans p2) ?_
  cases sl with
  | val pv => exact G2
  | own l => obtain ⟨g1, a, vs, g2, g3, g4⟩ := G2; exact ⟨g1, a, vs, g2, Nat.le_trans p1.step.size g3, g4⟩
  | view l => exact G2
theorem EvE.callB {x xp es pos f} {P : PV → Prop} (ok : GOk c) (hb : Blt c x f) (hf : Flat f) (h : EvL c F es σ fun pvs => BltS c f pvs P) (hk : F.scope.names.lookup x = some .globalImplicit) (hn : noStar es = true) (hd : (x == ("__debug__" : Str)) = false) : EvE c F (.Call (.Name x xp) es [] pos) σ P := by
  intro W env h0 A s Q E I ao kk
  show wpAny _ _ (eval (.Name x xp) env >>= fun f => callWith pos f [] (backTo pos (starEach es env)) (backToKw pos (keywordEach [] env))) Q E s
  refine wpAny_bind (load_blt ok I hb hk ?_ hd)
  refine callWith_flat hf (starEach_all pos hn) (EvL.run h hn pos I ao fun pvs vs W1 s1 h1 p1 R1 => ?_)
  exact h1 p1.inv ao.zero R1 fun pv v W2 s2 h2 p2 R2 => kk _ _ _ _ h2 (p1.trans p2) R2

theorem BltS.lenS {a : List Sym} {P : PV → Prop} (h : P (.int a.length)) : BltS c (.builtin "len") [.str a] P := by
  intro W A s vs Q E I ao R k
  obtain ⟨v, _, rfl, R1, R2⟩ := R.inv
  obtain rfl := R2.inv
  obtain ⟨t, rfl, hl⟩ := R1.inv
  have hl' : a.length ≤ 1048576 := hl
  refine PyProof.Rows.SBL.len (by rw [mkS_length]; (first | lia | omega)) (k _ _ _ _ h (Post.tok I _) ?_)
  rw [mkS_length]; exact .int _ _
theorem BltS.lenL {a : List PV} {P : PV → Prop} (h : P (.int a.length)) : BltS c (.builtin "len") [.list a] P := by
  intro W A s vs Q E I ao R k
  obtain ⟨v, _, rfl, R1, R2⟩ := R.inv
  obtain rfl := R2.inv
  obtain ⟨b, o, n, ws, rfl, h1, h2, h3, h4, h5⟩ := R1.inv
  have hl' : a.length ≤ 1048576 := h5
  refine PyProof.Rows.len_list ⟨o, I.froz _ _ h1, h2, n, h3⟩ (by rw [List.size_toArray, h4.length]; (first | lia | omega)) (k _ _ _ _ h (Post.tok I _) ?_)
  rw [List.size_toArray, h4.length]; exact .int _ _
theorem BltS.range1 {n : Int} {P : PV → Prop} (h : P (.range 0 n 1)) : BltS c (.type "range") [.int n] P := by
  intro W A s vs Q E I ao R k
  obtain ⟨v, _, rfl, R1, R2⟩ := R.inv
  obtain rfl := R2.inv; obtain ⟨_, rfl⟩ := R1.inv
  exact call_range_1 (k _ _ _ _ h (Post.alloc I _ _ rfl (fun ps q => by cases q)) (.range _ _ _ _ _ _ _ (Wd.add_self ..)))
theorem BltS.range3 {a b d : Int} {P : PV → Prop} (hd : d ≠ 0) (hs : d.natAbs < 1073741824) (h : P (.range a b d)) : BltS c (.type "range") [.int a, .int b, .int d] P := by
  intro W A s vs Q E I ao R k
  obtain ⟨v, _, rfl, R1, R2⟩ := R.inv
  obtain ⟨_, _, rfl, Q2, R3⟩ := R2.inv
  obtain ⟨_, _, rfl, Q3, R4⟩ := R3.inv
  obtain rfl := R4.inv; obtain ⟨_, rfl⟩ := R1.inv; obtain ⟨_, rfl⟩ := Q2.inv; obtain ⟨_, rfl⟩ := Q3.inv
  exact call_range_3 hd (k _ _ _ _ h (Post.alloc I _ _ rfl (fun ps q => by cases q)) (.range _ _ _ _ _ _ _ (Wd.add_self ..))) (Or.inl (PyProof.noPylong_small hs))
theorem itemsOf_rep {W} {a k : Int} : ∀ (n : Nat) {acc : Array Value}, ItemsOf (fun i v => ∃ t, v = Value.int (a + (i : Nat) * k) t) acc n → RepL c W acc.toList ((List.range n).map fun (i : Nat) => .int (a + k * i)) := by
  intro n acc h
  have hlen : acc.toList.length = n := by simpa using h.1
  have key : ∀ (l : List Value) (j : Nat), (∀ i v, l[i]? = some v → ∃ t, v = Value.int (a + ((j + i : Nat) : Int) * k) t) → RepL c W l ((List.range l.length).map fun (i : Nat) => PV.int (a + k * ((j + i : Nat) : Int))) := by
    intro l
    induction l with
    | nil => intro j _; exact .nil
    | cons v l ih =>
      intro j hj
      rw [List.length_cons, List.range_succ_eq_map, List.map_cons, List.map_map]
      obtain ⟨t, rfl⟩ := hj 0 v (by simp)
      refine .cons _ _ _ _ ?_ ?_
      · have : a + ((j + 0 : Nat) : Int) * k = a + k * ((j + 0 : Nat) : Int) := by rw [Int.mul_comm]
        rw [this]; exact .int _ _
      · have := ih (j + 1) (fun i v hv => by
          obtain ⟨t, e⟩ := hj (i + 1) v (by simpa using hv)
          exact ⟨t, by rw [e, show j + (i + 1) = j + 1 + i by (first | lia | omega)]⟩)
        have e2 : (List.range l.length).map (fun (i : Nat) => PV.int (a + k * ((j + 1 + i : Nat) : Int))) = (List.range l.length).map ((fun (i : Nat) => PV.int (a + k * ((j + i : Nat) : Int))) ∘ Nat.succ) := by
          apply List.map_congr_left; intro i _; simp only [Function.comp]; rw [show j + 1 + i = j + i.succ by (first | lia | omega)]
        rw [e2] at this; exact this
  have := key acc.toList 0 (fun i v hv => by
    obtain ⟨t, e⟩ := h.2 i v (by simpa using hv)
    exact ⟨t, by rw [e, Nat.zero_add]⟩)
  rw [hlen] at this
  simpa using this
theorem BltG.listRange {a b k : Int} {P : Slot → Prop} (hs : Builtin.Range.small a b k = true) (h0 : 0 ≤ Builtin.Range.rangeSize a b k) (hn : Builtin.Range.rangeSize a b k ≤ 1048576) (h : P (.own (rangeL a b k))) : BltG c (.type "list") [.range a b k] P := by
  intro W A s vs Q E I ao R kk
  obtain ⟨v, _, rfl, R1, R2⟩ := R.inv
  obtain rfl := R2.inv
  obtain ⟨r, t, u, v, rfl, h1⟩ := R1.inv
  refine wpAny_size ?_
  refine call_list_range ao.2.2 (I.froz _ _ h1) hs (n := (Builtin.Range.rangeSize a b k).toNat) (by (first | lia | omega)) (by (first | lia | omega)) fun h' tk acc c' hk hS hacc hsz => ?_
  refine kk _ _ _ _ h (Post.grow I hk hsz) ⟨?_, _, acc.toList, rfl, Nat.le_refl _, I.fresh (Nat.le_refl _), ⟨c', #[], by simpa using hS⟩, itemsOf_rep _ hacc⟩
  unfold rangeL; rw [List.length_map, List.length_range]; show _ ≤ 1048576; (first | lia | omega)
theorem BltS.min2 {a b : Int} {P : PV → Prop} (h : P (.int (min a b))) : BltS c (.builtin "min") [.int a, .int b] P := by
  intro W A s vs Q E I ao R kk
  obtain ⟨v, _, rfl, R1, R2⟩ := R.inv
  obtain ⟨_, _, rfl, Q2, R3⟩ := R2.inv
  obtain rfl := R3.inv; obtain ⟨_, rfl⟩ := R1.inv; obtain ⟨_, rfl⟩ := Q2.inv
  refine wpAny_size (min_two_ints ao.2.2 fun h' tk hk hsz => ?_)
  have e : ∀ {t u : Tok}, ∃ t', (if b < a then Value.int b u else Value.int a t) = .int (min a b) t' := fun {t u} => by
    split
    · exact ⟨u, by rw [show min a b = b by (first | lia | omega)]⟩
    · exact ⟨t, by rw [show min a b = a by (first | lia | omega)]⟩
  obtain ⟨t', e'⟩ := e
  rw [e']
  exact kk _ _ _ _ h (Post.grow I hk hsz) (.int _ _)
theorem BltS.max2 {a b : Int} {P : PV → Prop} (h : P (.int (max a b))) : BltS c (.builtin "max") [.int a, .int b] P := by
  intro W A s vs Q E I ao R kk
  obtain ⟨v, _, rfl, R1, R2⟩ := R.inv
  obtain ⟨_, _, rfl, Q2, R3⟩ := R2.inv
  obtain rfl := R3.inv; obtain ⟨_, rfl⟩ := R1.inv; obtain ⟨_, rfl⟩ := Q2.inv
  refine wpAny_size (max_two_ints ao.2.2 fun h' tk hk hsz => ?_)
  have e : ∀ {t u : Tok}, ∃ t', (if b > a then Value.int b u else Value.int a t) = .int (max a b) t' := fun {t u} => by
    split
    · exact ⟨u, by rw [show max a b = b by (first | lia | omega)]⟩
    · exact ⟨t, by rw [show max a b = a by (first | lia | omega)]⟩
  obtain ⟨t', e'⟩ := e
  rw [e']
  exact kk _ _ _ _ h (Post.grow I hk hsz) (.int _ _)

noncomputable def MthS (c : GCtx) (id : String) (x : List Sym) (args : List PV) (P : PV → Prop) : Prop :=
  ∀ ⦃W A s v vs⦄ ⦃Q E : Value → Shared → Prop⦄, Inv c W s.heap → AOk 0 A → Rep c W v (.str x) → RepL c W vs args → KontV c W s P Q → wpAny c.M A (call (.builtin id) (v :: vs)) Q E s
theorem EvE.method {o : Expr} {name : Str} {ap es pos} {P : PV → Prop} (id : String) (slot : PySem.Slot "str" name id) (ty : typeOf (.builtin id) = pure (.type "method_descriptor"))
    (h : EvE c F o σ fun v => ∃ x, v = .str x ∧ EvL c F es σ fun pvs => MthS c id x pvs P) (hn : noStar es = true := by rfl) (hfew : es.length < 30 := by decide) (hline : (ap.endLine == pos.line) = true := by rfl)
    (hbase : ∀ env, attributeBase o name env (eval o env) = eval o env := by intro _; rfl) : EvE c F (.Call (.Attribute o name ap) es [] pos) σ P := by
  intro W env h0 A s Q E I ao kk
  refine wpAny_Call_method_lateS (hbase env) ?_ hline (h I ao fun v vv W1 s1 h1 p1 R1 => ?_)
  · rw [starEach_all pos hn]
    simp [backToKw, keywordEach, hfew]
  obtain ⟨x, rfl, h1⟩ := h1
  have hv : ∃ t, vv = .str (mkS c.κ x) t := by obtain ⟨t, e, _⟩ := R1.inv; exact ⟨t, e⟩
  obtain ⟨t, rfl⟩ := hv
  refine ⟨"str", id, PySem.F.plainAttrs_str, slot, ty, rfl, (fun a q => by cases q), ?_⟩
  have ha : (backTo pos (starEach es env)).any (·.1) = false := by
    rw [List.any_eq_false]; intro x hx; have := List.all_eq_true.mp (starEach_all (env := env) pos hn) x hx; simpa using this
  refine callWith_builtin ha (evalArgs_any (starEach_all pos hn) (EvL.run h1 hn pos (I.post p1) ao fun pvs vs W2 s2 h2 p2 R2 => ?_))
  exact h2 p2.inv ao.zero (R1.mono p2.step.le) R2 fun pv v W3 s3 h3 p3 R3 => kk _ _ _ _ h3 ((p1.trans p2).trans p3) R3
theorem MthS.lower1 {x : Sym} {P : PV → Prop} (hlow : ∀ x, Txt.lower (mkS c.κ [x]) = mkS c.κ [c.low x]) (h : P (.str [c.low x])) : MthS c "str.lower" [x] [] P := by
  intro W A s v vs Q E I ao R RL kk
  obtain rfl := RL.inv; obtain ⟨_, rfl, _⟩ := R.inv
  refine PySem.SC.lower ?_ ?_
  · rw [hlow, mkS_length]; rfl
  · rw [hlow]; exact kk _ _ _ _ h (Post.tok I _) (.str _ _ (show 1 ≤ big by decide +kernel))
end
end

section
inductive All2 {α β : Type} (R : α → β → Prop) : List α → List β → Prop
  | nil : All2 R [] []
  | cons {a b l l'} : R a b → All2 R l l' → All2 R (a :: l) (b :: l')
section
variable {c : GCtx} {F : FSt} {σ : Store}

theorem ExS.assign2 {x xp y yp e pos} {P : PFlow → Store → Prop} (hx : Storable F x) (hy : Storable F y) (h : EvE c F e σ fun v => P .next ((σ.put x (.val v)).put y (.val v)))
    (hw : ∀ env, swappedStores [.Name x xp, .Name y yp] e env = pure none := by intro _; rfl) : ExS c F (.Assign [.Name x xp, .Name y yp] e pos) σ P := by
  intro W env h0 A s Q E I ao k
  refine wpAny_Assign_two (h I ao fun v vv W1 s1 h1 p1 R1 => ?_) rfl (hw env)
  refine PyProof.Rows.assign_Name (store_val (I.post p1) hx R1 fun s2 I2 p2 _ => ?_)
  exact PyProof.Rows.assign_Name (store_val I2 hy R1 fun s3 I3 p3 _ => k _ _ _ _ _ h1 I3 .next (((p1.sp I.size).trans p2).trans p3))

theorem RepL.reverse {W} : ∀ {vs l}, RepL c W vs l → RepL c W vs.reverse l.reverse
  | _, _, .nil => .nil
  | _, _, .cons v pv vs l h1 h2 => by rw [List.reverse_cons, List.reverse_cons]; exact h2.reverse.append (.cons _ _ _ _ h1 .nil)

noncomputable def putAll (σ : Store) : List Str → List PV → Store
  | x :: xs, v :: vs => putAll (σ.put x (.val v)) xs vs
  | _, _ => σ

theorem assign_all {W env h0 A} : ∀ {xs : List Str} {ts : List (Value → Sem Unit)} {vs : List Value} {pvs : List PV} {σ : Store} {s : Shared} {Q : Unit → Shared → Prop} {E : Value → Shared → Prop},
    (∀ x ∈ xs, Storable F x) → (All2 (fun (x : Str) (t : Value → Sem Unit) => ∀ v s Q E, wpAny c.M A (storeName env x v) Q E s → wpAny c.M A (t v) Q E s) xs ts) → RepL c W vs pvs → FrInv c W F env h0 σ s.heap →
    (∀ s', FrInv c W F env h0 (putAll σ xs pvs) s'.heap → SPost W h0 s W s' → KeepS F env s s' → Q () s') → wpAny c.M A (assignInOrder ts vs) Q E s
  | [], _, vs, pvs, σ, s, Q, E, _, hT, R, I, k => by
    cases hT
    have : assignInOrder [] vs = pure () := by cases vs <;> rfl
    rw [this]; exact wpAny_pure (k s (by cases pvs <;> exact I) (.refl _ _ _) (.refl _ _ _))
  | x :: xs, _, vs, pvs, σ, s, Q, E, hs, hT, R, I, k => by
    cases hT with | cons h1 h2 =>
    cases R with
    | nil => exact wpAny_pure (k s I (.refl _ _ _) (.refl _ _ _))
    | cons v pv vs pvs r1 r2 =>
      show wpAny _ _ (holding vs _ >>= fun _ => assignInOrder _ vs) Q E s
      refine wpAny_bind (wpAny_holding (h1 _ _ _ _ (store_val I (hs x List.mem_cons_self) r1 fun s' I' p' kp => ?_)))
      exact assign_all (fun y hy => hs y (List.mem_cons_of_mem _ hy)) h2 r2 I' fun s'' I'' p'' kp' => k _ I'' (p'.trans p'') (kp.trans kp')

noncomputable def nameTargets : List Expr → Option (List Str)
  | [] => some []
  | .Name x _ :: r => (nameTargets r).map (x :: ·)
  | _ => none
theorem targets_ok {A : Around} {env : Env} : ∀ {es : List Expr} {xs : List Str}, nameTargets es = some xs → (assignEach es env).length = xs.length ∧ (assignEach es env).findIdx? (·.1) = none ∧
    All2 (fun (x : Str) (t : Value → Sem Unit) => ∀ v s Q E, wpAny c.M A (storeName env x v) Q E s → wpAny c.M A (t v) Q E s) xs ((assignEach es env).map (·.2))
  | [], xs, h => by cases h; exact ⟨rfl, rfl, .nil⟩
  | e :: r, xs, h => by
    cases e <;> try (cases h; done)
    rename_i x pos
    simp only [nameTargets, Option.map_eq_some_iff] at h
    obtain ⟨ys, h1, rfl⟩ := h
    obtain ⟨k1, k2, k3⟩ := targets_ok (A := A) (env := env) h1
    refine ⟨?_, ?_, ?_⟩
    · show (assignEach r env).length + 1 = _; rw [k1]; rfl
    · show List.findIdx? (·.1) ((false, assign (.Name x pos) env) :: assignEach r env) = none
      rw [List.findIdx?_cons]; simp [k2]
    · exact .cons (fun v s Q E h => PyProof.Rows.assign_Name h) k3

theorem AsS.tuple {es n pos xs pvs} {P : Store → Prop} (hx : nameTargets es = some xs) (hs : ∀ x ∈ xs, Storable F x) (hl : pvs.length = xs.length) (h : P (putAll σ xs pvs)) : AsS c F (.Tuple es n pos) (.tuple pvs) σ P := by
  intro W env h0 A s v Q E I ao R k
  obtain ⟨a, o, m, vs, rfl, h1, h2, h3, h4, h5⟩ := R.inv
  obtain ⟨k1, k2, k3⟩ := targets_ok (c := c) (A := A) (env := env) hx
  have hT : IsTup s.heap a vs.toArray := ⟨o, I.inv.froz _ _ h1, h2, m, h3⟩
  show wpAny c.M A (standAt pos >>= fun _ => unpack (.ref a) (assignEach es env)) Q E s
  refine wpAny_bind (wpAny_standAt ?_)
  unfold unpack
  rw [show (assignEach es env).length = vs.toArray.size by rw [k1, List.size_toArray, h4.length, hl], k2]
  refine wpAny_bind (wpAny_holding (wpAny_size (PyProof.Rows.unpackItems_tuple ao.2.2 hT fun h' he hsz => ?_)))
  have hk : ∀ b ob, s.heap.get? b = some ob → h'.get? b = some ob := fun b ob e => he b ob (Nat.ne_of_lt (Heap.lt_size e)) e
  have p1 : Post c W s W { s with heap := h' } := Post.grow I.inv hk hsz
  rw [List.toList_toArray]
  exact assign_all hs k3 h4 (I.post p1) fun s' I' p' kp => k _ _ _ h I' ((p1.sp I.size).trans p') ((KeepS.of p1.step.ext).trans kp)

theorem ExS.swapTup {es n tp e pos xs} {P : PFlow → Store → Prop} (hs : ∀ x ∈ xs, Storable F x) (h : EvE c F e σ fun v => ∃ pvs, v = .tuple pvs ∧ pvs.length = xs.length ∧ P .next (putAll σ xs.reverse pvs.reverse))
    (hw : ∀ env : Env, env.scope = F.scope → swappedStores [.Tuple es n tp] e env = pure (some xs)) (hsw : ∀ env, swapsWithSole [.Tuple es n tp] e pos.line env = pure false := by intro _; rfl) : ExS c F (.Assign [.Tuple es n tp] e pos) σ P := by
  intro W env h0 A s Q E I ao k
  refine PyProof.Rows.Assign_Tuple_swapped (names := xs) (h I ao fun v vv W1 s1 h1 p1 R1 => ?_) (hsw env) (hw env I.scope)
  obtain ⟨pvs, rfl, hl, hP⟩ := h1
  obtain ⟨a, o, m, vs, rfl, h1, h2, h3, h4, h5⟩ := R1.inv
  have hT : IsTup s1.heap a vs.toArray := ⟨o, p1.inv.froz _ _ h1, h2, m, h3⟩
  rw [show xs.length = vs.toArray.size by rw [List.size_toArray, h4.length, hl]]
  refine wpAny_size (PyProof.Rows.unpackItems_tuple ao.2.2 hT fun h' he hsz => ?_)
  have hk : ∀ b ob, s1.heap.get? b = some ob → h'.get? b = some ob := fun b ob e => he b ob (Nat.ne_of_lt (Heap.lt_size e)) e
  have p2 : Post c W1 s1 W1 { s1 with heap := h' } := Post.grow p1.inv hk hsz
  rw [List.toList_toArray]
  have hT2 : All2 (fun (x : Str) (t : Value → Sem Unit) => ∀ v s Q E, wpAny c.M A (storeName env x v) Q E s → wpAny c.M A (t v) Q E s) xs.reverse (xs.reverse.map fun n => bindName env n) := by
    have : ∀ l : List Str, All2 (fun (x : Str) (t : Value → Sem Unit) => ∀ v s Q E, wpAny c.M A (storeName env x v) Q E s → wpAny c.M A (t v) Q E s) l (l.map fun n => bindName env n) := by
      intro l; induction l with
      | nil => exact .nil
      | cons x l ih => exact .cons (fun v s Q E h => wpAny_bindName h) ih
    exact this _
  have hR : RepL c W1 vs.reverse pvs.reverse := h4.reverse
  exact assign_all (fun x hx => hs x (List.mem_reverse.mp hx)) hT2 hR (I.post (p1.trans p2)) fun s' I' p' _ => k _ _ _ _ _ hP I' .next (((p1.trans p2).sp I.size).trans p')

theorem ExS.assignTup {es n tp e pos xs} {P : PFlow → Store → Prop} (hx : nameTargets es = some xs) (hs : ∀ x ∈ xs, Storable F x) (h : EvE c F e σ fun v => ∃ pvs, v = .tuple pvs ∧ pvs.length = xs.length ∧ P .next (putAll σ xs pvs))
    (hsw : ∀ env, swapsWithSole [.Tuple es n tp] e pos.line env = pure false) (hw : ∀ env : Env, env.scope = F.scope → swappedStores [.Tuple es n tp] e env = pure none) : ExS c F (.Assign [.Tuple es n tp] e pos) σ P := by
  intro W env h0 A s Q E I ao k
  refine PyProof.Rows.Assign_Tuple (h I ao fun v vv W1 s1 h1 p1 R1 => ?_) (hsw env) (hw env I.scope)
  obtain ⟨pvs, rfl, hl, hP⟩ := h1
  exact AsS.tuple (P := fun σ' => P .next σ') hx hs hl hP (I.post p1) ao R1 fun σ' W2 s2 h2 I2 p2 _ => k _ _ _ _ _ h2 I2 .next ((p1.sp I.size).trans p2)
end
end

section
noncomputable def defRec? (p : Program) (x : Str) : Option FnRec :=
  match p.main.body.find? (fun st => match st with | .FunctionDef n .. => n == x | _ => false) with
  | some (.FunctionDef _ a b _ _ _ sc _ _ _) => some ⟨a, .stmts b, sc⟩
  | _ => none

noncomputable def recsP (p : Program) (mks : List (Str × Addr)) (x : Str) : Option (FnRec × Option Addr) := (defRec? p x).map fun r => (r, mks.lookup x)

theorem ofString_eq (s : String) : Str.ofString s = ⟨(s.toList.map Char.toNat).toArray⟩ := by unfold Str.ofString; rw [cpsOfBytes_string]
theorem charNat_inj {a b : Char} (h : a.toNat = b.toNat) : a = b := by
  apply Char.ext; apply UInt32.toNat_inj.mp; exact h
theorem ofString_inj {a b : String} : Str.ofString a = Str.ofString b ↔ a = b := by
  constructor
  · intro h
    rw [ofString_eq, ofString_eq] at h
    have h1 : a.toList.map Char.toNat = b.toList.map Char.toNat := by
      have := congrArg (fun x => x.cps.toList) h; simpa using this
    have h2 : a.toList = b.toList := by
      have key : ∀ (l m : List Char), l.map Char.toNat = m.map Char.toNat → l = m := by
        intro l
        induction l with
        | nil => intro m h; cases m with | nil => rfl | cons _ _ => simp at h
        | cons x l ih => intro m h; cases m with
          | nil => simp at h
          | cons y m => simp only [List.map_cons, List.cons.injEq] at h; rw [charNat_inj h.1, ih m h.2]
      exact key _ _ h1
    exact String.toList_inj.mp h2
  · intro h; rw [h]
noncomputable def storB (sc : Scope) (x : Str) : Bool := match sc.names.lookup x with
  | some .local | some .cell => true
  | _ => false
theorem stor_of {sc : Scope} {x : Str} {n mk} (h : storB sc x = true) : Storable ⟨sc, n, true, mk⟩ x := by
  unfold storB at h
  split at h
  · rename_i e; exact .inl e
  · rename_i e; exact .inr ⟨rfl, e⟩
  · cases h

theorem CallS.globP {c : GCtx} {p : Program} {mks : List (Str × Addr)} {f : Str} {r : FnRec} {mk : Option Addr} {ps : List Arg} {n : Nat} {args : List PV} {P : PV → Prop} (ok : GOk c) (hrec : c.recs = recsP p mks) (e : defRec? p f = some r) (hm : mks.lookup f = mk)
    (hp : r.params = ⟨[], ps, none, [], [], none, []⟩) (hl : args.length = ps.length)
    (hS : (decide (r.scope.kind = .function) && decide (r.scope.names.map (·.1)).Nodup && !r.scope.isCoroutine && !r.scope.isGenerator && decide (ps.map (·.arg)).Nodup && (ps.map (·.arg)).all (storB r.scope)) = true)
    (h : match r.body with
      | .stmts body => ExSs c ⟨r.scope, n, true, mk.isSome⟩ body (bindσ [] ((ps.map (·.arg)).zip args)) fun f _ => match f with | .ret v => P v | .next => P .none | _ => False
      | .expr e => EvE c ⟨r.scope, n, true, mk.isSome⟩ e (bindσ [] ((ps.map (·.arg)).zip args)) P) : CallS c (n + 1) (.glob f) args P := by
  simp only [Bool.and_eq_true, decide_eq_true_eq, Bool.not_eq_true', List.all_eq_true] at hS
  refine CallS.glob ok (by rw [hrec]; unfold recsP; rw [e]; simp only [Option.map_some, hm]) hp hS.1.2 hl ⟨hS.1.1.1.1.1, hS.1.1.1.1.2, (fun x hx => nomatch hx), hS.1.1.1.2, hS.1.1.2⟩ (fun x hx => stor_of (hS.2 x hx)) h
end

section
section
variable {c : GCtx} {F : FSt} {σ : Store}

theorem ExS.whileI {t body pos} {P : PFlow → Store → Prop} (J : Nat → Store → Prop) (n : Nat) (h : J n σ)
    (turn : ∀ n σ, J n σ → EvT c F t σ fun b => if b then ExSs c F body σ fun f σ' => match f with
      | .next | .cont => ∃ m, m < n ∧ J m σ'
      | .brk => P .next σ'
      | .ret v => P (.ret v) σ'
    else P .next σ) : ExS c F (.While t body [] pos) σ P := by
  intro W env h0 A s Q E I ao k
  refine wpAny_While ?_
  refine codeAny_whileLoop (fun n s' => ∃ σ' W', J n σ' ∧ FrInv c W' F env h0 σ' s'.heap ∧ SPost W h0 s W' s') (fun n s1 ⟨σ1, W1, h1, I1, p1⟩ => ?_) n ⟨σ, W, h, I, .refl _ _ _⟩
  refine turn n σ1 h1 I1 ao fun b W2 s2 h2 p2 => ?_
  cases b with
  | true =>
    simp only [if_true] at h2 ⊢
    refine h2 (I1.post p2) ao fun f σ' fl W3 s3 h3 I3 R3 p3 => ?_
    have pp := (p1.trans (p2.sp I1.size)).trans p3
    cases R3 with
    | next => obtain ⟨m, hm, hJ⟩ := h3; exact ⟨m, hm, σ', W3, hJ, I3, pp⟩
    | cont => obtain ⟨m, hm, hJ⟩ := h3; exact ⟨m, hm, σ', W3, hJ, I3, pp⟩
    | brk => exact k _ _ _ _ _ h3 I3 .next pp
    | ret v pv r => exact k _ _ _ _ _ h3 I3 (.ret v pv r) pp
  | false =>
    simp only [Bool.false_eq_true, if_false] at h2 ⊢
    exact wpAny_execs_nil (k _ _ _ _ _ h2 (I1.post p2) .next (p1.trans (p2.sp I1.size)))

theorem ExS.mono {st} {P P' : PFlow → Store → Prop} (h : ExS c F st σ P) (hp : ∀ f σ', P f σ' → P' f σ') : ExS c F st σ P' := by
  intro W env h0 A s Q E I ao kk
  exact h I ao fun f σ' fl W' s' p => kk f σ' fl W' s' (hp _ _ p)
theorem ExSs.cut {st rest} {P : PFlow → Store → Prop} (R : Store → Prop) (h1 : ExS c F st σ fun f σ' => f = .next ∧ R σ') (h2 : ∀ σ', R σ' → ExSs c F rest σ' P) : ExSs c F (st :: rest) σ P :=
  ExSs.cons (h1.mono fun f σ' h => by obtain ⟨rfl, hR⟩ := h; exact h2 σ' hR)
theorem ExSs.cutR {st rest} {P : PFlow → Store → Prop} (R : Store → Prop) (h1 : ExS c F st σ fun f σ' => (f = .next ∧ R σ') ∨ ∃ v, f = .ret v ∧ P (.ret v) σ') (h2 : ∀ σ', R σ' → ExSs c F rest σ' P) : ExSs c F (st :: rest) σ P :=
  ExSs.cons (h1.mono fun f σ' h => by
    rcases h with ⟨rfl, hR⟩ | ⟨v, rfl, hv⟩
    · exact h2 σ' hR
    · exact hv)

noncomputable abbrev TurnS (c : GCtx) (F : FSt) (t : Expr) (body : List Stmt) (x : PV) (σ : Store) (P : PFlow → Store → Prop) (J : Store → Prop) : Prop :=
  AsS c F t x σ fun σ1 => ExSs c F body σ1 fun f σ2 => match f with
    | .next | .cont => J σ2
    | .brk => P .next σ2
    | .ret v => P (.ret v) σ2

theorem AsS.mono {t x} {P P' : Store → Prop} (h : AsS c F t x σ P) (hp : ∀ σ', P σ' → P' σ') : AsS c F t x σ P' := by
  intro W env h0 A s v Q E I ao R k
  exact h I ao R fun σ' W' s' q => k σ' W' s' (hp _ q)

theorem ForS.inv {t body} {P : PFlow → Store → Prop} (J : List PV → Store → Prop) (fin : ∀ σ', J [] σ' → P .next σ') (turn : ∀ x xs σ', J (x :: xs) σ' → TurnS c F t body x σ' P (J xs)) :
    ∀ (items : List PV) (σ : Store), J items σ → ForS c F t body P items σ
  | [], σ, h => fin σ h
  | x :: xs, σ, h => (turn x xs σ h).mono fun σ1 h1 => h1.mono fun f σ2 h2 => by
    cases f with
    | next => exact ForS.inv J fin turn xs σ2 h2
    | cont => exact ForS.inv J fin turn xs σ2 h2
    | brk => exact h2
    | ret v => exact h2

theorem rangeSize_1 (n : Nat) : Builtin.Range.rangeSize 0 n 1 = n := by
  rw [PyProof.Rows.rangeSize_nat]; simp
theorem rangeL_1 (n : Nat) : rangeL 0 n 1 = (List.range n).map fun (i : Nat) => .int i := by
  unfold rangeL; rw [rangeSize_1]; simp
theorem range_small (a : Int) (n : Nat) (ha : -1000000 ≤ a ∧ a ≤ 1000000) (hn : n ≤ 1000000) : Builtin.Range.small a n 1 = true := by
  unfold Builtin.Range.small Builtin.Range.rangeFitsLong
  rw [PyProof.Rows.rangeSize_nat]
  simp only [Bool.and_eq_true, Bool.or_eq_true, decide_eq_true_eq]
  refine ⟨⟨⟨⟨?_, ?_⟩, ?_⟩, ?_⟩, Or.inr ?_⟩ <;> (try rw [if_pos (by (first | lia | omega))]) <;> (try simp only [Bool.and_eq_true, decide_eq_true_eq]) <;> (first | lia | omega)

theorem ForS.range {t body} {P : PFlow → Store → Prop} (n : Nat) (J : Nat → Store → Prop) (h0 : J 0 σ) (fin : ∀ σ', J n σ' → P .next σ') (turn : ∀ i σ', i < n → J i σ' → TurnS c F t body (.int i) σ' P (J (i + 1))) :
    ForS c F t body P (rangeL 0 n 1) σ := by
  rw [rangeL_1]
  refine ForS.inv (fun items σ' => ∃ i, i ≤ n ∧ items = ((List.range n).map fun (i : Nat) => PV.int i).drop i ∧ J i σ') ?_ ?_ _ σ ⟨0, Nat.zero_le _, by simp, h0⟩
  · rintro σ' ⟨i, hi, e, hJ⟩
    have : i = n := by
      have := congrArg List.length e
      simp at this; (first | lia | omega)
    subst this; exact fin σ' hJ
  · rintro x xs σ' ⟨i, hi, e, hJ⟩
    have hlt : i < n := by
      rcases Nat.lt_or_ge i n with q | q
      · exact q
      · rw [List.drop_eq_nil_of_le (by simpa using q)] at e; cases e
    rw [List.drop_eq_getElem_cons (by simpa using hlt)] at e
    simp only [List.getElem_map, List.getElem_range, List.cons.injEq] at e
    obtain ⟨rfl, rfl⟩ := e
    refine (turn i σ' hlt hJ).mono fun σ1 h1 => h1.mono fun f σ2 h2 => ?_
    cases f with
    | next => exact ⟨i + 1, hlt, rfl, h2⟩
    | cont => exact ⟨i + 1, hlt, rfl, h2⟩
    | brk => exact h2
    | ret v => exact h2
theorem EvP.none {P : Option Int → Prop} (h : P Option.none) : EvP c F Option.none σ P := h
theorem EvP.some {e : Expr} {P : Option Int → Prop} (h : EvE c F e σ fun pv => ∃ r, pv.part = Option.some r ∧ P r) : EvP c F (Option.some e) σ P := h
theorem EvP.orNone {x xp k kp pos z} {P : Option Int → Prop} (hx : σ.lookup x = Option.some (.val (.int z))) (h : P (if decide (z ≠ 0) = true then Option.some z else Option.none)) (hd : (x == ("__debug__" : Str)) = false := by decide) :
    EvP c F (Option.some (.BoolOp .Or [.Name x xp, .Constant .none k kp] pos)) σ P := by
  refine EvE.or2 (EvE.name hx (TruS.int ?_) hd)
  by_cases hz : decide (z ≠ 0) = true
  · rw [if_pos hz]; rw [if_pos hz] at h; exact ⟨_, rfl, h⟩
  · rw [if_neg hz]; rw [if_neg hz] at h; exact EvE.none ⟨_, rfl, h⟩
theorem partI {i : Int} {P : Option Int → Prop} (h : P (some i)) : ∃ r, (PV.int i).part = some r ∧ P r := ⟨_, rfl, h⟩
theorem SlcP.str {s l u} {P : PV → Prop} (h : P (.str (slc l u s))) : SlcP (.str s) l u P := h
theorem SlcP.list {s l u} {P : PV → Prop} (h : P (.list (slc l u s))) : SlcP (.list s) l u P := h
theorem SlcXP.list {s l u st} {P : PV → Prop} (h : P (.list (slcX l u st s))) : SlcXP (.list s) l u st P := h
theorem IterP.list {s} {P : List PV → Prop} (h : P s) : IterP (.list s) P := h
theorem IterP.range {a b k} {P : List PV → Prop} (hs : Builtin.Range.small a b k = true) (h : P (rangeL a b k)) : IterP (.range a b k) P := ⟨hs, h⟩
theorem EvL.nil {P : List PV → Prop} (h : P []) : EvL c F [] σ P := h
theorem EvL.cons {e es} {P : List PV → Prop} (h : EvE c F e σ fun pv => EvL c F es σ fun pvs => P (pv :: pvs)) : EvL c F (e :: es) σ P := h
theorem EvAll.and {x r} {P : Bool → Prop} (h : EvT c F x σ fun b => if b then EvAll c F .And r σ P else P false) : EvAll c F .And (x :: r) σ P := by
  refine EvT.mono h fun b hb => ?_
  cases b <;> exact hb
theorem EvAll.or {x r} {P : Bool → Prop} (h : EvT c F x σ fun b => if b then P true else EvAll c F .Or r σ P) : EvAll c F .Or (x :: r) σ P := by
  refine EvT.mono h fun b hb => ?_
  cases b <;> exact hb
theorem EvAll.nilA {P : Bool → Prop} (h : P true) : EvAll c F .And [] σ P := h
theorem EvAll.nilO {P : Bool → Prop} (h : P false) : EvAll c F .Or [] σ P := h
end
end

section
noncomputable def IfsS (c : GCtx) (F : FSt) : List Expr → Store → (Bool → Prop) → Prop
  | [], _, P => P true
  | t :: ts, σ, P => EvT c F t σ fun b => if b then IfsS c F ts σ P else P false
noncomputable def CompI (c : GCtx) (F : FSt) (body : Store → List PV → (List PV → Prop) → Prop) (n : Str) (ifs : List Expr) (σ : Store) : List PV → List PV → (List PV → Prop) → Prop
  | [], acc, K => K acc
  | x :: xs, acc, K => IfsS c F ifs (σ.put n (.val x)) fun b => if b then body (σ.put n (.val x)) acc fun acc2 => CompI c F body n ifs σ xs acc2 K else CompI c F body n ifs σ xs acc K
noncomputable def tgt : Expr → Str
  | .Name x _ => x
  | _ => ""
noncomputable def CompG (c : GCtx) (F : FSt) (elt : Expr) : List Comprehension → Store → List PV → (List PV → Prop) → Prop
  | [], σ, acc, K => EvE c F elt σ fun v => (acc ++ [v]).length ≤ big ∧ K (acc ++ [v])
  | g :: gs, σ, acc, K => EvE c F g.iter σ fun o => IterP o fun items => CompI c F (CompG c F elt gs) (tgt g.target) g.ifs σ items acc K

noncomputable def GensOk (F : FSt) : List Comprehension → Store → Prop
  | [], _ => True
  | g :: gs, σ => g.is_async = 0 ∧ (∃ x p, g.target = .Name x p ∧ F.scope.names.lookup x = some .local ∧ σ.lookup x = none ∧ ∀ v, GensOk F gs (σ.put x (.val v))) ∧ ∀ env v, foldedSetIterable g.iter env v = pure v

noncomputable def NoOwn (σ : Store) : Prop := ∀ x l, σ.lookup x ≠ some (.own l)
theorem NoOwn.put {σ : Store} (h : NoOwn σ) (x : Str) (v : PV) : NoOwn (σ.put x (.val v)) := fun y l e => by
  rw [Store.lookup_put] at e
  split at e
  · cases e
  · exact h y l e

section
variable {c : GCtx}

structure AccAt (c : GCtx) (W : Wd) (h0 h : Heap) (a : Addr) (l : List PV) : Prop where
  ge : h0.objs.size ≤ a
  H : W.H a = none
  le : l.length ≤ big
  at_ : ∃ vs, OwnL h a vs ∧ RepL c W vs l
theorem AccAt.step {W h0 h a l W' h'} (B : AccAt c W h0 h a l) (st : Step W h W' h') : AccAt c W' h0 h' a l := by
  obtain ⟨vs, h1, h2⟩ := B.at_
  exact ⟨B.ge, (st.low _ h1.lt).trans B.H, B.le, vs, h1.ext st.ext, h2.mono st.le⟩

theorem FrInv.sub {W F env h0 σ σ' h} (I : FrInv c W F env h0 σ' h) (hs : ∀ x sl, σ.lookup x = some sl → σ'.lookup x = some sl) : FrInv c W F env h0 σ h := by
  obtain ⟨m, adr, h1, h2, h3⟩ := I.slots
  exact ⟨I.inv, I.ext, I.size, I.g0, I.kind, I.scope, I.glob, I.blt, I.code, I.sld, I.loc, I.locH, I.cells, I.apart, m, adr, h1, fun x sl e => h2 x sl (hs x sl e), fun x y lx ly ex ey => h3 x y lx ly (hs _ _ ex) (hs _ _ ey)⟩
theorem FrInv.unput {W F env h0 σ x sl h} (I : FrInv c W F env h0 (Store.put σ x sl) h) (hx : σ.lookup x = none) : FrInv c W F env h0 σ h :=
  I.sub fun y s e => by
    rw [Store.lookup_put, if_neg (fun q => by subst q; rw [hx] at e; cases e)]; exact e

theorem FrInv.other {W F env h0 σ h h' a vs} (I : FrInv c W F env h0 σ h) (hN : NoOwn σ) (hs : Heap.SameBut a h h') (ha : h0.objs.size ≤ a) (hH : W.H a = none) (hL : OwnL h a vs) : FrInv c W F env h0 σ h' := by
  obtain ⟨o, ho, hc, n, hd⟩ := hL.isList
  have ne : ∀ {b o'}, h.get? b = some o' → (∀ vs k, o'.data ≠ .seq vs k) → b ≠ a := fun {b o'} e hn q => by subst q; rw [ho] at e; cases e; exact hn _ _ hd
  have cellE : ∀ {cl v}, h.IsCell cl v → h'.IsCell cl v := fun {cl v} C => by
    obtain ⟨oc, q, hdc⟩ := id C
    exact C.sameBut hs (ne q (fun vs k r => by rw [hdc] at r; cases r))
  obtain ⟨m, adr, S⟩ := I.slots
  have varE : ∀ {y v}, VarIs F env h0 h m y v → VarIs F env h0 h' m y v := fun {y v} V => by
    cases V with
    | loc h1 h2 => exact .loc h1 h2
    | own h2 cl h3 h4 => exact .own h2 cl h3 (cellE h4)
    | old h1 h2 cl h3 h4 => exact .old h1 h2 cl h3 h4
  have hLne : env.locals ≠ a := by obtain ⟨oL, es, ep, q, hdL, _⟩ := S.1; exact ne q (fun vs k r => by rw [hdL] at r; cases r)
  refine ⟨I.inv.upd hs hH (g_none I ha) ⟨o, ho, fun vs q => by rw [hd] at q; cases q⟩, I.ext.same hs ha, by rw [hs.1]; exact I.size, I.g0, I.kind, I.scope, I.glob, I.blt, I.code, I.sld, I.loc, I.locH, fun hw y hy => ?_, I.apart, m, adr, S.1.sameBut hs hLne, fun y sl e => ?_, fun y z ly lz ey ez hyz => absurd ey (hN _ _)⟩
  · obtain ⟨cl, k1, k2, k3, v, k4⟩ := I.cells hw y hy
    exact ⟨cl, k1, k2, k3, v, cellE k4⟩
  · have := S.2.1 y _ e
    cases sl with
    | val pv => obtain ⟨v, k1, k2⟩ := this; exact ⟨v, varE k1, k2⟩
    | own l2 => exact absurd e (hN _ _)
    | view l2 => obtain ⟨k0, a, vs2, k1, k2, k3⟩ := this; exact ⟨k0, a, vs2, varE k1, k2, k3⟩

theorem iter_self {W A it rest} {s : Shared} {Q E : Value → Shared → Prop} (T : ItAt c W s.heap it rest) (ao : AOk 0 A) (h : Q (.ref it) s) : wpAny c.M A (pyIter (.ref it)) Q E s := by
  cases T with
  | list l o n vs xs i h1 h2 h3 h4 h5 =>
    exact wpAny_pyIter_listiter h1 h
  | str x t i h1 =>
    exact (Walks.strAscii (A := A) ao.2.2 it (mkS c.κ x) t).self i s Q E h1 h
  | range x left step h1 => exact wpAny_pyIter_rangeiter h1 h

theorem ifs_run {F env h0 A σ} : ∀ {ifs : List Expr} {P : Bool → Prop} {s : Shared} {W : Wd} {Q : Bool → Shared → Prop} {E : Value → Shared → Prop}, IfsS c F ifs σ P → FrInv c W F env h0 σ s.heap → AOk F.n A → (∀ b W' s', P b → Post c W s W' s' → Q b s') →
    wpAny c.M A (forIn ifs true fun t r => if r = true then (isTrue t env (eval t env) >>= fun ok => pure (ForInStep.yield ok)) else pure (ForInStep.yield r)) Q E s
  | [], P, s, W, Q, E, h, I, ao, k => by rw [List.forIn_nil]; exact wpAny_pure (k _ _ _ h (.refl I.inv))
  | t :: ts, P, s, W, Q, E, h, I, ao, k => by
    rw [List.forIn_cons]
    simp only [if_true]
    refine wpAny_bind (wpAny_bind (h I ao fun b W1 s1 h1 p1 => wpAny_pure ?_))
    cases b with
    | true => exact ifs_run h1 (I.post p1) ao fun b W' s' hb p' => k _ _ _ hb (p1.trans p')
    | false =>
      have : ∀ (l : List Expr), (forIn l false fun t r => if r = true then (isTrue t env (eval t env) >>= fun ok => pure (ForInStep.yield ok)) else pure (ForInStep.yield r) : Sem Bool) = pure false := by
        intro l; induction l with
        | nil => rfl
        | cons x l ih => rw [List.forIn_cons]; simp only [Bool.false_eq_true, if_false, pure_bind]; exact ih
      show wpAny _ _ (forIn ts false _) Q E s1
      rw [this]
      exact wpAny_pure (k _ _ _ h1 p1)

noncomputable def compBody (elt : Expr) (gens : List Comprehension) (scope : Scope) (pos : Pos) (d : Nat) (acc : Value) (env : Env) : Sem Unit :=
  match gens[d]? with
  | some g' => eval g'.iter env >>= fun x => standAt g'.iter.pos >>= fun _ => (if (g'.is_async != 0) = true then foldedIterable g'.iter x else foldedSetIterable g'.iter env x) >>= fun x =>
      holding [x] (if (g'.is_async != 0) = true then asyncIter x else pyIter x) >>= fun i => runOwn (.compStart (.ListComp elt gens scope pos) d i acc env) env >>= fun _ => pure ()
  | none => eval elt env >>= fun x => call (.builtin "list.append") [acc, x] >>= fun _ => pure ()

theorem compTurn_gens {elt : Expr} {gens : List Comprehension} {scope : Scope} {pos : Pos} {d : Nat} {it acc : Value} {env : Env} {g : Comprehension} (hg : gens[d]? = some g) (ha : g.is_async = 0) (hn : ∀ g', gens[d + 1]? = some g' → g'.is_async = 0) :
    compTurn (.ListComp elt gens scope pos) d it acc env = (standAt g.iter.pos >>= fun _ => pyNext it >>= fun r => match r with
      | none => pure (.done .next)
      | some v => letOwnedTupleGo g.target it v >>= fun _ => assign g.target env v >>= fun _ =>
        forIn g.ifs true (fun t r => if r = true then (isTrue t env (eval t env) >>= fun ok => pure (ForInStep.yield ok)) else pure (ForInStep.yield r)) >>= fun ok =>
          if ok = true then compBody elt gens scope pos (d + 1) acc env >>= fun _ => again (.compLoop (.ListComp elt gens scope pos) d it acc env)
          else again (.compLoop (.ListComp elt gens scope pos) d it acc env)) := by
  unfold compTurn
  dsimp only
  rw [hg]
  dsimp only
  rw [ha]
  simp only [compBody]
  cases h : gens[d + 1]? with
  | none => rfl
  | some g' =>
    have h' := hn g' h
    simp only [h', bne_self_eq_false, Bool.false_eq_true, if_false, bind_assoc, pure_bind]
    rfl

structure SPostX (W : Wd) (h0 : Heap) (s : Shared) (it : Addr) (W' : Wd) (s' : Shared) : Prop where
  le : W.le W'
  low : ∀ a, a < h0.objs.size → W'.H a = W.H a
  os : s'.os = s.os
  gens : s'.gens = s.gens
  keep : ∀ b o vs, b ≠ it → s.heap.get? b = some o → o.data = .fields vs → o.cls ≠ .none → s'.heap.get? b = some o
  nof : ∀ b o vs, b ≠ it → s.heap.get? b = some o → o.data = .fields vs → o.cls ≠ .none → W'.H b = W.H b

theorem SPostX.trans {W h0 s it W' s' W'' s''} (x : SPostX W h0 s it W' s') (y : SPost W' h0 s' W'' s'') : SPostX W h0 s it W'' s'' := 
  ⟨x.le.trans y.le, fun a ha => (y.low a ha).trans (x.low a ha), y.os.trans x.os, y.gens.trans x.gens, fun b o vs hb e d n => y.keep b o vs (x.keep b o vs hb e d n) d n, fun b o vs hb e d n => (y.nof b o vs (x.keep b o vs hb e d n) d n).trans (x.nof b o vs hb e d n)⟩
noncomputable def BodyOk (c : GCtx) (F : FSt) (A : Around) (env : Env) (h0 : Heap) (acc : Addr) (J : Store → List PV → (List PV → Prop) → Prop) (m : Sem Unit) (σ : Store) : Prop :=
  ∀ ⦃l K W s⦄ ⦃Q : Unit → Shared → Prop⦄ ⦃E : Value → Shared → Prop⦄, J σ l K → FrInv c W F env h0 σ s.heap → AccAt c W h0 s.heap acc l →
    (∀ l' W' s', K l' → FrInv c W' F env h0 σ s'.heap → AccAt c W' h0 s'.heap acc l' → SPost W h0 s W' s' → Q () s') → wpAny c.M A m Q E s

theorem comp_level {F elt gens scope pos A env h0 acc d g gs σ} (hg : gens[d]? = some g) (hn : ∀ g', gens[d + 1]? = some g' → g'.is_async = 0) (G : GensOk F (g :: gs) σ) (ao : AOk F.n A)
    (hb : ∀ v, BodyOk c F A env h0 acc (CompG c F elt gs) (compBody elt gens scope pos (d + 1) (.ref acc) env) (σ.put (tgt g.target) (.val v)))
    {items l K W it} {s : Shared} {R : Result → Shared → Prop} (h : CompI c F (CompG c F elt gs) (tgt g.target) g.ifs σ items l K) (I : FrInv c W F env h0 σ s.heap) (B : AccAt c W h0 s.heap acc l)
    (T : ItAt c W s.heap it items) (hit : h0.objs.size ≤ it) (hH : W.H it = none)
    (k : ∀ l' W' s', K l' → FrInv c W' F env h0 σ s'.heap → AccAt c W' h0 s'.heap acc l' → SPostX W h0 s it W' s' → R (.ok .next) s') :
    codeAny c.M A (.compStart (.ListComp elt gens scope pos) d (.ref it) (.ref acc) env) R s := by
  obtain ⟨ha, ⟨x, p, hx, hk, hxσ, _⟩, _⟩ := G
  have loop : codeAny c.M A (.compLoop (.ListComp elt gens scope pos) d (.ref it) (.ref acc) env) R s := by
    refine codeAny_loop rfl (fun n s' => ∃ rest l' W', rest.length = n ∧ CompI c F (CompG c F elt gs) (tgt g.target) g.ifs σ rest l' K ∧ FrInv c W' F env h0 σ s'.heap ∧ AccAt c W' h0 s'.heap acc l' ∧ SPostX W h0 s it W' s' ∧ ItAt c W' s'.heap it rest ∧ W'.H it = none)
      (fun n s3 ⟨rest, l3, W3, hlen, h3, I3, B3, p3, T3, hH3⟩ => ?_) items.length ⟨items, l, W, rfl, h, I, B, ⟨.refl W, fun _ _ => rfl, rfl, rfl, fun _ _ _ _ e _ _ => e, fun _ _ _ _ _ _ _ => rfl⟩, T, hH⟩
    show wpAny _ _ ((compTurn (.ListComp elt gens scope pos) d (.ref it) (.ref acc) env).onRaise (fun x => do noteFrame x env; theTreesLotGoes x)) _ _ s3
    refine wpAny_noted ?_
    rw [compTurn_gens hg ha hn]
    refine wpAny_bind (wpAny_standAt (wpAny_bind ?_))
    obtain ⟨oi, vi, e1, e2, e3, e4, _⟩ := T3.obj
    have As : Aside c W3 s3.heap it := ⟨⟨oi, vi, e1, e2, e3, e4⟩, hH3, g_none I3 hit⟩
    refine T3.next I3.inv ao.zero fun r s4 he4 hs4 hos4 hg4 hr => ?_
    have I4 := I3.aside As he4 hs4 hit
    have hai : acc ≠ it := fun q => by
      obtain ⟨vs, ⟨n, sl, e⟩, _⟩ := B3.at_
      rw [q, e1] at e; cases e; cases e2
    have B4 : AccAt c W3 h0 s4.heap acc l3 := by
      obtain ⟨vs, ⟨n, sl, e⟩, r⟩ := B3.at_
      exact ⟨B3.ge, B3.H, B3.le, vs, ⟨n, sl, he4 _ _ hai e⟩, r⟩
    have sp4 : SPostX W h0 s it W3 s4 := ⟨p3.le, p3.low, hos4.trans p3.os, hg4.trans p3.gens, fun b o vs hb q d n => he4 b o hb (p3.keep b o vs hb q d n), p3.nof⟩
    cases rest with
    | nil =>
      cases hr
      exact wpAny_pure (k _ _ _ h3 I4 B4 sp4)
    | cons y ys =>
      obtain ⟨v, rfl, Rv, T4⟩ := hr
      dsimp only
      refine wpAny_bind (ownedGo T4 (wpAny_bind ?_))
      rw [hx] at h3 ⊢
      show wpAny _ _ (standAt p >>= fun _ => bindName env x v) _ _ s4
      refine wpAny_bind (wpAny_standAt (wpAny_bindName (store_val I4 (.inl hk) Rv fun s5 I5 p5 kp5 => ?_)))
      have T5 : ItAt c W3 s5.heap it ys := T4.keep p5.le fun o vs q d n => p5.keep it o vs q d n
      have hH5 : W3.H it = none := by
        obtain ⟨oi', vi', g1, g2, g3, g4, _⟩ := T4.obj
        exact (p5.nof it oi' vi' g1 g2 g3).trans hH3
      have B5 : AccAt c W3 h0 s5.heap acc l3 := by
        obtain ⟨vs, ⟨n, sl, e⟩, r⟩ := B4.at_
        have hL : acc ≠ env.locals := fun q => by
          obtain ⟨m, adr, ⟨oL, es, ep, q', hdL, _⟩, _⟩ := I4.slots
          rw [← q, e] at q'; cases q'; cases hdL
        have e5 := kp5 acc _ e hL (fun _ v q => by cases q) (fun ps q => by cases q)
        exact ⟨B4.ge, B4.H, B4.le, vs, ⟨n, sl, e5⟩, r⟩
      refine wpAny_bind (ifs_run h3 I5 ao fun b W6 s6 h6 p6 => ?_)
      have T6 : ItAt c W6 s6.heap it ys := T5.keep p6.step.le fun o vs q d n => p6.step.ext it o q (fun ps e => by subst e; exact n rfl)
      have hH6 : W6.H it = none := by
        obtain ⟨oi', vi', g1, g2, g3, g4, _⟩ := T5.obj
        exact (p6.step.low it (Heap.lt_size g1)).trans hH5
      have sp6 : SPostX W h0 s it W6 s6 := sp4.trans (p5.trans (p6.sp I5.size))
      have B6 := B5.step p6.step
      cases b with
      | false =>
        simp only [Bool.false_eq_true, if_false] at h6 ⊢
        exact wpAny_pure ⟨rfl, ys.length, by simp at hlen; (first | lia | omega), ys, l3, W6, rfl, h6, (I5.post p6).unput hxσ, B6, sp6, T6, hH6⟩
      | true =>
        simp only [if_true] at h6 ⊢
        refine wpAny_bind ((show BodyOk c F A env h0 acc (CompG c F elt gs) (compBody elt gens scope pos (d + 1) (.ref acc) env) (σ.put x (.val y)) by have := hb y; rw [hx] at this; exact this) h6 (I5.post p6) B6 fun l7 W7 s7 h7 I7 B7 p7 => ?_)
        refine wpAny_pure ⟨rfl, ys.length, by simp at hlen; (first | lia | omega), ys, l7, W7, rfl, h7, I7.unput hxσ, B7, sp6.trans p7, T6.keep p7.le fun o vs q d n => p7.keep it o vs q d n, ?_⟩
        obtain ⟨oi', vi', g1, g2, g3, g4, _⟩ := T6.obj
        exact (p7.nof it oi' vi' g1 g2 g3).trans hH6
  refine codeAny_of_tree ?_
  show wpAny _ _ ((compStart (.ListComp elt gens scope pos) d (.ref it) (.ref acc) env).onRaise (fun x => do noteFrame x env; standAt theWindowsPlace)) _ _ s
  refine wpAny_notedAt ?_
  unfold compStart
  have hc : clausesOf (.ListComp elt gens scope pos) = gens := rfl
  rw [hc, hg]
  simp only [Option.elim, ha, bne_self_eq_false, Bool.false_eq_true, if_false]
  refine wpAny_bind (wpAny_askSetting (wpAny_ite ?_))
  split
  · first
      | exact wpAny_bind (wpAny_pure (wpAny_pure (And.intro rfl loop)))
      | exact wpAny_pure (And.intro rfl loop)
  · refine wpAny_bind (wpAny_rule ?_)
    refine wpAny_bind (wpAny_standAt (wpAny_bind (iter_self T ao.zero (wpAny_pure (And.intro rfl loop)))))

theorem drop_cons {α : Type} {l : List α} {d : Nat} {g : α} {gs : List α} (h : l.drop d = g :: gs) : l[d]? = some g ∧ l.drop (d + 1) = gs := by
  constructor
  · have := List.getElem?_drop (xs := l) (i := d) (j := 0)
    rw [h] at this; simpa using this.symm
  · have := List.drop_drop (l := l) (i := 1) (j := d)
    rw [h] at this; simpa using this.symm
theorem GensOk.head {F gs σ g'} {gens : List Comprehension} {d : Nat} (G : GensOk F gs σ) (hd : gens.drop d = gs) (h : gens[d]? = some g') : g'.is_async = 0 := by
  cases gs with
  | nil => rw [List.getElem?_eq_none_iff.mpr (List.drop_eq_nil_iff.mp hd)] at h; cases h
  | cons g gs => rw [(drop_cons hd).1] at h; cases h; exact G.1

theorem comp_body {F elt gens scope pos A env h0 acc} (ok : GOk c) (ao : AOk F.n A) : ∀ gs d σ, gens.drop d = gs → GensOk F gs σ → NoOwn σ → BodyOk c F A env h0 acc (CompG c F elt gs) (compBody elt gens scope pos d (.ref acc) env) σ
  | [], d, σ, hd, G, hN => by
    intro l K W s Q E h I B k
    have hg : gens[d]? = none := List.getElem?_eq_none_iff.mpr (List.drop_eq_nil_iff.mp hd)
    unfold compBody
    rw [hg]
    refine wpAny_bind (h I ao fun v vv W1 s1 h1 p1 R1 => wpAny_bind ?_)
    have B1 := B.step p1.step
    obtain ⟨vs, hL, R⟩ := B1.at_
    refine append_own hL (by rw [R.length]; exact B1.le) fun h' hL' hs' => wpAny_pure ?_
    obtain ⟨o, ho, hc, n, hdd⟩ := hL.isList
    exact k _ _ _ h1.2 ((I.post p1).other hN hs' B1.ge B1.H hL) ⟨B1.ge, B1.H, h1.1, _, hL', R.append (.cons _ _ _ _ R1 .nil)⟩
      ((p1.sp I.size).trans ⟨.refl _, fun _ _ => rfl, rfl, rfl, fun b ob vs e d _ => (hs'.2 b (fun q => by subst q; rw [ho] at e; cases e; rw [hdd] at d; cases d)).trans e, fun _ _ _ _ _ _ => rfl⟩)
  | g :: gs, d, σ, hd, G, hN => by
    intro l K W s Q E h I B k
    obtain ⟨hg, hd'⟩ := drop_cons hd
    obtain ⟨ha, ⟨x, p, hx, hk, hxσ, hG⟩, hf⟩ := id G
    unfold compBody
    rw [hg]
    dsimp only
    rw [ha]
    refine wpAny_bind (h I ao fun o vo W1 s1 h1 p1 R1 => wpAny_bind (wpAny_standAt (wpAny_bind ?_)))
    refine wpAny_of_eq (hf env vo) ?_
    refine wpAny_bind (wpAny_holding ?_)
    refine iter_any ok p1.inv R1 h1 fun it items s2 h2 p2 T2 hit => ?_
    have pp := p1.trans p2
    have hsz : s.heap.objs.size ≤ it := Nat.le_trans p1.step.size hit
    refine wpAny_bind (wpAny_runOwn ?_)
    refine comp_level hg (fun g' e => (hG .none).head hd' e) G ao (fun v => ?_) h2 (I.post pp) (B.step pp.step) T2 (Nat.le_trans I.size hsz) (p1.inv.fresh hit) fun l' W' s' hK I' B' p' => wpAny_pure ?_
    · rw [hx]; exact comp_body ok ao gs (d + 1) _ hd' (hG v) (hN.put _ _)
    · have q := pp.sp (h0 := h0) I.size
      exact k _ _ _ hK I' B' ⟨q.le.trans p'.le, fun a ha => (p'.low a ha).trans (q.low a ha), p'.os.trans q.os, p'.gens.trans q.gens,
        fun b o vs e d n => p'.keep b o vs (Nat.ne_of_lt (Nat.lt_of_lt_of_le (Heap.lt_size e) hsz)) (q.keep b o vs e d n) d n,
        fun b o vs e d n => (p'.nof b o vs (Nat.ne_of_lt (Nat.lt_of_lt_of_le (Heap.lt_size e) hsz)) (q.keep b o vs e d n) d n).trans (q.nof b o vs e d n)⟩
end
end

section
noncomputable def clF (cells : List (Str × Addr)) : List (Str × NameKind) → List (Str × Addr) → List (Str × Addr)
  | [], acc => acc
  | (x, k) :: r, acc => if k == .free then clF cells r ((x, (cells.lookup x).getD 0) :: acc) else clF cells r acc
theorem closureFor_clF {scope : Scope} {env : Env} (h : ∀ x, (x, NameKind.free) ∈ scope.names → ∃ a, env.cells.lookup x = some a) : closureFor scope env = pure (clF env.cells scope.names []) := by
  unfold closureFor
  have : ∀ (names : List (Str × NameKind)) (acc : List (Str × Addr)), (∀ x, (x, NameKind.free) ∈ names → ∃ a, env.cells.lookup x = some a) →
      (forIn names acc fun (p : Str × NameKind) r => match p with | (name, kind) => if (kind == .free) = true then (cellOf env name >>= fun a => pure (ForInStep.yield ((name, a) :: r))) else pure (ForInStep.yield r) : Sem _) = pure (clF env.cells names acc) := by
    intro names
    induction names with
    | nil => intro acc _; rfl
    | cons p r ih =>
      obtain ⟨x, k⟩ := p
      intro acc hh
      rw [List.forIn_cons]
      dsimp only
      unfold clF
      by_cases hk : (k == NameKind.free) = true
      · rw [if_pos hk, if_pos hk]
        have hk' : k = .free := by simpa using hk
        subst hk'
        obtain ⟨a, ha⟩ := hh x List.mem_cons_self
        unfold cellOf
        rw [ha]
        simp only [pure_bind, Option.getD_some]
        exact ih _ fun y hy => hh y (List.mem_cons_of_mem _ hy)
      · rw [if_neg hk, if_neg hk]
        simp only [pure_bind]
        exact ih _ fun y hy => hh y (List.mem_cons_of_mem _ hy)
  have t := this scope.names [] h
  simp only [bind_pure]
  exact t
theorem clF_mem {cells : List (Str × Addr)} : ∀ {names : List (Str × NameKind)} {acc : List (Str × Addr)} {x : Str} {a : Addr}, (x, a) ∈ clF cells names acc → (x, a) ∈ acc ∨ ((x, NameKind.free) ∈ names ∧ a = (cells.lookup x).getD 0)
  | [], acc, x, a, h => .inl h
  | (y, k) :: r, acc, x, a, h => by
    unfold clF at h
    split at h
    · rename_i hk
      have hk' : k = .free := by simpa using hk
      subst hk'
      rcases clF_mem h with h | ⟨h1, h2⟩
      · rcases List.mem_cons.mp h with e | h
        · cases e; exact .inr ⟨List.mem_cons_self, rfl⟩
        · exact .inl h
      · exact .inr ⟨List.mem_cons_of_mem _ h1, h2⟩
    · rcases clF_mem h with h | ⟨h1, h2⟩
      · exact .inl h
      · exact .inr ⟨List.mem_cons_of_mem _ h1, h2⟩
theorem clF_has {cells : List (Str × Addr)} : ∀ {names : List (Str × NameKind)} {acc : List (Str × Addr)} {x : Str}, ((∃ a, (x, a) ∈ acc) ∨ (x, NameKind.free) ∈ names) → ∃ a, (x, a) ∈ clF cells names acc
  | [], acc, x, h => by rcases h with h | h; exact h; cases h
  | (y, k) :: r, acc, x, h => by
    unfold clF
    split
    · rename_i hk
      refine clF_has ?_
      rcases h with ⟨a, h⟩ | h
      · exact .inl ⟨a, List.mem_cons_of_mem _ h⟩
      · rcases List.mem_cons.mp h with e | h
        · cases e; exact .inl ⟨_, List.mem_cons_self⟩
        · exact .inr h
    · rename_i hk
      refine clF_has ?_
      rcases h with h | h
      · exact .inl h
      · rcases List.mem_cons.mp h with e | h
        · cases e; exact absurd rfl hk
        · exact .inr h
theorem clF_lookup {cells : List (Str × Addr)} {names : List (Str × NameKind)} {x : Str} {a : Addr} (h : (x, NameKind.free) ∈ names) (ha : cells.lookup x = some a) : (clF cells names []).lookup x = some a := by
  obtain ⟨b, hb⟩ := clF_has (cells := cells) (acc := []) (.inr h)
  obtain ⟨b', hb'⟩ := lookup_some_of_mem hb
  rcases clF_mem (mem_of_lookup hb') with q | ⟨_, q⟩
  · cases q
  · rw [ha] at q; simp at q; subst q; exact hb'

noncomputable def relS (scope outer : Scope) : Scope :=
  { scope with names := scope.names.map fun (n, k) => if (k == .free && outer.kind == .function && outer.names.lookup n == some .cell) then (n, .cell) else (n, k) }
theorem relabel_eq {scope : Scope} {env : Env} : relabel scope env = relS scope env.scope := rfl
noncomputable def compF (F : FSt) (scope : Scope) : FSt := ⟨relS scope F.scope, F.n, false, false⟩
noncomputable def Slot.toView : Slot → Slot
  | .own l => .view l
  | s => s
noncomputable def capS (scope : Scope) (σ : Store) : Store := σ.filterMap fun p => if scope.names.lookup p.1 = some .free then some (p.1, p.2.toView) else none
theorem capS_lookup {scope : Scope} : ∀ {σ : Store} {x : Str} {sl : Slot}, (capS scope σ).lookup x = some sl → scope.names.lookup x = some .free ∧ ∃ s0, σ.lookup x = some s0 ∧ sl = s0.toView
  | [], x, sl, h => by cases h
  | (y, s) :: r, x, sl, h => by
    unfold capS at h
    rw [List.filterMap_cons] at h
    by_cases hf : scope.names.lookup y = some .free
    · simp only [hf, if_true] at h
      rw [List.lookup_cons] at h ⊢
      by_cases hy : x = y
      · subst hy; simp at h ⊢; exact ⟨hf, h.symm⟩
      · rw [beq_eq_false_iff_ne.mpr hy] at h ⊢; exact capS_lookup h
    · simp only [if_neg hf] at h
      have := capS_lookup (σ := r) h
      refine ⟨this.1, ?_⟩
      rw [List.lookup_cons]
      by_cases hy : x = y
      · subst hy; exact absurd this.1 hf
      · rw [beq_eq_false_iff_ne.mpr hy]; exact this.2
theorem relS_free {outer : Scope} {x : Str} : ∀ {names : List (Str × NameKind)}, names.lookup x = some .free →
    (names.map fun (n, k) => if (k == NameKind.free && outer.kind == .function && outer.names.lookup n == some .cell) then (n, NameKind.cell) else (n, k)).lookup x = some .cell ∨
    (names.map fun (n, k) => if (k == NameKind.free && outer.kind == .function && outer.names.lookup n == some .cell) then (n, NameKind.cell) else (n, k)).lookup x = some .free
  | [], h => by cases h
  | (n, k) :: r, h => by
    simp only [List.map_cons]
    by_cases hx : x = n
    · subst hx
      simp at h; subst h
      split
      · left; simp
      · right; simp
    · rw [List.lookup_cons, beq_eq_false_iff_ne.mpr hx] at h
      have ih := relS_free (outer := outer) h
      split
      · simp only [List.lookup_cons, beq_eq_false_iff_ne.mpr hx]; exact ih
      · simp only [List.lookup_cons, beq_eq_false_iff_ne.mpr hx]; exact ih

structure CompOk (F : FSt) (σ : Store) (scope : Scope) : Prop where
  kind : scope.kind = .function
  nocell : ∀ x ∈ scope.names, x.2 ≠ .cell
  nodup : (scope.names.map (·.1)).Nodup
  free : ∀ x, (x, NameKind.free) ∈ scope.names → (x == ("__classdict__" : Str)) = false ∧ ((F.own = true ∧ F.scope.names.lookup x = some .cell) ∨ ((F.scope.names.lookup x = some .cell ∨ F.scope.names.lookup x = some .free) ∧ ∃ sl, σ.lookup x = some sl))

section
variable {c : GCtx} {F : FSt} {σ : Store}

theorem VarIs.cellOf {env h0 h m x v} (V : VarIs F env h0 h m x v) (hk : env.kindOf x = some .cell ∨ env.kindOf x = some .free) (e : Ext h0 h) : ∃ cl, env.cells.lookup x = some cl ∧ h.IsCell cl (some v) := by
  cases V with
  | loc h1 h2 => rw [h1] at hk; rcases hk with q | q <;> cases q
  | own h2 cl h3 h4 => exact ⟨cl, h3, h4⟩
  | old h1 h2 cl h3 h4 => exact ⟨cl, h3, isCell_ext h4 e⟩

theorem SlotOk.var {W env h0 h m adr x sl} (S : SlotOk c W F env h0 h m adr x sl) : ∃ v, VarIs F env h0 h m x v := by
  cases sl with
  | val pv => obtain ⟨v, h1, _⟩ := S; exact ⟨v, h1⟩
  | own l => exact ⟨_, S.1⟩
  | view l => obtain ⟨_, a, vs, h1, _⟩ := S; exact ⟨_, h1⟩

theorem CompOk.cells {W env h0 h scope} (C : CompOk F σ scope) (I : FrInv c W F env h0 σ h) : ∀ x, (x, NameKind.free) ∈ scope.names → ∃ a, env.cells.lookup x = some a := fun x hx => by
  have kd : env.kindOf x = F.scope.names.lookup x := by show env.scope.names.lookup x = _; rw [I.scope]
  rcases (C.free x hx).2 with ⟨ho, hk⟩ | ⟨hk, sl, hs⟩
  · obtain ⟨cl, e, _⟩ := I.cells ho x (kd.trans hk); exact ⟨cl, e⟩
  · obtain ⟨m, adr, _, hsl, _⟩ := I.slots
    obtain ⟨v, V⟩ := (hsl x sl hs).var
    obtain ⟨cl, e, _⟩ := V.cellOf (by rw [kd]; exact hk) I.ext
    exact ⟨cl, e⟩

theorem comp_frame {W env env' h0 scope h1 h'} {C : Addr} (CO : CompOk F σ scope) (I : FrInv c W F env h0 σ h1) (I' : Inv c W h') (e : Ext h1 h') (hsz : h1.objs.size ≤ h'.objs.size)
    (he : env' = { newEnv scope C env.globals (clF env.cells scope.names []) env.qual none .none (some env) builtinsNs with scope := relabel scope env })
    (hC : h1.objs.size ≤ C) (hH : W.H C = none) (hns : h'.Ns C fun _ => none) : FrInv c W (compF F scope) env' h1 (capS scope σ) h' := by
  have hsc : relabel scope env = relS scope F.scope := by rw [relabel_eq, I.scope]
  obtain ⟨m, adr, S⟩ := I.slots
  refine ⟨I', e, hsz, I.inv.size, CO.kind, by subst he; exact hsc, by subst he; exact I.glob, by subst he; exact I.blt, fun q => (by cases q), fun _ q => (by cases q), by subst he; exact hC, by subst he; exact hH, fun q => (by cases q), fun q => (by cases q), fun _ => none, adr, by subst he; exact hns, fun x sl ex => ?_, fun x y lx ly ex ey hxy => ?_⟩
  · obtain ⟨hf, s0, hs0, rfl⟩ := capS_lookup ex
    have hmem := mem_of_lookup hf
    have kd : env.kindOf x = F.scope.names.lookup x := by show env.scope.names.lookup x = _; rw [I.scope]
    have hk : env.kindOf x = some .cell ∨ env.kindOf x = some .free := by
      rw [kd]
      rcases (CO.free x hmem).2 with ⟨_, q⟩ | ⟨q, _⟩
      · exact .inl q
      · exact q
    have mk : ∀ {v}, VarIs F env h0 h1 m x v → VarIs (compF F scope) env' h1 h' (fun _ => none) x v := fun {v} V => by
      obtain ⟨cl, e1, e2⟩ := V.cellOf hk I.ext
      refine .old ?_ (CO.free x hmem).1 cl ?_ e2
      · subst he
        show (relabel scope env).names.lookup x = _ ∨ (relabel scope env).names.lookup x = _
        exact relS_free hf
      · subst he
        exact clF_lookup hmem e1
    have := S.2.1 x s0 hs0
    cases s0 with
    | val pv => obtain ⟨v, g1, g2⟩ := this; exact ⟨v, mk g1, g2⟩
    | own l => obtain ⟨g1, g2, g3, g4, vs, g5, g6⟩ := this; exact ⟨g4, _, vs, mk g1, g5.isList, g6⟩
    | view l => obtain ⟨g0, a, vs, g1, g2, g3⟩ := this; exact ⟨g0, a, vs, mk g1, isList_ext g2 I.ext, g3⟩
  · obtain ⟨hf, s0, hs0, q⟩ := capS_lookup ex
    cases s0 <;> cases q

theorem capS_noOwn {scope : Scope} : NoOwn (capS scope σ) := fun x l e => by
  obtain ⟨_, s0, _, q⟩ := capS_lookup e
  cases s0 <;> cases q

theorem comp_run {elt g gs scope pos W env h0 A} {s : Shared} {Q E : Value → Shared → Prop} {use : Option (Value → Sem Unit)} {K : List PV → Prop} {pos' : Pos} (ok : GOk c) (CO : CompOk F σ scope) (G : GensOk (compF F scope) (g :: gs) (capS scope σ))
    (h : EvE c F g.iter σ fun o => IterP o fun items => CompI c (compF F scope) (CompG c (compF F scope) elt gs) (tgt g.target) g.ifs (capS scope σ) items [] K)
    (I : FrInv c W F env h0 σ s.heap) (ao : AOk F.n A)
    (k : ∀ l acc C W' s' m, K l → Post c W s W' s' → GRep c W' s.heap.objs.size s'.heap (.ref acc) (.own l) → s'.heap.Ns C m → s.heap.objs.size ≤ C → W'.H C = none → compPost c.M A E use Q (.ref acc) C (.ok .next) s') :
    wpAny c.M A (comprehension (.ListComp elt (g :: gs) scope pos) scope env pos' (newList []) false (eval g.iter env) use) Q E s := by
  refine wpAny_comprehension_free (cl := clF env.cells scope.names []) rfl (G.2.2 env) (closureFor_clF (CO.cells I)) CO.kind (fun x hx hl => lookup_nodup CO.nodup (by obtain ⟨a, b⟩ := x; cases hl; exact hx)) ?_
  refine h I ao fun o vo W1 s1 h1 p1 R1 => ?_
  refine iter_any ok p1.inv R1 h1 fun it items s2 h2 p2 T2 hit => ?_
  refine wpAny_newObj_type ?_
  refine wpAny_newFunctionEnv CO.nocell (by intro y hy; simp at hy) (fun h' hns hsb => ?_) CO.kind
  dsimp only at hns hsb ⊢
  generalize hH2 : s2.heap.push { cls := .type "list", dict := none, data := .seq ([] : List Value).toArray } = H2 at hns hsb ⊢
  have hz2 : H2.objs.size = s2.heap.objs.size + 1 := by rw [← hH2, Heap.size_push]
  have I2 := p2.inv
  have p12 := p1.trans p2
  have IH2 : Inv c W1 H2 := hH2 ▸ I2.push _
  have hH : W1.H H2.objs.size = none := IH2.fresh (Nat.le_refl _)
  have hD : W1.H s2.heap.objs.size = none := I2.fresh (Nat.le_refl _)
  have I4 : Inv c W1 h' := (IH2.push _).upd hsb hH (Heap.get?_none_of_le IH2.size) ⟨_, Heap.get?_push_size _ rfl, fun vs q => by cases q⟩
  have keep : ∀ b o, s2.heap.get? b = some o → h'.get? b = some o := fun b o e => hsb.extBut b o (show b ≠ H2.objs.size from Nat.ne_of_lt (Nat.lt_of_lt_of_le (Heap.lt_size e) (by (first | lia | omega)))) (Heap.get?_push_of_some _ (hH2 ▸ Heap.get?_push_of_some _ e))
  have hs4 : s2.heap.objs.size ≤ h'.objs.size := by rw [hsb.1, Heap.size_push]; (first | lia | omega)
  have hacc : OwnL h' s2.heap.objs.size [] := ⟨0, #[], hsb.extBut _ _ (show s2.heap.objs.size ≠ H2.objs.size by (first | lia | omega)) (Heap.get?_push_of_some _ (hH2 ▸ Heap.get?_push_size _ rfl))⟩
  have I1 := I.post p1
  have J : FrInv c W1 (compF F scope) _ s1.heap (capS scope σ) h' := comp_frame CO I1 I4 (fun b o e n => keep b o (p2.step.ext b o e n)) (Nat.le_trans p2.step.size hs4) rfl (by have := p2.step.size; (first | lia | omega)) hH hns
  have T4 : ItAt c W1 h' it items := T2.keep (.refl _) fun o vs q _ _ => keep it o q
  have G0 := G
  refine comp_level (F := compF F scope) (h0 := s1.heap) (σ := capS scope σ) (gs := gs) rfl (fun g' e => ?_) G ao (fun v => ?_) h2 J ⟨p2.step.size, hD, Nat.zero_le _, [], hacc, .nil⟩ T4 hit (p1.inv.fresh hit) fun l' W' s' hK I' B' p' => ?_
  · obtain ⟨_, ⟨x, p, hx, hk, hxσ, hG⟩, _⟩ := G0
    exact (hG .none).head (gens := g :: gs) (d := 1) rfl e
  · obtain ⟨_, ⟨x, p, hx, hk, hxσ, hG⟩, _⟩ := G0
    rw [hx]
    exact comp_body (F := compF F scope) (gens := g :: gs) ok ao gs 1 _ rfl (hG v) (capS_noOwn.put _ _)
  · obtain ⟨m, adr, hns', _⟩ := I'.slots
    obtain ⟨vs, hL, RL⟩ := B'.at_
    refine k l' _ _ W' s' m hK ⟨I'.inv, ⟨p1.step.ext.trans I'.ext, Nat.le_trans p1.step.size I'.size, p1.step.le.trans p'.le, fun a ha => (p'.low a (Nat.lt_of_lt_of_le ha p1.step.size)).trans (p1.step.low a ha)⟩, p'.os.trans p12.os, p'.gens.trans p12.gens⟩
      ⟨B'.le, _, vs, rfl, p12.step.size, B'.H, hL, RL⟩ hns' (by have := p12.step.size; show _ ≤ H2.objs.size; (first | lia | omega)) I'.locH

theorem Post.dict {W W' C m h'} {s s' : Shared} (p : Post c W s W' s') (hn : s'.heap.Ns C m) (hC : s.heap.objs.size ≤ C) (hg : c.g.objs.size ≤ s.heap.objs.size) (hH : W'.H C = none) (hs : Heap.SameBut C s'.heap h') : Post c W s W' { s' with heap := h' } := by
  obtain ⟨o, es, ep, ho, hd, _⟩ := hn
  exact ⟨p.inv.upd hs hH (Heap.get?_none_of_le (Nat.le_trans hg hC)) ⟨o, ho, fun vs q => by rw [hd] at q; cases q⟩,
    ⟨fun b ob e n => (hs.2 b (Nat.ne_of_lt (Nat.lt_of_lt_of_le (Heap.lt_size e) hC))).trans (p.step.ext b ob e n), by rw [hs.1]; exact p.step.size, p.step.le, p.step.low⟩, p.os, p.gens⟩

theorem EvG.comp {elt g gs scope pos} {P : Slot → Prop} (ok : GOk c) (CO : CompOk F σ scope) (G : GensOk (compF F scope) (g :: gs) (capS scope σ))
    (h : EvE c F g.iter σ fun o => IterP o fun items => CompI c (compF F scope) (CompG c (compF F scope) elt gs) (tgt g.target) g.ifs (capS scope σ) items [] fun l => P (.own l)) :
    EvG c F (.ListComp elt (g :: gs) scope pos) σ P := by
  intro W env h0 A s Q E I ao k
  rw [eval_ListComp]
  have hfa : firstAsync (g :: gs) = false := by
    obtain ⟨a, b, d, e⟩ := g
    have : e = 0 := G.1
    subst this; rfl
  rw [hfa, show firstIter (g :: gs) env = eval g.iter env by obtain ⟨a, b, d, e⟩ := g; rfl]
  refine comp_run (use := none) ok CO G h I ao fun l acc C W' s' m hK p GR hn hC hH => ⟨m, hn, fun h' hs' => ?_⟩
  refine k _ _ _ _ hK (p.dict hn hC (Nat.le_trans I.g0 I.size) hH hs') ?_
  obtain ⟨g1, a, vs, g2, g3, g4, g5, g6⟩ := GR
  cases g2
  have hne : acc ≠ C := fun q => by
    subst q
    obtain ⟨o, es, ep, ho, hd, _⟩ := hn
    obtain ⟨n, sl, e⟩ := g5
    rw [e] at ho; cases ho; cases hd
  exact ⟨g1, acc, vs, rfl, g3, g4, g5.same hs' hne, g6⟩
theorem EvE.comp {elt g gs scope pos} {P : PV → Prop} (ok : GOk c) (CO : CompOk F σ scope) (G : GensOk (compF F scope) (g :: gs) (capS scope σ))
    (h : EvE c F g.iter σ fun o => IterP o fun items => CompI c (compF F scope) (CompG c (compF F scope) elt gs) (tgt g.target) g.ifs (capS scope σ) items [] fun l => P (.list l)) :
    EvE c F (.ListComp elt (g :: gs) scope pos) σ P := EvE.ofG (EvG.comp ok CO G h)
end
end

section
section
variable {c : GCtx} {F : FSt} {σ : Store}

end
end

section
theorem codeAmong_app {pos : Pos} {a b : Int} {cv c : Value} (l : List Value) (h : TriplesOk l) (e : codeAmong pos (l ++ [rawInt a, rawInt b, c]) = some cv) : codeAmong pos l = some cv ∨ cv = c := by
  fun_induction TriplesOk l with
  | case1 =>
    simp only [List.nil_append, codeAmong, rawInt] at e
    split at e
    · cases e; exact .inr rfl
    · cases e
  | case2 a' t b' u x rest ih =>
    simp only [List.cons_append, codeAmong] at e ⊢
    split at e
    · rename_i hc; rw [if_pos hc]; exact .inl e
    · rename_i hc; rw [if_neg hc]; exact ih h e
  | case3 l h1 h2 => exact h.elim

noncomputable def Wd.code (W : Wd) (cd : Addr) : Wd := ⟨W.H, fun a => W.C a ∨ a = cd⟩
theorem Wd.le_code (W : Wd) (cd : Addr) : W.le (W.code cd) := ⟨fun _ _ e => e, fun _ e => .inl e⟩

noncomputable def BmOk (c : GCtx) : Prop := ∃ bm o, c.mg "__builtins__" = some (.ref bm) ∧ bm ≠ builtinsNs ∧ c.g.get? bm = some o ∧ o.cls = .type "module" ∧ o.dict = some builtinsNs ∧ o.data = .plain

section
variable {c : GCtx} {F : FSt} {σ : Store}

theorem code_any {W A} {s : Shared} {env : Env} {cd0 : Addr} {pos : Pos} {fl : Nat} {name qual : Str} {params : Arguments} {scope : Scope} {body : FuncBody} {Q E : Value → Shared → Prop} (I : Inv c W s.heap) (hc : env.code = .ref cd0) (hC : W.C cd0)
    (k : ∀ cd W' s', Post c W s W' s' → W'.C cd → W'.H = W.H → Q (.ref cd) s') : wpAny c.M A (functionCode env pos fl name qual params scope body) Q E s := by
  obtain ⟨P, ps, C, hP, ht, hcs, hg, hH⟩ := I.code cd0 hC
  cases e : codeAmong pos ps.toList with
  | some cv =>
    obtain ⟨c', rfl, hC'⟩ := hcs pos cv e
    exact wpAny_functionCode_hit hc (C.code hP ht) e (k c' W s (.refl I) hC' rfl)
  | none =>
    refine wpAny_functionCodeX hc (C.code hP ht) (C.tab hP) e fun c' h' tk hx hge hlt _ hrec htb ⟨P', hP', hi', ht'⟩ => ?_
    have hsz : s.heap.objs.size ≤ h'.objs.size := Nat.le_trans hge (Nat.le_of_lt hlt)
    have notP : ∀ {b o}, s.heap.get? b = some o → o.cls ≠ .none → b ≠ P := fun {b o} q n r => by subst r; rw [hP] at q; cases q; exact n rfl
    have htri : TriplesOk (ps ++ #[rawInt pos.line, rawInt pos.col, .ref c']).toList := by simpa using TriplesOk_snoc pos.line pos.col (.ref c') ps.toList ht
    have ctab : ∀ p cv, codeAmong p (ps ++ #[rawInt pos.line, rawInt pos.col, .ref c']).toList = some cv → ∃ c₂, cv = .ref c₂ ∧ (W.code c').C c₂ := fun p cv q => by
      rcases codeAmong_app ps.toList ht (by simpa using q) with q | q
      · obtain ⟨c₂, r1, r2⟩ := hcs p cv q; exact ⟨c₂, r1, .inl r2⟩
      · exact ⟨c', q, .inr rfl⟩
    refine k c' (W.code c') { s with heap := h', toks := tk } ⟨⟨fun b o q => hx b o (fun r => by subst r; rw [hg] at q; cases q) (I.base b o q), Nat.le_trans I.size hsz, fun b o q => hx b o (fun r => by subst r; have q' : W.H b = some o := q; rw [hH] at q'; cases q') (I.froz b o q), fun cd hcd => ?_, fun q hq => ?_, fun x r m q => .inl (I.stat x r m q)⟩,
      ⟨fun b o q n => hx b o (fun r => by subst r; rw [hP] at q; cases q; exact n _ rfl) q, hsz, Wd.le_code W c', fun _ _ => rfl⟩, rfl, rfl⟩ (.inr rfl) rfl
    · rcases hcd with hcd | rfl
      · obtain ⟨P2, ps2, C2, hP2, ht2, hcs2, hg2, hH2⟩ := I.code cd hcd
        obtain ⟨oc, vc, file, tf, flags, tg, inF, text, tt, e1, e2, r1⟩ := id C2
        have C2' : CodeHd h' cd P2 := ⟨oc, vc, file, tf, flags, tg, inF, text, tt, hx _ _ (notP e1 (by rw [e2]; intro q; cases q)) e1, e2, r1⟩
        by_cases hPP : P2 = P
        · subst hPP
          exact ⟨P2, _, C2', htb.2, htri, ctab, hg2, hH2⟩
        · exact ⟨P2, ps2, C2', hx _ _ hPP hP2, ht2, fun p cv q => let ⟨c₂, r1, r2⟩ := hcs2 p cv q; ⟨c₂, r1, .inl r2⟩, hg2, hH2⟩
      · exact ⟨P', #[], CodeHd.of hi' ht', ht'.2, trivial, (fun p cv q => by cases q), Heap.get?_none_of_le (Nat.le_trans I.size hP'), I.fresh hP'⟩
    · obtain ⟨ps', q'⟩ := I.tab q hq
      by_cases hPP : q.2 = P
      · exact ⟨_, by rw [hPP]; exact htb.2⟩
      · exact ⟨ps', hx _ _ hPP q'⟩

theorem make_fn {W A env h0} {s : Shared} {pos : Pos} {fl : Nat} {name qual : Str} {params : Arguments} {scope : Scope} {body : FuncBody} {dv : List Value} {cl : List (Str × Addr)} {Q E : Value → Shared → Prop} (ok : GOk c) (bo : BmOk c) (I : FrInv c W F env h0 σ s.heap) (hm : F.maker = true)
    (hcl : closureFor scope env = pure cl) (hdoc : ∀ b, body = .stmts b → docOf b = none)
    (k : ∀ fd cd a W' s', Post c W s W' s' → W'.C cd → W'.H = W.H → s.heap.objs.size ≤ a → s'.heap.get? a = some { cls := .type "function", data := .func fd } →
      fd.params = params → fd.body = body → fd.scope = scope → fd.globals = mainGlobals → fd.builtins = builtinsNs → fd.kwdefaults = .none → fd.code = .ref cd → fd.closure = cl →
      ((dv = [] ∧ fd.defaults = .none) ∨ ∃ t, fd.defaults = .ref t ∧ s.heap.objs.size ≤ t ∧ s'.heap.get? t = some { cls := .type "tuple", data := .seq dv.toArray }) → (dv = [] → fd.defaults = .none) → Q (.ref a) s') :
    wpAny c.M A (makeFunction name qual params body scope env dv [] [] pos fl) Q E s := by
  obtain ⟨cd0, hc0, hC0⟩ := I.code hm
  obtain ⟨bm, ob, hbm, hne0, hbo, hcls, hdict, hdata⟩ := bo
  have fin : ∀ (dV ctv : Value) (cl' : List (Str × Addr)) (cd : Addr) (doc : Value) (W3 : Wd) (s3 : Shared), cl' = cl → Post c W s W3 s3 → W3.C cd → W3.H = W.H → ((dv = [] ∧ dV = .none) ∨ ∃ t, dV = .ref t ∧ s.heap.objs.size ≤ t ∧ s3.heap.get? t = some { cls := .type "tuple", data := .seq dv.toArray }) → (dv = [] → dV = .none) →
      wpAny c.M A (newObj (.type "function") (.func { name, qualname := qual, params, body, scope, globals := mainGlobals, closure := cl', closureTuple := ctv, code := .ref cd, builtins := builtinsNs, defaults := dV, kwdefaults := .none, annotations := none, pyModule := ((c.mg "__name__").getD .none), doc })) Q E s3 := by
    intro dV ctv cl' cd doc W3 s3 hcl' pp hC3 hH3 hdV3 hnil
    refine wpAny_newObj_type ?_ (by size_fits)
    refine k _ cd s3.heap.objs.size W3 _ (pp.trans (Post.push pp.inv _ _)) hC3 hH3 pp.step.size (Heap.get?_push_size _ rfl) rfl rfl rfl rfl rfl rfl rfl hcl' ?_ hnil
    exact hdV3.imp id fun ⟨t, e1, e2, e3⟩ => ⟨t, e1, e2, Heap.get?_push_of_some _ e3⟩
  have tail : ∀ (dV : Value) (s1 : Shared), Post c W s W s1 → ((dv = [] ∧ dV = .none) ∨ ∃ t, dV = .ref t ∧ s.heap.objs.size ≤ t ∧ s1.heap.get? t = some { cls := .type "tuple", data := .seq dv.toArray }) → (dv = [] → dV = .none) →
      wpAny c.M A (makeTail name qual params body scope env dV .none none pos fl) Q E s1 := by
    intro dV s1 p1 hdV hnil
    unfold makeTail
    rw [hcl, I.glob]
    refine wpAny_bind (wpAny_pure ?_)
    cases body with
    | stmts b =>
      simp only [hdoc b rfl]
      cases hcl' : cl with
      | nil =>
        simp only [List.isEmpty_nil, if_true]
        refine wpAny_bind (wpAny_pure ?_)
        refine wpAny_bind (code_any p1.inv hc0 hC0 fun cd W3 s3 p3 hC3 hH3 => ?_)
        refine wpAny_bind (wpAny_builtinsFor (p3.inv.gN ok) hbm hne0 (p3.inv.base _ _ hbo) hcls hdict hdata ?_)
        refine wpAny_bind (wpAny_nsGet (p3.inv.gN ok) (wpAny_bind (wpAny_pure ?_)))
        exact fin _ _ _ _ _ _ _ hcl'.symm (p1.trans p3) hC3 hH3 (hdV.imp id fun ⟨t, e1, e2, e3⟩ => ⟨t, e1, e2, p3.step.ext _ _ e3 (fun ps q => by cases q)⟩) hnil
      | cons q r =>
        simp only [List.isEmpty_cons, Bool.false_eq_true, if_false]
        refine wpAny_bind (wpAny_newTextTuple ?_)
        have p2 := Post.push (s := s1) p1.inv { cls := .type "tuple", data := .seq ((List.map (fun x => Value.ref x.snd) ((q :: r).mergeSort fun a b => decide (a.fst.cps.toList ≤ b.fst.cps.toList))).toArray) } s1.toks
        refine wpAny_bind (code_any p2.inv hc0 hC0 fun cd W3 s3 p3 hC3 hH3 => ?_)
        refine wpAny_bind (wpAny_builtinsFor (p3.inv.gN ok) hbm hne0 (p3.inv.base _ _ hbo) hcls hdict hdata ?_)
        refine wpAny_bind (wpAny_nsGet (p3.inv.gN ok) (wpAny_bind (wpAny_pure ?_)))
        exact fin _ _ _ _ _ _ _ hcl'.symm ((p1.trans p2).trans p3) hC3 hH3 (hdV.imp id fun ⟨t, e1, e2, e3⟩ => ⟨t, e1, e2, p3.step.ext _ _ (Heap.get?_push_of_some _ e3) (fun ps q => by cases q)⟩) hnil
    | expr b =>
      cases hcl' : cl with
      | nil =>
        simp only [List.isEmpty_nil, if_true]
        refine wpAny_bind (wpAny_pure ?_)
        refine wpAny_bind (code_any p1.inv hc0 hC0 fun cd W3 s3 p3 hC3 hH3 => ?_)
        refine wpAny_bind (wpAny_builtinsFor (p3.inv.gN ok) hbm hne0 (p3.inv.base _ _ hbo) hcls hdict hdata ?_)
        refine wpAny_bind (wpAny_nsGet (p3.inv.gN ok) (wpAny_bind (wpAny_pure ?_)))
        exact fin _ _ _ _ _ _ _ hcl'.symm (p1.trans p3) hC3 hH3 (hdV.imp id fun ⟨t, e1, e2, e3⟩ => ⟨t, e1, e2, p3.step.ext _ _ e3 (fun ps q => by cases q)⟩) hnil
      | cons q r =>
        simp only [List.isEmpty_cons, Bool.false_eq_true, if_false]
        refine wpAny_bind (wpAny_newTextTuple ?_)
        have p2 := Post.push (s := s1) p1.inv { cls := .type "tuple", data := .seq ((List.map (fun x => Value.ref x.snd) ((q :: r).mergeSort fun a b => decide (a.fst.cps.toList ≤ b.fst.cps.toList))).toArray) } s1.toks
        refine wpAny_bind (code_any p2.inv hc0 hC0 fun cd W3 s3 p3 hC3 hH3 => ?_)
        refine wpAny_bind (wpAny_builtinsFor (p3.inv.gN ok) hbm hne0 (p3.inv.base _ _ hbo) hcls hdict hdata ?_)
        refine wpAny_bind (wpAny_nsGet (p3.inv.gN ok) (wpAny_bind (wpAny_pure ?_)))
        exact fin _ _ _ _ _ _ _ hcl'.symm ((p1.trans p2).trans p3) hC3 hH3 (hdV.imp id fun ⟨t, e1, e2, e3⟩ => ⟨t, e1, e2, p3.step.ext _ _ (Heap.get?_push_of_some _ e3) (fun ps q => by cases q)⟩) hnil
  rw [makeFunction_eq]
  cases dv with
  | nil =>
    simp only [List.zip_nil_right, List.filterMap_nil, List.isEmpty_nil, if_true, pure_bind]
    exact tail _ s (.refl I.inv) (.inl ⟨rfl, rfl⟩) (fun _ => rfl)
  | cons d ds =>
    simp only [List.zip_nil_right, List.filterMap_nil, List.isEmpty_nil, List.isEmpty_cons, Bool.false_eq_true, if_false, if_true, pure_bind]
    refine wpAny_bind (wpAny_newTextTuple ?_)
    exact tail _ _ (Post.push I.inv _ _) (.inr ⟨_, rfl, Nat.le_refl _, Heap.get?_push_size _ rfl⟩) (fun q => by cases q)
end
end

section
section
variable {c : GCtx} {F : FSt} {σ : Store}

noncomputable def FSt.shut (F : FSt) : FSt := ⟨F.scope, F.n, false, F.maker⟩

open Classical in
theorem FrInv.shut {W env h0 h} (I : FrInv c W F env h0 σ h) (ho : F.own = true) : ∃ W', FrInv c W' F.shut env h0 σ h ∧ W.le W' ∧ (∀ a, a < h0.objs.size → W'.H a = W.H a) ∧ ∀ b ob vs, h.get? b = some ob → ob.data = .fields vs → W'.H b = W.H b := by
  let isC (a : Addr) : Prop := ∃ x, env.kindOf x = some .cell ∧ env.cells.lookup x = some a
  let W' : Wd := ⟨fun a => if isC a then h.get? a else W.H a, W.C⟩
  have cel : ∀ {a}, isC a → h0.objs.size ≤ a ∧ W.H a = none ∧ ∃ v, h.IsCell a v := fun {a} ⟨x, hk, hl⟩ => by
    obtain ⟨cl, e1, e2, e3, v, e4⟩ := I.cells ho x hk
    rw [hl] at e1; cases e1; exact ⟨e2, e3, v, e4⟩
  have on : ∀ {a}, isC a → W'.H a = h.get? a := fun h => if_pos h
  have off : ∀ {a}, ¬ isC a → W'.H a = W.H a := fun h => if_neg h
  have ne : ∀ {a o}, h.get? a = some o → (∀ v, o.data ≠ .cell v) → ¬ isC a := fun {a o} e n q => by
    obtain ⟨_, _, v, o', e', d⟩ := cel q
    rw [e] at e'; cases e'; exact n _ d
  have le : W.le W' := ⟨fun a o e => by
    by_cases q : isC a
    · rw [(cel q).2.1] at e; cases e
    · rw [off q]; exact e, fun a e => e⟩
  obtain ⟨m, adr, hns, hsl, hdis⟩ := I.slots
  refine ⟨W', ⟨⟨I.inv.base, I.inv.size, fun a o e => ?_, fun cd hcd => ?_, I.inv.tab, I.inv.stat⟩, I.ext, I.size, I.g0, I.kind, I.scope, I.glob, I.blt, I.code, fun _ _ x hk => ?_, I.loc, ?_, fun q => (by cases q), fun q => (by cases q), m, adr, hns, fun x sl e => ?_, hdis⟩, le,
    fun a ha => off (fun q => absurd (cel q).1 (Nat.not_le.mpr ha)), fun b ob vs e d => off (ne e (fun v q => by rw [d] at q; cases q))⟩
  · by_cases q : isC a
    · rw [on q] at e; exact e
    · rw [off q] at e; exact I.inv.froz a o e
  · obtain ⟨P, ps, e1, e2, e3, e4, e5, e6⟩ := I.inv.code cd hcd
    exact ⟨P, ps, e1, e2, e3, e4, e5, (off (ne e2 (fun v q => by cases q))).trans e6⟩
  · obtain ⟨cl, e1, e2, e3, v, o, e4, e5⟩ := I.cells ho x hk
    exact ⟨cl, o, v, e1, (on ⟨x, hk, e1⟩).trans e4, e5⟩
  · obtain ⟨oL, es, ep, hoL, hdL, _⟩ := hns
    exact (off (ne hoL (fun v q => by rw [hdL] at q; cases q))).trans I.locH
  · have V : ∀ {v}, VarIs F env h0 h m x v → VarIs F.shut env h0 h m x v := fun {v} V => by
      cases V with
      | loc h1 h2 => exact .loc h1 h2
      | own h2 cl h3 h4 => exact .own h2 cl h3 h4
      | old h1 h2 cl h3 h4 => exact .old h1 h2 cl h3 h4
    have := hsl x sl e
    cases sl with
    | val pv => obtain ⟨v, g1, g2⟩ := this; exact ⟨v, V g1, g2.mono le⟩
    | own l =>
      obtain ⟨g1, g2, g3, g4, vs, g5, g6⟩ := this
      obtain ⟨n, sl, q⟩ := id g5
      exact ⟨V g1, g2, (off (ne q (fun v q => by cases q))).trans g3, g4, vs, g5, g6.mono le⟩
    | view l => obtain ⟨g0, a, vs, g1, g2, g3⟩ := this; exact ⟨g0, a, vs, V g1, g2, g3.mono le⟩
theorem ExSs.shut {sts} {P : PFlow → Store → Prop} (ho : F.own = true) (h : ExSs c F.shut sts σ fun f σ' => match f with | .ret v => P (.ret v) σ' | _ => False) : ExSs c F sts σ P := by
  intro W env h0 A s Q E I ao k
  obtain ⟨W', I', le, low, nof⟩ := I.shut ho
  refine h I' ao fun f σ' fl W'' s'' hp I'' R p => ?_
  have sp : SPost W h0 s W'' s'' := ⟨le.trans p.le, fun a ha => (p.low a ha).trans (low a ha), p.os, p.gens, p.keep, fun b o vs e d n => (p.nof b o vs e d n).trans (nof b o vs e d)⟩
  cases R with
  | next => exact hp.elim
  | brk => exact hp.elim
  | cont => exact hp.elim
  | ret v pv r => exact k _ _ _ _ _ hp I'' (.ret v pv r) sp

noncomputable def pvOf (σ : Store) (x : Str) : PV := match σ.lookup x with
  | some (.val v) => v
  | _ => .none
noncomputable def capsF (σ : Store) : List (Str × NameKind) → List (Str × PV) → List (Str × PV)
  | [], acc => acc
  | (x, k) :: r, acc => if k == .free then capsF σ r ((x, pvOf σ x) :: acc) else capsF σ r acc
noncomputable def CapOk (F : FSt) (σ : Store) (scope : Scope) : Prop := ∀ x, (x, NameKind.free) ∈ scope.names → F.own = false ∧ F.scope.names.lookup x = some .cell ∧ ∃ pv, σ.lookup x = some (.val pv)

theorem cap_cell {W env h0 h x pv} (I : FrInv c W F env h0 σ h) (hm : F.maker = true) (ho : F.own = false) (hk : F.scope.names.lookup x = some .cell) (hx : σ.lookup x = some (.val pv)) : ∃ a o v, env.cells.lookup x = some a ∧ W.H a = some o ∧ o.data = .cell (some v) ∧ Rep c W v pv := by
  have kd : env.kindOf x = some .cell := by show env.scope.names.lookup x = _; rw [I.scope]; exact hk
  obtain ⟨cl, o, v, e1, e2, e3⟩ := I.sld ho hm x kd
  obtain ⟨m, adr, _, hsl, _⟩ := I.slots
  obtain ⟨u, V, R⟩ := hsl x _ hx
  obtain ⟨cl', f1, o', f2, f3⟩ := V.cellOf (.inl kd) I.ext
  rw [e1] at f1; cases f1
  rw [I.inv.froz _ _ e2] at f2; cases f2
  rw [e3] at f3; cases f3
  exact ⟨cl, o, u, e1, e2, e3, R⟩
theorem cap_rep {W env h0 h} (I : FrInv c W F env h0 σ h) (hm : F.maker = true) : ∀ (names : List (Str × NameKind)) (acc : List (Str × Addr)) (acc' : List (Str × PV)), (∀ x, (x, NameKind.free) ∈ names → F.own = false ∧ F.scope.names.lookup x = some .cell ∧ ∃ pv, σ.lookup x = some (.val pv)) →
    RepCl c W acc acc' → RepCl c W (clF env.cells names acc) (capsF σ names acc')
  | [], acc, acc', _, R => R
  | (x, k) :: r, acc, acc', hC, R => by
    unfold clF capsF
    split
    · rename_i hk
      have hk' : k = .free := by simpa using hk
      subst hk'
      obtain ⟨ho, h1, pv, h2⟩ := hC x List.mem_cons_self
      obtain ⟨a, o, v, e1, e2, e3, e4⟩ := cap_cell I hm ho h1 h2
      refine cap_rep I hm r _ _ (fun y hy => hC y (List.mem_cons_of_mem _ hy)) ?_
      rw [e1]
      have : pvOf σ x = pv := by unfold pvOf; rw [h2]
      rw [this]
      exact .cons x a o v pv acc acc' e2 e3 e4 R
    · exact cap_rep I hm r _ _ (fun y hy => hC y (List.mem_cons_of_mem _ hy)) R
theorem CapOk.closure {W env h0 h scope} (C : CapOk F σ scope) (I : FrInv c W F env h0 σ h) (hm : F.maker = true) : closureFor scope env = pure (clF env.cells scope.names []) :=
  closureFor_clF fun x hx => let ⟨ho, h1, pv, h2⟩ := C x hx; let ⟨a, _, _, e, _⟩ := cap_cell I hm ho h1 h2; ⟨a, e⟩

theorem made_rep {W W' a cd fd dv dfl caps n} {s : Shared} {params : Arguments} {body : FuncBody} {scope : Scope} (I : Inv c W' s.heap) (hC : W'.C cd) (hH : W'.H a = none) (ha : n ≤ a) (e : s.heap.get? a = some { cls := .type "function", data := .func fd })
    (h1 : fd.params = params) (h2 : fd.body = body) (h3 : fd.scope = scope) (h4 : fd.globals = mainGlobals) (h5 : fd.builtins = builtinsNs) (h6 : fd.kwdefaults = .none) (h7 : fd.code = .ref cd) (h8 : RepCl c W' fd.closure caps) (le : W.le W') (R : RepL c W dv dfl)
    (hd : (dv = [] ∧ fd.defaults = .none) ∨ ∃ t, fd.defaults = .ref t ∧ n ≤ t ∧ W'.H t = none ∧ s.heap.get? t = some { cls := .type "tuple", data := .seq dv.toArray }) :
    ∃ W'', Inv c W'' s.heap ∧ W'.le W'' ∧ (∀ b, b < n → W''.H b = W'.H b) ∧ Rep c W'' (.ref a) (.fn ⟨params, body, scope⟩ caps dfl none) := by
  have I1 := I.add e (fun ps q => by cases q)
  have le1 : W'.le (W'.add a { cls := .type "function", data := .func fd }) := Wd.le_add _ hH
  have low1 : ∀ b, b < n → (W'.add a { cls := .type "function", data := .func fd }).H b = W'.H b := fun b hb => if_neg (Nat.ne_of_lt (Nat.lt_of_lt_of_le hb ha))
  rcases hd with ⟨rfl, hd⟩ | ⟨t, hd, ht, htH, het⟩
  · refine ⟨_, I1, le1, low1, ?_⟩
    exact .fn a _ fd _ caps dfl [] none cd (Wd.add_self ..) rfl rfl h1 h2 h3 h4 h5 h6 h7 hC (h8.mono le1) (R.mono (le.trans le1)) (.inl ⟨rfl, hd⟩) .none
  · have hta : t ≠ a := fun q => by subst q; rw [e] at het; simp at het
    have htH1 : (W'.add a { cls := .type "function", data := .func fd }).H t = none := (if_neg hta).trans htH
    have le2 := Wd.le_add (W := W'.add a { cls := .type "function", data := .func fd }) (a := t) { cls := .type "tuple", data := .seq dv.toArray } htH1
    refine ⟨_, I1.add het (fun ps q => by cases q), le1.trans le2, fun b hb => (if_neg (Nat.ne_of_lt (Nat.lt_of_lt_of_le hb ht))).trans (low1 b hb), ?_⟩
    refine .fn a _ fd _ caps dfl dv none cd (le2.1 _ _ (Wd.add_self ..)) rfl rfl h1 h2 h3 h4 h5 h6 h7 hC (h8.mono (le1.trans le2)) (R.mono (le.trans (le1.trans le2))) (.inr ⟨t, _, 0, hd, Wd.add_self .., rfl, rfl⟩) .none

theorem EvE.lam {params body scope pos} {P : PV → Prop} (ok : GOk c) (bo : BmOk c) (hm : F.maker = true) (C : CapOk F σ scope) (hd : params.defaults = []) (hk : params.kw_defaults = [])
    (h : P (.fn ⟨params, .expr body, scope⟩ (capsF σ scope.names []) [] Option.none)) : EvE c F (.Lambda params body scope pos) σ P := by
  intro W env h0 A s Q E I ao k
  refine kla_eval (by rw [defaultsOf_eq, hd, hk]; rfl) ?_
  refine make_fn ok bo I hm (C.closure I hm) (fun b q => by cases q) fun fd cd a W' s' p hC hH ha e h1 h2 h3 h4 h5 h6 h7 h8 h9 _ => ?_
  obtain ⟨W'', I'', le, low, R⟩ := made_rep (dfl := []) (caps := capsF σ scope.names []) p.inv hC (by rw [hH]; exact I.inv.fresh ha) ha e h1 h2 h3 h4 h5 h6 h7 (by rw [h8]; exact (cap_rep I hm scope.names [] [] C .nil).mono p.step.le) p.step.le .nil
    (h9.imp id fun ⟨t, e1, e2, e3⟩ => ⟨t, e1, e2, by rw [hH]; exact I.inv.fresh e2, e3⟩)
  exact k _ _ W'' s' h ⟨I'', ⟨p.step.ext, p.step.size, p.step.le.trans le, fun b hb => (low b hb).trans (p.step.low b hb)⟩, p.os, p.gens⟩ R

theorem ExS.def_ {name params body scope pos d} {P : PFlow → Store → Prop} (ok : GOk c) (bo : BmOk c) (hm : F.maker = true) (C : CapOk F σ scope) (hd : params.defaults = [d]) (hk : params.kw_defaults = []) (hann : ∀ env, annTrees params none env = []) (hdoc : docOf body = none) (hs : Storable F name)
    (h : EvE c F d σ fun v => P .next (σ.put name (.val (.fn ⟨params, .stmts body, scope⟩ (capsF σ scope.names []) [v] none)))) : ExS c F (.FunctionDef name params body [] none [] scope none name pos) σ P := by
  intro W env h0 A s Q E I ao k
  refine kdv_def (by rw [hd]; rfl) hk (hann env) ?_
  rw [hd]
  refine kdv_all1 (h I ao fun pv v W1 s1 hp p1 R1 => kdv_all0 ?_)
  have I1 := I.post p1
  refine make_fn ok bo I1 hm (C.closure I1 hm) (fun b q => by cases q; exact hdoc) fun fd cd a W' s' p hC hH ha e h1 h2 h3 h4 h5 h6 h7 h8 h9 _ => ?_
  obtain ⟨W'', I'', le, low, R⟩ := made_rep (dfl := [pv]) (caps := capsF σ scope.names []) p.inv hC (by rw [hH]; exact I1.inv.fresh ha) ha e h1 h2 h3 h4 h5 h6 h7 (by rw [h8]; exact (cap_rep I1 hm scope.names [] [] C .nil).mono p.step.le) p.step.le (.cons _ _ _ _ R1 .nil)
    (h9.imp id fun ⟨t, e1, e2, e3⟩ => ⟨t, e1, e2, by rw [hH]; exact I1.inv.fresh e2, e3⟩)
  have p' : Post c W1 s1 W'' s' := ⟨I'', ⟨p.step.ext, p.step.size, p.step.le.trans le, fun b hb => (low b hb).trans (p.step.low b hb)⟩, p.os, p.gens⟩
  exact store_val (I1.post p') hs R fun s'' J q _ => k _ _ _ _ _ hp J .next (((p1.trans p').sp I.size).trans q)
end
end

section
open Builtin Builtin.ObjectAttr
theorem slot_fn_setattr : PySem.Slot "function" "__setattr__" "object.__setattr__" :=
  .of (owner := "object") (n := "__setattr__") (by rw [typeLookup_type, builtinLookup_eq_fast]; kernel_rfl) (by decide +kernel) (by decide +kernel) (by decide +kernel)
    (by first | exact .inl (by decide +kernel) | exact .inr (by decide +kernel)) (by rw [isSubtype_type]; kernel_rfl)
theorem slot_fn_getattr : PySem.Slot "function" "__getattribute__" "object.__getattribute__" :=
  .of (owner := "object") (n := "__getattribute__") (by rw [typeLookup_type, builtinLookup_eq_fast]; kernel_rfl) (by decide +kernel) (by decide +kernel) (by decide +kernel)
    (by first | exact .inl (by decide +kernel) | exact .inr (by decide +kernel)) (by rw [isSubtype_type]; kernel_rfl)
theorem entry_fn_setattr : entryFor table "object.__setattr__" = some Builtin.«object.__setattr__» := entryFor_of_fast (by kernel_rfl)
theorem args_fn_setattr (a b c : Value) : argsOk "object.__setattr__" ⟨[a, b, c], []⟩ := by unfold argsOk; kernel_rfl
theorem entry_fn_getattr : entryFor table "object.__getattribute__" = some Builtin.«object.__getattribute__» := entryFor_of_fast (by kernel_rfl)
theorem args_fn_getattr (a b : Value) : argsOk "object.__getattribute__" ⟨[a, b], []⟩ := by unfold argsOk; kernel_rfl
theorem no_search : typeLookup (.type "function") "search" = pure none := by rw [typeLookup_type, builtinLookup_eq_fast]; kernel_rfl
theorem no_span : typeLookup (.type "function") "span" = pure none := by rw [typeLookup_type, builtinLookup_eq_fast]; kernel_rfl
theorem no_bool : typeLookup (.type "function") "__bool__" = pure none := by rw [typeLookup_type, builtinLookup_eq_fast]; kernel_rfl
theorem no_len : typeLookup (.type "function") "__len__" = pure none := by rw [typeLookup_type, builtinLookup_eq_fast]; kernel_rfl
theorem fn_passes (self : Value) : refuseLoop self "__setattr__" [.type "function", .type "object"] = pure () := by kernel_rfl
theorem fn_mro : mroOf (.type "function") = pure [.type "function", .type "object"] := by kernel_rfl

section
variable {c : GCtx} {F : FSt} {σ : Store}
theorem fn_setAttr {A a fd sl name v} {s : Shared} {Q : Unit → Shared → Prop} {E : Value → Shared → Prop} (ho : s.heap.get? a = some ⟨.type "function", none, .func fd, sl⟩) (hno : typeLookup (.type "function") name = pure none)
    (hQ : ∀ h' tk, h'.Ns s.heap.objs.size (fun y => if y = name then some v else none) → h'.get? a = some ⟨.type "function", some s.heap.objs.size, .func fd, sl⟩ → (∀ b o, b ≠ a → s.heap.get? b = some o → h'.get? b = some o) → Q () { s with heap := h', toks := tk }) :
    wpAny c.M A (setAttr (.ref a) name v) Q E s := by
  have hT : s.TypeIs (.ref a) "function" := ⟨_, ho, rfl⟩
  unfold setAttr
  refine wpAny_bind (wpAny_mkText ?_)
  refine wpAny_bind (wpAny_callSpecial?_slot (name := Str.ofString "__setattr__") hT slot_fn_setattr (wpAny_call_entry slot_fn_setattr hT entry_fn_setattr ?_ (args_fn_setattr _ _ _)))
  have hx₁ : (s.heap.push { cls := .type "dict", data := .dict #[] }).get? a = some ⟨.type "function", none, .func fd, sl⟩ := Heap.get?_push_of_some _ ho
  have hxs : a ≠ s.heap.objs.size := Nat.ne_of_lt (Heap.lt_size ho)
  have hgd : ((s.heap.push { cls := .type "dict", data := .dict #[] }).update a fun o => { cls := o.cls, dict := some s.heap.objs.size, data := o.data, slots := o.slots }).get? s.heap.objs.size
      = some { cls := .type "dict", data := .dict #[] } :=
    (Heap.get?_update_ne _ _ _ _ hxs.symm).trans (Heap.get?_push_size _ rfl)
  have hnd : ((s.heap.push { cls := .type "dict", data := .dict #[] }).update a fun o => { cls := o.cls, dict := some s.heap.objs.size, data := o.data, slots := o.slots }).Ns s.heap.objs.size (fun _ => none) :=
    ⟨_, #[], _, hgd, rfl, fun e he => absurd he (by simp), fun _ => rfl⟩
  have hga : ((s.heap.push { cls := .type "dict", data := .dict #[] }).update a fun o => { cls := o.cls, dict := some s.heap.objs.size, data := o.data, slots := o.slots }).get? a = some ⟨.type "function", some s.heap.objs.size, .func fd, sl⟩ :=
    Heap.get?_update_self _ hx₁ rfl
  unfold Builtin.«object.__setattr__»
  repeat (first | rw [refuse_eq] | (rw [fn_mro]) | (rw [fn_passes]) | (with_reducible refine wpAny_loadPart_at ho ?_) | rw [hno] | (with_reducible refine wpAny_nsSet1 (Heap.Ns1.of_empty hnd) fun h' hn' hs' => ?_) | wp_step)
  obtain ⟨oD, esD, epD, hoD, hdD, hcD⟩ := hn'.count (Within.cons name v Within.nil)
  refine wpAny_loadPart hoD ?_
  rw [hdD, pastItsLine_dict (Nat.le_trans hcD (by rw [List.length_cons, List.length_nil, sizeLine_eq]; (first | lia | omega)))]
  refine wpAny_pure (wpAny_pure ⟨.none, rfl, wpAny_pure ?_⟩)
  obtain ⟨o1, es1, ep1, f1, f2, f3, f4, f5⟩ := hn'
  refine hQ h' _ ⟨o1, es1, ep1, f1, f2, f3, f5⟩ ?_ fun b ob hb e => ?_
  · exact (hs'.2 a hxs).trans hga
  · exact (hs'.2 b (Nat.ne_of_lt (Heap.lt_size e))).trans ((Heap.get?_update_ne _ _ _ _ hb).trans (Heap.get?_push_of_some _ e))
end
end

section
open Builtin Builtin.ObjectAttr
section
variable {c : GCtx} {F : FSt} {σ : Store}
theorem fn_getAttr {A a d fd sl name b m} {s : Shared} {Q : Value → Shared → Prop} {E : Value → Shared → Prop} (ho : s.heap.get? a = some ⟨.type "function", some d, .func fd, sl⟩) (hno : typeLookup (.type "function") name = pure none)
    (hn : s.heap.Ns d m) (hm : m name = some (.ref b))
    (hQ : ∀ tk, Q (.ref b) { s with toks := tk }) :
    wpAny c.M A (getAttr (.ref a) name) Q E s := by
  have hT : s.TypeIs (.ref a) "function" := ⟨_, ho, rfl⟩
  unfold getAttr getAttrBy
  refine wpAny_bind (wpAny_mkText (wpAny_holding ?_))
  repeat (first | (with_reducible refine wpAny_loadPart_at ho ?_) | rw [slot_fn_getattr.lookup] | wp_step)
  rw [slot_fn_getattr.bind]
  refine wpAny_pure ?_
  have hT' : ({ s with toks := s.toks + 1 } : Shared).TypeIs (.ref a) "function" := ⟨_, ho, rfl⟩
  refine wpAny_call_entry (rest := [Value.str name s.toks]) slot_fn_getattr hT' entry_fn_getattr ?_ (args_fn_getattr _ _)
  unfold Builtin.«object.__getattribute__»
  repeat (first | (with_reducible refine wpAny_loadPart_at ho ?_) | (with_reducible refine wpAny_nsGet hn ?_) | rw [hno] | rw [hm] | wp_step)
  exact ⟨_, rfl, wpAny_pure (hQ _)⟩
theorem no_getattr : typeLookup (.type "function") "__getattr__" = pure none := by rw [typeLookup_type, builtinLookup_eq_fast]; kernel_rfl
theorem fn_getMethod {A a d fd sl name b m} {s : Shared} {pl : Sem Bool} {Q : Value × List Value → Shared → Prop} {E : Value → Shared → Prop} (ho : s.heap.get? a = some ⟨.type "function", some d, .func fd, sl⟩) (hno : typeLookup (.type "function") name = pure none)
    (hn : s.heap.Ns d m) (hm : m name = some (.ref b)) (hQ : ∀ tk, Q (.ref b, []) { s with toks := tk }) : wpAny c.M A (getMethod (.ref a) name pl) Q E s := by
  have hT : s.TypeIs (.ref a) "function" := ⟨_, ho, rfl⟩
  unfold getMethod
  refine wpAny_bind (wpAny_specialOf hT slot_fn_getattr.lookup ?_)
  have hcan : (Manifest.canonical "object.__getattribute__" != "object.__getattribute__") = false := by decide +kernel
  dsimp only
  rw [hcan]
  simp only [Bool.false_eq_true, if_false]
  refine wpAny_bind (wpAny_specialOf hT no_getattr ?_)
  simp only [Option.isSome_none, Bool.false_eq_true, if_false]
  refine wpAny_bind (wpAny_specialOf hT hno ?_)
  dsimp only
  exact wpAny_bind (fn_getAttr ho hno hn hm fun tk => wpAny_pure (hQ tk))

theorem EvE.callAttr {o : Expr} {name : Str} {ap es pos} {P : PV → Prop} (ok : GOk c) (hno : typeLookup (.type "function") name = pure Option.none)
    (h : EvE c F o σ fun v => ∃ r caps dfl f, v = .fn r caps dfl (Option.some (name, f)) ∧ Callable f ∧ EvL c F es σ fun pvs => CallS c F.n f pvs P) (hn : noStar es = true := by rfl) (hfew : es.length < 30 := by decide) (hline : (ap.endLine == pos.line) = true := by rfl)
    (hbase : ∀ env, attributeBase o name env (eval o env) = eval o env := by intro _; rfl) : EvE c F (.Call (.Attribute o name ap) es [] pos) σ P := by
  intro W env h0 A s Q E I ao kk
  rw [arm_eval_Call, hbase]
  refine wpAny_bind (h I ao fun v vv W1 s1 h1 p1 R1 => wpAny_bind (wpAny_standAt ?_))
  obtain ⟨r, caps, dfl, f, rfl, hcf, h1⟩ := h1
  have hform : methodCallForm (es.length + ([] : List Keyword).length) (backTo pos (starEach es env)) (backToKw pos (keywordEach [] env)) = true := by
    unfold methodCallForm
    rw [starEach_all pos hn]
    simp [backToKw, keywordEach, hfew]
  have hpos : methodCallPos true o env ap pos = pure pos := by unfold methodCallPos; simp [hline]
  unfold methodCall
  rw [hform]
  cases R1 with
  | fn a ob fd _ _ _ dv _ cd g1 g2 g3 g4 g5 g6 g7 g8 g9 g10 g11 g12 g13 g14 g15 =>
  obtain ⟨ocls, odict, odata, osl⟩ := ob
  cases g2; cases g3
  cases g15 with
  | some d od es' ep _ fv _ k1 k2 k3 k4 k5 =>
  obtain ⟨a2, o2, fd2, rfl, _⟩ := callable_fn ok p1.inv k5 hcf
  have hns : s1.heap.Ns d (fun y => if y = name then Option.some (.ref a2) else Option.none) := ⟨od, es', ep, p1.inv.froz _ _ k1, k2, k3, k4⟩
  refine wpAny_bind (wpAny_holding ?_)
  unfold calleeOf
  simp only [if_true]
  refine fn_getMethod (p1.inv.froz _ _ g1) hno hns (if_pos rfl) fun tk => ?_
  refine wpAny_bind (wpAny_of_eq hpos ?_)
  have p2 := p1.trans (Post.tok p1.inv tk)
  exact call_with ok (I.post p2) ao k5 hcf hn h1 fun pv v W3 s3 h3 p3 R3 => kk _ _ _ _ h3 (p2.trans p3) R3

theorem TruS.fn {r caps dfl attr} {P : Bool → Prop} (h : P true) : TruS c (.fn r caps dfl attr) P := by
  intro W A s va Q E I ao R kk
  cases R with
  | fn a ob fd _ _ _ dv _ cd g1 g2 g3 g4 g5 g6 g7 g8 g9 g10 g11 g12 g13 g14 g15 =>
  have hT : s.TypeIs (.ref a) "function" := ⟨_, I.froz _ _ g1, g2⟩
  unfold truthy
  dsimp only
  refine wpAny_bind (wpAny_callSpecial?_none hT no_bool ?_)
  refine wpAny_bind (wpAny_specialOf hT no_len ?_)
  exact wpAny_pure (kk _ _ _ h (.refl I))
end
end

section
section
variable {c : GCtx} {F : FSt} {σ : Store}

theorem bind_d1 {fd : FuncData} {p q : Arg} {dfs : List Expr} {v d : Value} {T : Addr} {o : Obj} {n : Nat} {s : Shared} (hp : fd.params = ⟨[], [p, q], none, [], [], none, dfs⟩) (hd : fd.defaults = .ref T) (ho : s.heap.get? T = some o) (hs : o.data = .seq #[d] n) (hne : q.arg ≠ p.arg) :
    BindsTo s fd ⟨[v], []⟩ [(p.arg, v), (q.arg, d)] := by
  refine BindsTo.of_defaults hd ho hs (by unfold bindArgs; rw [hp]; rfl) ?_
  have e1 : (q.arg == p.arg) = false := beq_eq_false_iff_ne.mpr hne
  simp [List.lookup, e1, List.lookup_append, hne]
theorem bind_d2 {fd : FuncData} {p q : Arg} {dfs : List Expr} {v u d : Value} {T : Addr} {o : Obj} {n : Nat} {s : Shared} (hp : fd.params = ⟨[], [p, q], none, [], [], none, dfs⟩) (hd : fd.defaults = .ref T) (ho : s.heap.get? T = some o) (hs : o.data = .seq #[d] n) (hne : q.arg ≠ p.arg) :
    BindsTo s fd ⟨[v, u], []⟩ [(p.arg, v), (q.arg, u)] := by
  refine BindsTo.of_defaults hd ho hs (by unfold bindArgs; rw [hp]; rfl) ?_
  have e1 : (q.arg == p.arg) = false := beq_eq_false_iff_ne.mpr hne
  simp [List.lookup, e1, hne]

theorem call_made {r : FnRec} {caps dfl attr n args pb} {P : PV → Prop} (ok : GOk c) (hB : ∀ (fd : FuncData) (vs dv : List Value) (W : Wd) (s : Shared), fd.params = r.params → RepL c W vs args → RepL c W dv dfl →
      ((dv = [] ∧ fd.defaults = .none) ∨ ∃ t ot k, fd.defaults = .ref t ∧ s.heap.get? t = some ot ∧ ot.data = .seq dv.toArray k) → ∃ binds, BindsTo s fd ⟨vs, []⟩ binds ∧ BindRep c W binds pb)
    (hS : ScOk r.scope caps) (hst : ∀ x ∈ pb.map (·.1), Storable ⟨r.scope, n, true, true⟩ x)
    (h : match r.body with
      | .stmts body => ExSs c ⟨r.scope, n, true, true⟩ body (bindσ (capσ caps) pb) fun f _ => match f with | .ret v => P v | .next => P .none | _ => False
      | .expr e => EvE c ⟨r.scope, n, true, true⟩ e (bindσ (capσ caps) pb) P) : CallS c (n + 1) (.fn r caps dfl attr) args P := by
  intro W A s v vs Q E I ao R RL kk
  cases R with
  | fn a o fd _ _ _ dv _ cd h1 h2 h3 h4 h5 h6 h7 h8 h9 h10 h11 h12 h13 h14 h15 =>
  obtain ⟨Pt, ps, ⟨oc, vc, file, tf, flags, tg, inF, text, tt, e1, e2, e3, e4, _⟩, _⟩ := I.code cd h11
  have hsz : 11 < vc.size := by
    rcases Nat.lt_or_ge 11 vc.size with q | q
    · exact q
    · rw [Array.getElem?_eq_none q] at e4; cases e4
  have hv1 : vc[1]? = some vc[1] := Array.getElem?_eq_getElem (by (first | lia | omega))
  obtain ⟨binds, hb, BR⟩ := hB fd vs dv W s h4 RL h13 (h14.imp id fun ⟨t, ot, k, q1, q2, q3, q4⟩ => ⟨t, ot, k, q1, I.froz _ _ q2, q4⟩)
  exact wpAny_call (call_fd (mk := true) ok I ao (I.froz _ _ h1) h3 h5 h6 h7 h8 h10 e1 e3 hv1 (fun _ => h11) h12 hS hb BR hst h fun pv v W' s' hp p R => kk _ _ _ _ hp p R)

theorem CallS.fn0 {r : FnRec} {caps attr n} {P : PV → Prop} (ok : GOk c) (hp : r.params = ⟨[], [], none, [], [], none, []⟩) (hS : ScOk r.scope caps)
    (h : match r.body with
      | .stmts body => ExSs c ⟨r.scope, n, true, true⟩ body (capσ caps) fun f _ => match f with | .ret v => P v | .next => P .none | _ => False
      | .expr e => EvE c ⟨r.scope, n, true, true⟩ e (capσ caps) P) : CallS c (n + 1) (.fn r caps [] attr) [] P := by
  refine call_made (pb := []) ok (fun fd vs dv W s e1 e2 e3 e4 => ?_) hS (fun x hx => by cases hx) h
  cases e2; cases e3
  rcases e4 with ⟨_, e4⟩ | ⟨t, ot, k, q1, q2, q3⟩
  · exact ⟨[], bind_plain (ps := []) (e1.trans hp) e4 List.nodup_nil rfl, .nil⟩
  · exact ⟨[], BindsTo.of_defaults q1 q2 q3 (by unfold bindArgs; rw [e1, hp]; rfl) rfl, .nil⟩
theorem CallS.fnD1 {r : FnRec} {caps attr n p q dfs v d} {P : PV → Prop} (ok : GOk c) (hp : r.params = ⟨[], [p, q], none, [], [], none, dfs⟩) (hne : q.arg ≠ p.arg) (hS : ScOk r.scope caps) (hst : Storable ⟨r.scope, n, true, true⟩ p.arg ∧ Storable ⟨r.scope, n, true, true⟩ q.arg)
    (h : match r.body with
      | .stmts body => ExSs c ⟨r.scope, n, true, true⟩ body (((capσ caps).put p.arg (.val v)).put q.arg (.val d)) fun f _ => match f with | .ret v => P v | .next => P .none | _ => False
      | .expr e => EvE c ⟨r.scope, n, true, true⟩ e (((capσ caps).put p.arg (.val v)).put q.arg (.val d)) P) : CallS c (n + 1) (.fn r caps [d] attr) [v] P := by
  refine call_made (pb := [(p.arg, v), (q.arg, d)]) ok (fun fd vs dv W s e1 e2 e3 e4 => ?_) hS (fun x hx => ?_) h
  · cases e2 with
    | cons v1 _ vs1 _ r1 r2 =>
    cases r2
    cases e3 with
    | cons d1 _ ds1 _ r3 r4 =>
    cases r4
    rcases e4 with ⟨q, _⟩ | ⟨t, ot, k, q1, q2, q3⟩
    · cases q
    · exact ⟨_, bind_d1 (e1.trans hp) q1 q2 q3 hne, .cons _ _ _ _ _ r1 (.cons _ _ _ _ _ r3 .nil)⟩
  · simp at hx; rcases hx with rfl | rfl
    · exact hst.1
    · exact hst.2
theorem CallS.fnD2 {r : FnRec} {caps attr n p q dfs v u d} {P : PV → Prop} (ok : GOk c) (hp : r.params = ⟨[], [p, q], none, [], [], none, dfs⟩) (hne : q.arg ≠ p.arg) (hS : ScOk r.scope caps) (hst : Storable ⟨r.scope, n, true, true⟩ p.arg ∧ Storable ⟨r.scope, n, true, true⟩ q.arg)
    (h : match r.body with
      | .stmts body => ExSs c ⟨r.scope, n, true, true⟩ body (((capσ caps).put p.arg (.val v)).put q.arg (.val u)) fun f _ => match f with | .ret v => P v | .next => P .none | _ => False
      | .expr e => EvE c ⟨r.scope, n, true, true⟩ e (((capσ caps).put p.arg (.val v)).put q.arg (.val u)) P) : CallS c (n + 1) (.fn r caps [d] attr) [v, u] P := by
  refine call_made (pb := [(p.arg, v), (q.arg, u)]) ok (fun fd vs dv W s e1 e2 e3 e4 => ?_) hS (fun x hx => ?_) h
  · cases e2 with
    | cons v1 _ vs1 _ r1 r2 =>
    cases r2 with
    | cons v2 _ vs2 _ r5 r6 =>
    cases r6
    cases e3 with
    | cons d1 _ ds1 _ r3 r4 =>
    cases r4
    rcases e4 with ⟨q, _⟩ | ⟨t, ot, k, q1, q2, q3⟩
    · cases q
    · exact ⟨_, bind_d2 (e1.trans hp) q1 q2 q3 hne, .cons _ _ _ _ _ r1 (.cons _ _ _ _ _ r5 .nil)⟩
  · simp at hx; rcases hx with rfl | rfl
    · exact hst.1
    · exact hst.2
end
end

section
section
variable {c : GCtx} {F : FSt} {σ : Store}

theorem Inv.but {W h h'} {a : Addr} {fd} {o : Obj} (I : Inv c W h) (ho : h.get? a = some o) (hd : o.data = .func fd) (hH : W.H a = none) (hg : c.g.get? a = none) (e : ∀ b ob, b ≠ a → h.get? b = some ob → h'.get? b = some ob) (hs : h.objs.size ≤ h'.objs.size) : Inv c W h' := by
  have tabne : ∀ {P ps}, h.get? P = some (tabObj ps) → P ≠ a := fun {P ps} q r => by subst r; rw [ho] at q; cases q; cases hd
  refine ⟨fun b o' q => e b o' (fun r => by subst r; rw [hg] at q; cases q) (I.base b o' q), Nat.le_trans I.size hs, fun b o' q => e b o' (fun r => by subst r; rw [hH] at q; cases q) (I.froz b o' q), fun cd hcd => ?_, fun q hq => ?_, I.stat⟩
  · obtain ⟨P, ps, h1, h2, r⟩ := I.code cd hcd
    obtain ⟨oc, vc, file, tf, flags, tg, inF, text, tt, e1, e2, e3, r1⟩ := h1
    exact ⟨P, ps, ⟨oc, vc, file, tf, flags, tg, inF, text, tt, e _ _ (fun q => by subst q; rw [ho] at e1; cases e1; rw [hd] at e3; cases e3) e1, e2, e3, r1⟩, e _ _ (tabne h2) h2, r⟩
  · obtain ⟨ps, q'⟩ := I.tab q hq
    exact ⟨ps, e _ _ (tabne q') q'⟩
theorem FrInv.but {W env h0 h h' a fd m adr} {o : Obj} (I : FrInv c W F env h0 σ h) (S : SlotsAt c W F env h0 σ h m adr) (ho : h.get? a = some o) (hd : o.data = .func fd) (hH : W.H a = none) (h0a : h0.objs.size ≤ a) (e : ∀ b ob, b ≠ a → h.get? b = some ob → h'.get? b = some ob) (hs : h.objs.size ≤ h'.objs.size) :
    FrInv c W F env h0 σ h' ∧ SlotsAt c W F env h0 σ h' m adr := by
  have ne : ∀ {b o'}, h.get? b = some o' → (∀ fd, o'.data ≠ .func fd) → b ≠ a := fun {b o'} q hn r => by subst r; rw [ho] at q; cases q; exact hn _ hd
  have cellE : ∀ {cl v}, h.IsCell cl v → h'.IsCell cl v := fun {cl v} ⟨oc, q, hdc⟩ => ⟨oc, e _ _ (ne q (fun vs r => by rw [hdc] at r; cases r)) q, hdc⟩
  have listE : ∀ {b vs}, OwnL h b vs → OwnL h' b vs := fun {b vs} ⟨n, sl, q⟩ => ⟨n, sl, e _ _ (ne q (fun vs r => by cases r)) q⟩
  have varE : ∀ {x v}, VarIs F env h0 h m x v → VarIs F env h0 h' m x v := fun {x v} V => by
    cases V with
    | loc h1 h2 => exact .loc h1 h2
    | own h2 cl h3 h4 => exact .own h2 cl h3 (cellE h4)
    | old h1 h2 cl h3 h4 => exact .old h1 h2 cl h3 h4
  obtain ⟨hns, hsl, hdis⟩ := S
  have S' : SlotsAt c W F env h0 σ h' m adr := by
    refine ⟨?_, fun x sl q => ?_, hdis⟩
    · obtain ⟨oL, es, ep, q, hdL, r⟩ := hns
      exact ⟨oL, es, ep, e _ _ (ne q (fun vs r' => by rw [hdL] at r'; cases r')) q, hdL, r⟩
    · have := hsl x sl q
      cases sl with
      | val pv => obtain ⟨v, g1, g2⟩ := this; exact ⟨v, varE g1, g2⟩
      | own l => obtain ⟨g1, g2, g3, g4, vs, g5, g6⟩ := this; exact ⟨varE g1, g2, g3, g4, vs, listE g5, g6⟩
      | view l => obtain ⟨g0, b, vs, g1, g2, g3⟩ := this; exact ⟨g0, b, vs, varE g1, g2, g3⟩
  refine ⟨⟨I.inv.but ho hd hH (g_none I h0a) e hs, fun b o' q n => e b o' (Nat.ne_of_lt (Nat.lt_of_lt_of_le (Heap.lt_size q) h0a)) (I.ext b o' q n), Nat.le_trans I.size hs, I.g0, I.kind, I.scope, I.glob, I.blt, I.code, I.sld, I.loc, I.locH, fun ho x hk => ?_, I.apart, m, adr, S'⟩, S'⟩
  obtain ⟨cl, g1, g2, g3, v, g4⟩ := I.cells ho x hk
  exact ⟨cl, g1, g2, g3, v, cellE g4⟩
theorem FrInv.addVar {W env h0 h x v pv m adr} (I : FrInv c W F env h0 σ h) (S : SlotsAt c W F env h0 σ h m adr) (V : VarIs F env h0 h m x v) (R : Rep c W v pv) : FrInv c W F env h0 (σ.put x (.val pv)) h := by
  refine ⟨I.inv, I.ext, I.size, I.g0, I.kind, I.scope, I.glob, I.blt, I.code, I.sld, I.loc, I.locH, I.cells, I.apart, m, adr, S.1, fun y sl e => ?_, fun y z ly lz ey ez hyz => ?_⟩
  · rw [Store.lookup_put] at e
    by_cases hy : y = x
    · subst hy; rw [if_pos rfl] at e; cases e; exact ⟨v, V, R⟩
    · rw [if_neg hy] at e; exact S.2.1 y sl e
  · rw [Store.lookup_put] at ey ez
    by_cases hy : y = x
    · rw [if_pos hy] at ey; cases ey
    · by_cases hz : z = x
      · rw [if_pos hz] at ez; cases ez
      · rw [if_neg hy] at ey; rw [if_neg hz] at ez; exact S.2.2 y z ly lz ey ez hyz
theorem FrInv.more {W env h0 h a m adr} {o : Obj} (I : FrInv c W F env h0 σ h) (S : SlotsAt c W F env h0 σ h m adr) (ho : h.get? a = some o) (hn : ∀ vs k, o.data ≠ .seq vs k) (hnc : ∀ v, o.data ≠ .cell v) (hnt : ∀ ps, o ≠ tabObj ps) (hH : W.H a = none) (hL : env.locals ≠ a) :
    FrInv c (W.add a o) F env h0 σ h ∧ SlotsAt c (W.add a o) F env h0 σ h m adr := by
  have le := Wd.le_add (W := W) o hH
  have off : ∀ b, b ≠ a → (W.add a o).H b = W.H b := fun b hb => if_neg hb
  obtain ⟨hns, hsl, hdis⟩ := S
  have S' : SlotsAt c (W.add a o) F env h0 σ h m adr := by
    refine ⟨hns, fun x sl q => ?_, hdis⟩
    have := hsl x sl q
    cases sl with
    | val pv => obtain ⟨v, g1, g2⟩ := this; exact ⟨v, g1, g2.mono le⟩
    | own l =>
      obtain ⟨g1, g2, g3, g4, vs, g5, g6⟩ := this
      obtain ⟨n, sl, q⟩ := id g5
      exact ⟨g1, g2, (off _ (fun r => by rw [r, ho] at q; cases q; exact hn _ _ rfl)).trans g3, g4, vs, g5, g6.mono le⟩
    | view l => obtain ⟨g0, b, vs, g1, g2, g3⟩ := this; exact ⟨g0, b, vs, g1, g2, g3.mono le⟩
  refine ⟨⟨I.inv.add ho hnt, I.ext, I.size, I.g0, I.kind, I.scope, I.glob, I.blt, I.code, fun q1 q2 x hk => let ⟨cl, o, v, e1, e2, e3⟩ := I.sld q1 q2 x hk; ⟨cl, o, v, e1, le.1 _ _ e2, e3⟩, I.loc, (off _ hL).trans I.locH, fun hw x hk => ?_, I.apart, m, adr, S'⟩, S'⟩
  obtain ⟨cl, g1, g2, g3, v, g4⟩ := I.cells hw x hk
  obtain ⟨oc, q, hdc⟩ := id g4
  exact ⟨cl, g1, g2, (off _ (fun r => by rw [r, ho] at q; cases q; exact hnc _ hdc)).trans g3, v, g4⟩

theorem store_raw {W env h0 A m adr x v} {s : Shared} {Q : Unit → Shared → Prop} {E : Value → Shared → Prop} (I : FrInv c W F env h0 σ s.heap) (S : SlotsAt c W F env h0 σ s.heap m adr) (hx : σ.lookup x = none) (hk : F.scope.names.lookup x = some .local)
    (k : ∀ s' m', FrInv c W F env h0 σ s'.heap → SlotsAt c W F env h0 σ s'.heap m' adr → m' x = some v → SPost W h0 s W s' → KeepS F env s s' → Q () s') : wpAny c.M A (storeName env x v) Q E s := by
  have hke : env.scope.kind = .function := by rw [I.scope]; exact I.kind
  have kd : env.kindOf x = some .local := by show env.scope.names.lookup x = _; rw [I.scope]; exact hk
  obtain ⟨hns, hsl, hdis⟩ := S
  obtain ⟨oL, esL, epL, hoL, hdL, rL⟩ := id hns
  have ne : ∀ {b o'}, s.heap.get? b = some o' → (∀ vs k, o'.data ≠ .dict vs k) → b ≠ env.locals := fun {b o'} q hn r => by subst r; rw [hoL] at q; cases q; exact hn _ _ hdL
  refine wpAny_storeName_local kd hns (fun h' hn' hs' => ?_) (by rw [hke]; rfl)
  have cellE : ∀ {cl v}, s.heap.IsCell cl v → h'.IsCell cl v := fun {cl v} C => by
    obtain ⟨oc, q, hdc⟩ := id C
    exact C.sameBut hs' (ne q (fun vs k r => by rw [hdc] at r; cases r))
  have S' : SlotsAt c W F env h0 σ h' (fun y => if y = x then some v else m y) adr := by
    refine ⟨hn', fun y sl q => ?_, hdis⟩
    have hyx : y ≠ x := fun r => by subst r; rw [hx] at q; cases q
    have varE : ∀ {u}, VarIs F env h0 s.heap m y u → VarIs F env h0 h' (fun y => if y = x then some v else m y) y u := fun {u} V => by
      cases V with
      | loc h1 h2 => exact .loc h1 ((if_neg hyx).trans h2)
      | own h2 cl h3 h4 => exact .own h2 cl h3 (cellE h4)
      | old h1 h2 cl h3 h4 => exact .old h1 h2 cl h3 h4
    have := hsl y sl q
    cases sl with
    | val pv => obtain ⟨v, g1, g2⟩ := this; exact ⟨v, varE g1, g2⟩
    | own l =>
      obtain ⟨g1, g2, g3, g4, vs, g5, g6⟩ := this
      obtain ⟨n, sl, q⟩ := id g5
      exact ⟨varE g1, g2, g3, g4, vs, g5.same hs' (ne q (fun vs k r => by cases r)), g6⟩
    | view l => obtain ⟨g0, b, vs, g1, g2, g3⟩ := this; exact ⟨g0, b, vs, varE g1, g2, g3⟩
  refine k _ _ ⟨I.inv.upd hs' I.locH (g_none I I.loc) ⟨oL, hoL, fun vs q => by rw [hdL] at q; cases q⟩, I.ext.same hs' I.loc, by rw [hs'.1]; exact I.size, I.g0, I.kind, I.scope, I.glob, I.blt, I.code, I.sld, I.loc, I.locH, fun hw y hy => ?_, I.apart, _, adr, S'⟩ S' (if_pos rfl)
    ⟨.refl W, fun _ _ => rfl, rfl, rfl, fun b o vs e d _ => (hs'.2 b (ne e (fun vs k q => by rw [d] at q; cases q))).trans e, fun _ _ _ _ _ _ => rfl⟩ (fun b o e h1 _ _ => (hs'.2 b h1).trans e)
  obtain ⟨cl, g1, g2, g3, v, g4⟩ := I.cells hw y hy
  exact ⟨cl, g1, g2, g3, v, cellE g4⟩

theorem ExSs.lamAttr {x xp params body scope lp sp yp attr ap sp2 e rest} {P : PFlow → Store → Prop} (ok : GOk c) (bo : BmOk c) (hm : F.maker = true) (hfree : ∀ y ∈ scope.names, y.2 ≠ .free) (hd : params.defaults = []) (hk : params.kw_defaults = []) (hx : σ.lookup x = none) (hl : F.scope.names.lookup x = some .local)
    (hno : typeLookup (.type "function") attr = pure none)
    (h : EvE c F e σ fun v => ExSs c F rest (σ.put x (.val (.fn ⟨params, .expr body, scope⟩ [] [] (some (attr, v))))) P)
    (hs : ∀ env, swapsWith e (some (.Attribute (.Name x yp) attr ap)) sp2.line env = pure false := by intro _; rfl) (hdb : (x == ("__debug__" : Str)) = false := by decide) :
    ExSs c F (.Assign [.Name x xp] (.Lambda params body scope lp) sp :: .Assign [.Attribute (.Name x yp) attr ap] e sp2 :: rest) σ P := by
  intro W env h0 A s Q E I ao k
  obtain ⟨m0, adr, S0⟩ := I.slots
  refine wpAny_execs_cons (wpAny_Assign_Name (kla_eval (by rw [defaultsOf_eq, hd, hk]; rfl) ?_))
  refine make_fn ok bo I hm (closureFor_none hfree) (fun b q => by cases q) fun fd cd a W1 s1 p1 hC1 hH1 ha1 ea1 h1 h2 h3 h4 h5 h6 h7 h8 _ h9 => ?_
  have I1 := I.post p1
  have S1 := SlotsAt.step S0 p1.step
  have Ha1 : W1.H a = none := by rw [hH1]; exact I.inv.fresh ha1
  refine store_raw I1 S1 hx hl fun s2 m2 I2 S2 hmx sp2 kp2 => ?_
  have hLa : ∀ {b ob}, s1.heap.get? b = some ob → ob.data = .func fd → b ≠ env.locals := fun {b ob} q hd r => by
    obtain ⟨oL, es, ep, q', hdL, _⟩ := S1.1
    rw [r, q'] at q; cases q; rw [hd] at hdL; cases hdL
  have ea2 : s2.heap.get? a = some { cls := .type "function", data := .func fd } := kp2 a _ ea1 (hLa ea1 rfl) (fun _ v q => by cases q) (fun ps q => by cases q)
  refine wpAny_execs_cons (plainObj_wpAny_Assign_Attribute (h I2 ao fun pv v W3 s3 hp p3 R3 => ?_) (hs env))
  have I3 := I2.post p3
  have S3 := SlotsAt.step S2 p3.step
  have kdx : env.kindOf x = some .local := by show env.scope.names.lookup x = _; rw [I.scope]; exact hl
  refine wpAny_Name (load_var I3 S3.1 (.loc kdx hmx) ?_) hdb
  have ea3 := p3.step.ext a _ ea2 (fun ps q => by cases q)
  have Ha3 : W3.H a = none := (p3.step.low a (Heap.lt_size ea2)).trans Ha1
  have h0a : h0.objs.size ≤ a := Nat.le_trans I.size ha1
  refine fn_setAttr (fd := fd) (sl := #[]) ea3 hno fun h4' tk hn4 ea4 keep4 => ?_
  have hsz4 : s3.heap.objs.size ≤ h4'.objs.size := Nat.le_of_lt hn4.lt
  obtain ⟨I4, S4⟩ := I3.but S3 ea3 rfl Ha3 h0a keep4 hsz4
  obtain ⟨od, es, ep, hod, hdd, hst, hfi⟩ := hn4
  have HD : W3.H s3.heap.objs.size = none := I3.inv.fresh (Nat.le_refl _)
  have hL3 : env.locals < s3.heap.objs.size := S3.1.lt
  obtain ⟨I5, S5⟩ := I4.more S4 hod (fun vs k q => by rw [hdd] at q; cases q) (fun v q => by rw [hdd] at q; cases q) (fun ps q => by rw [q] at hdd; cases hdd) HD (Nat.ne_of_lt hL3)
  have had : a ≠ s3.heap.objs.size := Nat.ne_of_lt (Heap.lt_size ea3)
  have Ha5 : (W3.add s3.heap.objs.size od).H a = none := (if_neg had).trans Ha3
  have hLa3 : env.locals ≠ a := fun r => by
    obtain ⟨oL, es, ep, q', hdL, _⟩ := S3.1
    rw [r, ea3] at q'; cases q'; cases hdL
  obtain ⟨I6, S6⟩ := I5.more S5 ea4 (fun vs k q => by cases q) (fun v q => by cases q) (fun ps q => by cases q) Ha5 hLa3
  have le5 : W3.le (W3.add s3.heap.objs.size od) := Wd.le_add _ HD
  have le6 := Wd.le_add (W := W3.add s3.heap.objs.size od) (a := a) ⟨.type "function", some s3.heap.objs.size, .func fd, #[]⟩ Ha5
  have RA : Rep c ((W3.add s3.heap.objs.size od).add a ⟨.type "function", some s3.heap.objs.size, .func fd, #[]⟩) (.ref a) (.fn ⟨params, .expr body, scope⟩ [] [] (some (attr, pv))) :=
    .fn a _ fd _ [] [] [] _ cd (Wd.add_self ..) rfl rfl h1 h2 h3 h4 h5 h6 h7 ((le5.trans le6).2 _ (p3.step.le.2 _ hC1)) (by rw [h8]; exact .nil) .nil (.inl ⟨rfl, h9 rfl⟩)
      (.some s3.heap.objs.size od es ep attr v pv (le6.1 _ _ (Wd.add_self ..)) hdd hst hfi (R3.mono (le5.trans le6)))
  have I7 := I6.addVar S6 (.loc kdx hmx) RA
  refine hp I7 ao fun f σ' fl W8 s8 hP I8 R8 p8 => k _ _ _ _ _ hP I8 R8 ?_
  have q1 := ((p1.sp (h0 := h0) I.size).trans sp2).trans (p3.sp I2.size)
  refine q1.trans (SPost.trans (s' := { s3 with heap := h4', toks := tk }) ⟨le5.trans le6, fun b hb => ?_, rfl, rfl, fun b o vs q d n => keep4 b o (fun r => by subst r; rw [ea3] at q; cases q; cases d) q, fun b o vs q d n => ?_⟩ p8)
  · have hb3 : b < s3.heap.objs.size := Nat.lt_of_lt_of_le hb I3.size
    exact (if_neg (Nat.ne_of_lt (Nat.lt_of_lt_of_le hb h0a))).trans (if_neg (Nat.ne_of_lt hb3))
  · exact (if_neg (fun r => by subst r; rw [ea3] at q; cases q; cases d)).trans (if_neg (Nat.ne_of_lt (Heap.lt_size q)))
end
end

section
section
variable {c : GCtx} {F : FSt} {σ : Store}

theorem RepL.ints {W} : ∀ {vs : List Value} {ns : List Int}, RepL c W vs (ns.map .int) → IntsAre vs ns
  | [], [], _ => .nil
  | [], _ :: _, h => by cases h
  | _ :: _, [], h => by cases h
  | v :: vs, n :: ns, h => by
    cases h with | cons _ _ _ _ h1 h2 =>
    cases h1
    exact .cons _ _ (RepL.ints h2)
theorem RepL.strs {W} : ∀ {vs : List Value} {ns : List (List Sym)}, RepL c W vs (ns.map .str) → StrsAre vs (ns.map (mkS c.κ))
  | [], [], _ => .nil
  | [], _ :: _, h => by cases h
  | _ :: _, [], h => by cases h
  | v :: vs, n :: ns, h => by
    cases h with | cons _ _ _ _ h1 h2 =>
    cases h1
    exact .cons _ _ (RepL.strs h2)
theorem IntsAre.items : ∀ {vs : List Value} {ns : List Int}, IntsAre vs ns → ∃ xs : List (Int × Tok), vs.toArray = intItems xs.toArray ∧ xs.map (·.1) = ns
  | _, _, .nil => ⟨[], by simp [intItems], rfl⟩
  | _, _, .cons n t h => by
    obtain ⟨xs, e1, e2⟩ := IntsAre.items h
    refine ⟨(n, t) :: xs, ?_, by simp [e2]⟩
    have := congrArg Array.toList e1
    simp [intItems] at this ⊢
    exact this

theorem BltS.chr {i : Int} {x : Sym} {P : PV → Prop} (hx : (c.κ x : Int) = i) (hlt : c.κ x < 128) (h : P (.str [x])) : BltS c (.builtin "chr") [.int i] P := by
  intro W A s vs Q E I ao R k
  obtain ⟨v, _, rfl, R1, R2⟩ := R.inv
  obtain rfl := R2.inv; obtain ⟨_, rfl⟩ := R1.inv
  refine PySem.P.chr_of_int (by simp; (first | lia | omega)) ?_
  have e : (⟨#[i.toNat]⟩ : Str) = mkS c.κ [x] := by
    show (⟨#[i.toNat]⟩ : Str) = ⟨#[c.κ x]⟩
    rw [show i.toNat = c.κ x by (first | lia | omega)]
  rw [e]
  exact k _ _ _ _ h (Post.tok I _) (.str _ _ (show 1 ≤ big by decide +kernel))
theorem BltS.sum {ns : List Int} {P : PV → Prop} (h : P (.int ns.sum)) : BltS c (.builtin "sum") [.list (ns.map .int)] P := by
  intro W A s vs Q E I ao R k
  obtain ⟨v, _, rfl, R1, R2⟩ := R.inv
  obtain rfl := R2.inv
  obtain ⟨b, o, n, ws, rfl, h1, h2, h3, h4, h5⟩ := R1.inv
  obtain ⟨xs, e1, e2⟩ := IntsAre.items (RepL.ints h4)
  have hL : s.heap.IsList b (intItems xs.toArray) := e1 ▸ ⟨o, I.froz _ _ h1, h2, n, h3⟩
  refine wpAny_size (sum_intListG ao.2.2 hL fun h' tk t' hk hs => ?_)
  rw [preSum_eq, List.take_of_length_le (by simp)]
  have : (List.map (fun x => x.fst) xs.toArray.toList).sum = ns.sum := by rw [← e2]
  rw [this]
  exact k _ _ _ _ h (Post.grow I hk hs) (.int _ _)
theorem BinS.addL {a b : List PV} {P : PV → Prop} (hl : (a ++ b).length ≤ big) (h : P (.list (a ++ b))) : BinS c .Add (.list a) (.list b) P := by
  intro W A s va vb Q E I ao Ra Rb k
  obtain ⟨x, o, n, vs, rfl, h1, h2, h3, h4, h5⟩ := Ra.inv
  obtain ⟨y, o', n', ws, rfl, g1, g2, g3, g4, g5⟩ := Rb.inv
  have hz : vs.toArray.size + ws.toArray.size ≤ sizeLine := by
    rw [List.size_toArray, List.size_toArray, h4.length, g4.length, ← List.length_append]; exact Nat.le_trans hl bigLine
  obtain ⟨cls, dd, data, sl⟩ := o
  obtain ⟨cls2, dd2, data2, sl2⟩ := o'
  simp only at h2 h3 g2 g3
  subst h2 h3 g2 g3
  have ho := I.froz _ _ h1
  have ho2 := I.froz _ _ g1
  refine concat_meets ⟨_, ho, rfl⟩ ⟨_, ho2, rfl⟩ noFill_list_add seq_list_add PySem.F.slot_list_add PySem.F.entry_list_add (PySem.F.args_list_add_2 _ _) (list_addW x y vs.toArray ws.toArray n n' dd dd2 sl sl2 hz) ⟨ho, ho2, ?_⟩
  exact k _ _ _ _ h (Post.alloc I { cls := .type "list", data := .seq (vs.toArray ++ ws.toArray) } s.toks rfl (fun ps q => by cases q))
    (.list _ _ 0 (vs ++ ws) _ (Wd.add_self ..) rfl (by simp) ((h4.append g4).mono (Wd.le_add _ (I.fresh (Nat.le_refl _)))) hl)
theorem txt_join (c : GCtx) : ∀ (xs : List (List Sym)), Str.join ⟨#[]⟩ (xs.map (mkS c.κ)) = mkS c.κ xs.flatten
  | [] => rfl
  | [x] => by simp [Str.join]
  | x :: y :: r => by
    have ih := txt_join c (y :: r)
    simp only [List.map_cons, Str.join] at ih ⊢
    rw [ih, List.flatten_cons]
    rw [show (⟨#[]⟩ : Str) = mkS c.κ [] from rfl, mkS_append, mkS_append]
    simp
theorem MthS.join {xs : List (List Sym)} {P : PV → Prop} (hl : xs.flatten.length ≤ big) (h : P (.str xs.flatten)) : MthS c "str.join" [] [.list (xs.map .str)] P := by
  intro W A s v vs Q E I ao R RL kk
  obtain ⟨_, _, rfl, r1, r2⟩ := RL.inv
  obtain rfl := r2.inv; obtain ⟨_, rfl, _⟩ := R.inv
  obtain ⟨b, o, n, ws, rfl, h1, h2, h3, h4, h5⟩ := r1.inv
  have hsum : ((xs.map (mkS c.κ)).map (·.length)).sum = xs.flatten.length := by
    rw [List.length_flatten, List.map_map]; congr 1; apply List.map_congr_left; intro x _; exact mkS_length _ _
  refine PyProof.Rows.join_list (ys := xs.map (mkS c.κ)) ⟨o, I.froz _ _ h1, h2, n, h3⟩ (RepL.strs h4) ?_ fun t' k => ?_
  · rw [hsum, mkS_length]
    have : xs.flatten.length ≤ 1048576 := hl
    rw [List.length_nil, Nat.mul_zero]; (first | lia | omega)
  · have e : Txt.join (mkS c.κ []) (xs.map (mkS c.κ)) = mkS c.κ xs.flatten := (StrLaws.glued_eq_join _ _).trans (txt_join c xs)
    rw [e]; exact kk _ _ _ _ h (Post.tok I _) (.str _ _ hl)
end
end

section
section
variable {c : GCtx} {F : FSt} {σ : Store}

theorem RepL.readsI {W} {h : Heap} : ∀ {vs : List Value} {ns : List Int}, RepL c W vs (ns.map .int) → ∃ as, ReadsAll h vs (ns.map fun x => .int x) as
  | [], [], _ => ⟨_, .nil⟩
  | [], _ :: _, h => by cases h
  | _ :: _, [], h => by cases h
  | v :: vs, n :: ns, hh => by
    cases hh with | cons _ _ _ _ h1 h2 =>
    cases h1
    obtain ⟨as, h3⟩ := RepL.readsI h2
    exact ⟨_, .cons (.int _ _) h3⟩
theorem lay_ints : ∀ (xs : List Int), PyData.canLayAll0 (xs.map fun x => .int x) = true
  | [] => rfl
  | x :: xs => by
    simp only [List.map_cons, PyData.canLayAll0, PyData.canLay0, Bool.true_and]
    exact lay_ints xs
theorem depth_ints : ∀ (xs : List Int), PyData.depthAll (xs.map fun x => .int x) = 0
  | [] => rfl
  | x :: xs => by
    simp only [List.map_cons, PyData.depthAll, PyData.depth, depth_ints xs]; rfl
theorem eqv_ints : ∀ (xs ys : List Int), PyData.eqvAll (xs.map fun x => .int x) (ys.map fun x => .int x) = decide (xs = ys)
  | [], [] => by simp [PyData.eqvAll]
  | [], _ :: _ => by simp [PyData.eqvAll]
  | _ :: _, [] => by simp [PyData.eqvAll]
  | x :: xs, y :: ys => by
    simp only [List.map_cons, PyData.eqvAll, PyData.eqv, eqv_ints xs ys]
    rw [Bool.eq_iff_iff]; simp
theorem CmpS.eqLI {xs ys : List Int} {P : Bool → Prop} (h : P (decide (xs = ys))) : CmpS c .Eq (.list (xs.map .int)) (.list (ys.map .int)) P := by
  intro W A s va vb Q E I ao Ra Rb k
  obtain ⟨b, o, n, ws, rfl, h1, h2, h3, h4, h5⟩ := Ra.inv
  obtain ⟨b', o', n', ws', rfl, g1, g2, g3, g4, g5⟩ := Rb.inv
  obtain ⟨as, R⟩ := RepL.readsI (h := s.heap) h4
  obtain ⟨as', R'⟩ := RepL.readsI (h := s.heap) g4
  refine PySem.SeqAt.compareEq_reads (.list (I.froz _ _ h1) h2 h3 R) (.list (I.froz _ _ g1) g2 g3 R') (by simp only [PyData.canLay0]; exact lay_ints xs) (by simp only [PyData.canLay0]; exact lay_ints ys) ?_ ?_
  · have := ao.2.1
    simp only [PyData.depth, depth_ints]; (first | lia | omega)
  · rw [show PyData.eqv (.list (xs.map fun x => .int x)) (.list (ys.map fun x => .int x)) = decide (xs = ys) by simp only [PyData.eqv]; exact eqv_ints xs ys]
    exact k _ _ _ h (.refl I)
theorem CmpS.neLI {xs ys : List Int} {P : Bool → Prop} (h : P (!decide (xs = ys))) : CmpS c .NotEq (.list (xs.map .int)) (.list (ys.map .int)) P := by
  intro W A s va vb Q E I ao Ra Rb k
  obtain ⟨b, o, n, ws, rfl, h1, h2, h3, h4, h5⟩ := Ra.inv
  obtain ⟨b', o', n', ws', rfl, g1, g2, g3, g4, g5⟩ := Rb.inv
  obtain ⟨as, R⟩ := RepL.readsI (h := s.heap) h4
  obtain ⟨as', R'⟩ := RepL.readsI (h := s.heap) g4
  refine PySem.SeqAt.compareNe_reads (.list (I.froz _ _ h1) h2 h3 R) (.list (I.froz _ _ g1) g2 g3 R') (by simp only [PyData.canLay0]; exact lay_ints xs) (by simp only [PyData.canLay0]; exact lay_ints ys) ?_ ?_
  · have := ao.2.1
    simp only [PyData.depth, depth_ints]; (first | lia | omega)
  · rw [show PyData.eqv (.list (xs.map fun x => .int x)) (.list (ys.map fun x => .int x)) = decide (xs = ys) by simp only [PyData.eqv]; exact eqv_ints xs ys]
    exact k _ _ _ h (.refl I)
theorem type_bool : typeOf (.type "bool") = pure (.type "type") := by kernel_rfl
theorem EvE.isBool {f fp e g gp pos} {P : PV → Prop} (ok : GOk c) (hb : Blt c f (.builtin "isinstance")) (hg : Blt c g (.type "bool")) (h : EvE c F e σ fun v => ∃ i, v = .int i ∧ P (.bool false)) (hk : F.scope.names.lookup f = some .globalImplicit) (hkg : F.scope.names.lookup g = some .globalImplicit)
    (hn : noStar [e] = true := by rfl) (hd : (f == ("__debug__" : Str)) = false := by decide) (hdg : (g == ("__debug__" : Str)) = false := by decide) : EvE c F (.Call (.Name f fp) [e, .Name g gp] [] pos) σ P := by
  intro W env h0 A s Q E I ao kk
  show wpAny _ _ (eval (.Name f fp) env >>= fun f => callWith pos f [] (backTo pos (starEach [e, .Name g gp] env)) (backToKw pos (keywordEach [] env))) Q E s
  refine wpAny_bind (load_blt ok I hb hk ?_ hd)
  have hn2 : noStar [e, .Name g gp] = true := by cases e <;> first | rfl | cases hn
  refine callWith_flat trivial (starEach_all pos hn2) ?_
  obtain ⟨e1, e2⟩ := starEach_cons (env := env) hn2
  rw [e1, backTo_cons]
  refine spliced_cons (h I ao fun v vv W1 s1 h1 p1 R1 => ?_)
  refine spliced_cons (load_blt ok (I.post p1) hg hkg (spliced_nil ?_) hdg)
  obtain ⟨i, rfl, hP⟩ := h1
  obtain ⟨_, rfl⟩ := R1.inv
  exact call_isinstance (isinstance_false_int (by decide) type_bool PyProof.Rows.sub_int_bool) (kk _ _ _ _ hP (p1.trans (Post.tok p1.inv _)) (.bool _))
end
end

section
section
variable {c : GCtx} {F : FSt} {σ : Store}

noncomputable def EvGL (c : GCtx) (F : FSt) : List Expr → Store → (List Slot → Prop) → Prop
  | [], _, P => P []
  | e :: es, σ, P => EvG c F e σ fun sl => EvGL c F es σ fun sls => P (sl :: sls)
structure GAll (c : GCtx) (W : Wd) (n : Nat) (h : Heap) (ps : List (Value × Slot)) : Prop where
  rep : ∀ p ∈ ps, GRep c W n h p.1 p.2
  apart : ps.Pairwise fun p q => ∀ l l', p.2 = .own l → q.2 = .own l' → p.1 ≠ q.1
theorem GAll.nil {W n h} : GAll c W n h [] := ⟨(fun _ h => by cases h), List.Pairwise.nil⟩
theorem GRep.le {W n n' h v sl} (G : GRep c W n' h v sl) (hn : n ≤ n') : GRep c W n h v sl := by
  cases sl with
  | val pv => exact G
  | own l => obtain ⟨h1, a, vs, h2, h3, r⟩ := G; exact ⟨h1, a, vs, h2, Nat.le_trans hn h3, r⟩
  | view l => exact G
theorem GAll.reverse {W n h ps} (G : GAll c W n h ps) : GAll c W n h ps.reverse :=
  ⟨fun p hp => G.rep p (List.mem_reverse.mp hp), by
    rw [List.pairwise_reverse]
    exact G.apart.imp fun h l l' e1 e2 => (h l' l e2 e1).symm⟩
theorem EvGL.run : ∀ {es : List Expr} {P : List Slot → Prop}, EvGL c F es σ P → noStar es = true → ∀ {W env h0 A s} {Q : List Value → Shared → Prop} {E : Value → Shared → Prop} (pos : Pos), FrInv c W F env h0 σ s.heap → AOk F.n A →
    (∀ ps W' s', P (ps.map (·.2)) → Post c W s W' s' → GAll c W' s.heap.objs.size s'.heap ps → Q (ps.map (·.1)) s') → wpAny c.M A (spliced (backTo pos (starEach es env))) Q E s
  | [], P, h, _, W, env, h0, A, s, Q, E, pos, I, ao, k => spliced_nil (k [] _ _ h (.refl I.inv) .nil)
  | e :: es, P, h, hn, W, env, h0, A, s, Q, E, pos, I, ao, k => by
    obtain ⟨e1, e2⟩ := starEach_cons (env := env) hn
    rw [e1, backTo_cons]
    refine spliced_cons (h I ao fun sl v W1 s1 h1 p1 G1 => ?_)
    refine EvGL.run h1 e2 pos (I.post p1) ao fun ps W2 s2 h2 p2 G2 => ?_
    refine k ((v, sl) :: ps) _ _ h2 (p1.trans p2) ⟨fun p hp => ?_, .cons (fun q hq l l' r1 r2 => ?_) G2.apart⟩
    · rcases List.mem_cons.mp hp with rfl | hp
      · exact G1.step p2.step
      · exact (G2.rep p hp).le p1.step.size
    · have g2 := G2.rep q hq
      dsimp only at r1
      subst r1
      rw [r2] at g2
      obtain ⟨_, a, vs, q1, q2, q3, q4, _⟩ := G1
      obtain ⟨_, a', vs', q1', q2', _⟩ := g2
      intro q; rw [q1, q1'] at q; cases q
      exact absurd q4.lt (Nat.not_lt.mpr q2')

noncomputable def putAllS (σ : Store) : List Str → List Slot → Store
  | x :: xs, v :: vs => putAllS (σ.put x v) xs vs
  | _, _ => σ

theorem assign_allG {W env h0 A n} : ∀ {xs : List Str} {ts : List (Value → Sem Unit)} {ps : List (Value × Slot)} {σ : Store} {s : Shared} {m adr} {Q : Unit → Shared → Prop} {E : Value → Shared → Prop},
    (∀ x ∈ xs, Storable F x) → (All2 (fun (x : Str) (t : Value → Sem Unit) => ∀ v s Q E, wpAny c.M A (storeName env x v) Q E s → wpAny c.M A (t v) Q E s) xs ts) → GAll c W n s.heap ps → FrInv c W F env h0 σ s.heap → SlotsAt c W F env h0 σ s.heap m adr → h0.objs.size ≤ n →
    (∀ y l, σ.lookup y = some (.own l) → ∀ p ∈ ps, ∀ l', p.2 = .own l' → p.1 ≠ .ref (adr y)) →
    (∀ s', FrInv c W F env h0 (putAllS σ xs (ps.map (·.2))) s'.heap → SPost W h0 s W s' → Q () s') → wpAny c.M A (assignInOrder ts (ps.map (·.1))) Q E s
  | [], _, ps, σ, s, m, adr, Q, E, _, hT, G, I, S, hn, hb, k => by
    cases hT
    have : assignInOrder [] (ps.map (·.1)) = pure () := by cases ps <;> rfl
    rw [this]; exact wpAny_pure (k s (by cases ps <;> exact I) (.refl _ _ _))
  | x :: xs, _, ps, σ, s, m, adr, Q, E, hs, hT, G, I, S, hn, hb, k => by
    cases hT with | cons h1 h2 =>
    cases ps with
    | nil => exact wpAny_pure (k s I (.refl _ _ _))
    | cons p ps =>
      obtain ⟨v, sl⟩ := p
      show wpAny _ _ (holding (ps.map (·.1)) _ >>= fun _ => assignInOrder _ (ps.map (·.1))) Q E s
      refine wpAny_bind (wpAny_holding (h1 _ _ _ _ (store_slot I S (n := n) (fun y l l' e1 e2 => hb y l e2 _ List.mem_cons_self l' e1) hn (hs x List.mem_cons_self) (G.rep _ List.mem_cons_self) fun s' m' J p' kp => ?_)))
      have hap := List.pairwise_cons.mp G.apart
      refine assign_allG (fun y hy => hs y (List.mem_cons_of_mem _ hy)) h2 ⟨fun q hq => ?_, hap.2⟩ J.1 J.2 hn (fun y l ey q hq l' e => ?_) fun s'' I'' p'' => k _ I'' (p'.trans p'')
      · have g := G.rep q (List.mem_cons_of_mem _ hq)
        obtain ⟨u, slu⟩ := q
        cases slu with
        | val pv => exact g
        | own l =>
          obtain ⟨q1, a, vs, q2, q3, q4, ⟨nn, ss, q5⟩, q6⟩ := g
          have hL : a ≠ env.locals := fun r => by
            obtain ⟨oL, es, ep, e', hdL, _⟩ := S.1
            rw [← r, q5] at e'; cases e'; cases hdL
          exact ⟨q1, a, vs, q2, q3, q4, ⟨nn, ss, kp a _ q5 hL (fun _ v q => by cases q) (fun ps q => by cases q)⟩, q6⟩
        | view l => exact g
      · rw [Store.lookup_put] at ey
        by_cases hy : y = x
        · rw [if_pos hy] at ey; cases ey
          simp only [hy, if_true]
          obtain ⟨_, a, _, q2, _⟩ := G.rep _ List.mem_cons_self
          dsimp only at q2
          subst q2
          exact (hap.1 q hq _ _ rfl e).symm
        · rw [if_neg hy] at ey
          simp only [hy, if_false]
          exact hb y l ey q (List.mem_cons_of_mem _ hq) l' e

theorem ExS.swapTupG {es n tp fs n' tp' pos xs} {P : PFlow → Store → Prop} (hs : ∀ x ∈ xs, Storable F x) (h : EvGL c F fs σ fun sls => sls.length = xs.length ∧ sls.length ≤ big ∧ P .next (putAllS σ xs.reverse sls.reverse)) (hn : noStar fs = true := by rfl)
    (hw : ∀ env : Env, env.scope = F.scope → swappedStores [.Tuple es n tp] (.Tuple fs n' tp') env = pure (some xs)) (hsw : ∀ env, swapsWithSole [.Tuple es n tp] (.Tuple fs n' tp') pos.line env = pure false := by intro _; rfl) : ExS c F (.Assign [.Tuple es n tp] (.Tuple fs n' tp') pos) σ P := by
  intro W env h0 A s Q E I ao k
  obtain ⟨m, adr, S⟩ := I.slots
  refine PyProof.Rows.Assign_Tuple_swapped (names := xs) (PyProof.Rows.Tuple_ (EvGL.run h hn tp' I ao fun ps W1 s1 h1 p1 G1 => ?_)) (hsw env) (hw env I.scope)
  have hl : (ps.map (·.1)).length ≤ big := by have := h1.2.1; simpa using this
  refine wpAny_newTuple ?_ (Nat.le_trans hl bigLine)
  have p2 : Post c W1 s1 W1 { s1 with heap := s1.heap.push { cls := .type "tuple", data := .seq (ps.map (·.1)).toArray } } := Post.push p1.inv _ _
  have hT : IsTup (s1.heap.push { cls := .type "tuple", data := .seq (ps.map (·.1)).toArray }) s1.heap.objs.size (ps.map (·.1)).toArray := ⟨_, Heap.get?_push_size _ rfl, rfl, 0, rfl⟩
  rw [show xs.length = (ps.map (·.1)).toArray.size by rw [List.size_toArray, ← h1.1]; simp]
  refine wpAny_size (PyProof.Rows.unpackItems_tuple ao.2.2 hT fun h' he hsz => ?_)
  have hk : ∀ b ob, (s1.heap.push { cls := .type "tuple", data := .seq (ps.map (·.1)).toArray }).get? b = some ob → h'.get? b = some ob := fun b ob e => he b ob (Nat.ne_of_lt (Heap.lt_size e)) e
  have p3 := Post.grow (s := { s1 with heap := s1.heap.push { cls := .type "tuple", data := .seq (ps.map (·.1)).toArray } }) (s' := { s1 with heap := h' }) p2.inv hk hsz
  have pp := (p1.trans p2).trans p3
  rw [List.toList_toArray]
  have hT2 : All2 (fun (x : Str) (t : Value → Sem Unit) => ∀ v s Q E, wpAny c.M A (storeName env x v) Q E s → wpAny c.M A (t v) Q E s) xs.reverse (xs.reverse.map fun n => bindName env n) := by
    have : ∀ l : List Str, All2 (fun (x : Str) (t : Value → Sem Unit) => ∀ v s Q E, wpAny c.M A (storeName env x v) Q E s → wpAny c.M A (t v) Q E s) l (l.map fun n => bindName env n) := by
      intro l; induction l with
      | nil => exact .nil
      | cons x l ih => exact .cons (fun v s Q E h => wpAny_bindName h) ih
    exact this _
  have G3 : GAll c W1 s.heap.objs.size h' ps := ⟨fun p hp => (G1.rep p hp).step (p2.trans p3).step, G1.apart⟩
  rw [← List.map_reverse]
  refine assign_allG (fun x hx => hs x (List.mem_reverse.mp hx)) hT2 G3.reverse (I.post pp) (SlotsAt.step S pp.step) I.size (fun y l ey p hp l' e => ?_) fun s' I' p' => k _ _ _ _ _ h1.2.2 (by rw [← List.map_reverse]; exact I') .next ((pp.sp I.size).trans p')
  have g := G3.reverse.rep p hp
  rw [e] at g
  obtain ⟨_, a, _, q2, q3, _⟩ := g
  intro q
  rw [q2] at q; cases q
  exact absurd (SlotsAt.lt S ey) (Nat.not_lt.mpr q3)
end
end

section
section
variable {c : GCtx} {F : FSt} {σ : Store}

theorem CallS.fnD {r : FnRec} {caps attr n p q dfs v} {d : Int} {P : Int → PV → Prop} (U : Int → Prop) (ok : GOk c) (hp : r.params = ⟨[], [p, q], none, [], [], none, dfs⟩) (hne : q.arg ≠ p.arg) (hS : ScOk r.scope caps) (hst : Storable ⟨r.scope, n, true, true⟩ p.arg ∧ Storable ⟨r.scope, n, true, true⟩ q.arg) (hd : U d)
    (h : ∀ u, U u → match r.body with
      | .stmts body => ExSs c ⟨r.scope, n, true, true⟩ body (((capσ caps).put p.arg (.val v)).put q.arg (.val (.int u))) fun f _ => match f with | .ret v => P u v | .next => P u .none | _ => False
      | .expr e => EvE c ⟨r.scope, n, true, true⟩ e (((capσ caps).put p.arg (.val v)).put q.arg (.val (.int u))) (P u)) :
    CallS c (n + 1) (.fn r caps [.int d] attr) [v] (P d) ∧ ∀ u, U u → CallS c (n + 1) (.fn r caps [.int d] attr) [v, .int u] (P u) :=
  ⟨CallS.fnD1 ok hp hne hS hst (h d hd), fun u hu => CallS.fnD2 ok hp hne hS hst (h u hu)⟩

theorem EvGL.nil {P : List Slot → Prop} (h : P []) : EvGL c F [] σ P := h
theorem EvGL.cons {e es} {P : List Slot → Prop} (h : EvG c F e σ fun sl => EvGL c F es σ fun sls => P (sl :: sls)) : EvGL c F (e :: es) σ P := h
theorem EvGL.consV {e es} {P : List Slot → Prop} (h : EvE c F e σ fun v => EvGL c F es σ fun sls => P (.val v :: sls)) : EvGL c F (e :: es) σ P := EvG.val h
theorem compOk_of {scope : Scope} (ho : F.own = true) (h : (decide (scope.kind = .function) && scope.names.all (fun p => decide (p.2 ≠ .cell)) && decide (scope.names.map (·.1)).Nodup &&
    scope.names.all (fun p => decide (p.2 ≠ .free) || (!(p.1 == ("__classdict__" : Str)) && decide (F.scope.names.lookup p.1 = some .cell)))) = true) : CompOk F σ scope := by
  simp only [Bool.and_eq_true, decide_eq_true_eq, List.all_eq_true, Bool.or_eq_true, Bool.not_eq_true'] at h
  refine ⟨h.1.1.1, h.1.1.2, h.1.2, fun x hx => ?_⟩
  have := h.2 _ hx
  rcases this with q | q
  · exact absurd rfl q
  · exact ⟨q.1, .inl ⟨ho, q.2⟩⟩

theorem IfsS.nil {P : Bool → Prop} (h : P true) : IfsS c F [] σ P := h
theorem CompG.nil {elt acc} {K : List PV → Prop} (h : EvE c F elt σ fun v => (acc ++ [v]).length ≤ big ∧ K (acc ++ [v])) : CompG c F elt [] σ acc K := h
theorem CompI.listIf {α : Type} {body : Store → List PV → (List PV → Prop) → Prop} {x : Str} {ifs : List Expr} {K : List PV → Prop} (items : List α) (g : α → PV) (p : α → Bool) (h : α → PV) (hn : items.length ≤ 1000)
    (hb : ∀ k ∈ items, ∀ acc : List PV, acc.length ≤ 1000 → ∀ K' : List PV → Prop, K' (if p k then acc ++ [h k] else acc) → IfsS c F ifs (σ.put x (.val (g k))) fun b => if b then body (σ.put x (.val (g k))) acc K' else K' acc)
    (hK : K ((items.filter p).map h)) : CompI c F body x ifs σ (items.map g) [] K := by
  have key : ∀ (xs : List α) (acc : List PV), acc.length + xs.length ≤ 1000 → (∀ k ∈ xs, k ∈ items) → K (acc ++ (xs.filter p).map h) → CompI c F body x ifs σ (xs.map g) acc K := by
    intro xs
    induction xs with
    | nil => intro acc _ _ hK; simp only [List.map_nil, CompI]; simpa using hK
    | cons k xs ih =>
      intro acc hl hx hK
      simp only [List.length_cons] at hl
      simp only [List.map_cons, CompI]
      refine hb k (hx k List.mem_cons_self) acc (by (first | lia | omega)) _ ?_
      refine ih _ ?_ (fun y hy => hx y (List.mem_cons_of_mem _ hy)) ?_
      · split
        · simp; (first | lia | omega)
        · (first | lia | omega)
      · rw [List.filter_cons] at hK
        cases hp : p k with
        | true => rw [hp] at hK; simpa using hK
        | false => rw [hp] at hK; simpa using hK
  exact key items [] (by simpa using hn) (fun k hk => hk) (by simpa using hK)
theorem scOk_caps {sc : Scope} {caps : List (Str × PV)} (h : (decide (sc.kind = .function) && decide (sc.names.map (·.1)).Nodup && !sc.isCoroutine && !sc.isGenerator) = true)
    (hf : ∀ x ∈ caps.map (·.1), sc.names.lookup x = some .free ∧ (x == ("__classdict__" : Str)) = false) : ScOk sc caps := by
  simp only [Bool.and_eq_true, decide_eq_true_eq, Bool.not_eq_true'] at h
  exact ⟨h.1.1.1, h.1.1.2, hf, h.1.2, h.2⟩
end
end

section
theorem fdivN (a b : Nat) : ((a : Int).fdiv (b : Int)) = ((a / b : Nat) : Int) := by
  rw [Int.fdiv_eq_ediv_of_nonneg _ (by (first | lia | omega))]; rfl
theorem fdivN2 (a : Nat) : ((a : Int).fdiv 2) = ((a / 2 : Nat) : Int) := fdivN a 2
section
variable {c : GCtx} {F : FSt} {σ : Store}

theorem ForS.list {α : Type} {t body} {P : PFlow → Store → Prop} (items : List α) (g : α → PV) (J : Nat → Store → Prop) (h0 : J 0 σ) (fin : ∀ σ', J items.length σ' → P .next σ') (turn : ∀ i x σ', items[i]? = some x → i < items.length → J i σ' → TurnS c F t body (g x) σ' P (J (i + 1))) :
    ForS c F t body P (items.map g) σ := by
  refine ForS.inv (fun its σ' => ∃ i, i ≤ items.length ∧ its = (items.map g).drop i ∧ J i σ') ?_ ?_ _ σ ⟨0, Nat.zero_le _, by simp, h0⟩
  · rintro σ' ⟨i, hi, e, hJ⟩
    have : i = items.length := by
      have := congrArg List.length e
      simp at this; (first | lia | omega)
    subst this; exact fin σ' hJ
  · rintro x xs σ' ⟨i, hi, e, hJ⟩
    have hlt : i < items.length := by
      rcases Nat.lt_or_ge i items.length with q | q
      · exact q
      · rw [List.drop_eq_nil_of_le (by simpa using q)] at e; cases e
    rw [List.drop_eq_getElem_cons (by simpa using hlt)] at e
    simp only [List.getElem_map, List.cons.injEq] at e
    obtain ⟨rfl, rfl⟩ := e
    refine (turn i items[i] σ' (List.getElem?_eq_getElem hlt) hlt hJ).mono fun σ1 h1 => h1.mono fun f σ2 h2 => ?_
    cases f with
    | next => exact ⟨i + 1, hlt, rfl, h2⟩
    | cont => exact ⟨i + 1, hlt, rfl, h2⟩
    | brk => exact h2
    | ret v => exact h2
theorem small63 {k n : Nat} (hk : k < n) (hn : n ≤ 1000) : -(2 ^ 63 : Int) ≤ (k : Int) ∧ (k : Int) < 2 ^ 63 := by (first | lia | omega)
theorem seqIndexN {k n : Nat} (h : k < n) : seqIndex? (k : Int) n = some k := by
  unfold seqIndex?
  simp; (first | lia | omega)
theorem IdxS.strN {s : List Sym} {k : Nat} {x : Sym} {P : PV → Prop} (hs : s.length ≤ 1000) (hk : k < s.length) (hx : s[k]? = some x) (h : P (.str [x])) : IdxS c (.str s) (.int k) P :=
  IdxS.str k (small63 hk hs) (seqIndexN hk) hx h
theorem IdxS.listN {xs : List PV} {k : Nat} {x : PV} {P : PV → Prop} (hs : xs.length ≤ 1000) (hk : k < xs.length) (hx : xs[k]? = some x) (h : P x) : IdxS c (.list xs) (.int k) P :=
  IdxS.list k (small63 hk hs) (seqIndexN hk) hx h
theorem IterP.rangeN {n : Nat} {P : List PV → Prop} (hn : n ≤ 1000) (h : P (rangeL 0 n 1)) : IterP (.range 0 n 1) P :=
  IterP.range (range_small 0 n (by (first | lia | omega)) (by (first | lia | omega))) h
theorem bigSnoc {acc : List PV} {x : PV} (h : acc.length ≤ 1000) : (acc ++ [x]).length ≤ big := by
  refine Nat.le_trans (m := 1001) ?_ (by decide +kernel)
  simp; (first | lia | omega)
end
end

section
section
variable {c : GCtx} {F : FSt} {σ : Store}

theorem IterP.forN {t body} {P : PFlow → Store → Prop} {n : Nat} (J : Nat → Store → Prop) (hn : n ≤ 1000) (h0 : J 0 σ) (fin : ∀ σ', J n σ' → P .next σ') (turn : ∀ i σ', i < n → J i σ' → TurnS c F t body (.int i) σ' P (J (i + 1))) :
    IterP (.range 0 n 1) fun items => ForS c F t body P items σ := IterP.rangeN hn (ForS.range n J h0 fin turn)

end
end

section
section
variable {c : GCtx}
theorem repL_ints {W} : ∀ {vs : List Value} {ns : List Int}, IntsAre vs ns → RepL c W vs (ns.map .int)
  | _, _, .nil => .nil
  | _, _, .cons n t h => .cons _ _ _ _ (.int n t) (repL_ints h)
theorem perm_sorted_eq : ∀ {xs ys : List Int}, ys.Perm xs → xs.Pairwise (· ≤ ·) → ys.Pairwise (· ≤ ·) → ys = xs
  | [], ys, h, _, _ => h.eq_nil
  | x :: xs, [], h, _, _ => by have := h.length_eq; simp at this
  | x :: xs, y :: ys, h, hx, hy => by
    have h1 : x ≤ y := by
      rcases List.mem_cons.mp (h.mem_iff.mp (List.mem_cons_self : y ∈ y :: ys)) with e | e
      · exact Int.le_of_eq e.symm
      · exact List.rel_of_pairwise_cons hx e
    have h2 : y ≤ x := by
      rcases List.mem_cons.mp (h.mem_iff.mpr (List.mem_cons_self : x ∈ x :: xs)) with e | e
      · exact Int.le_of_eq e.symm
      · exact List.rel_of_pairwise_cons hy e
    have e : y = x := Int.le_antisymm h2 h1
    subst e
    rw [perm_sorted_eq h.cons_inv hx.of_cons hy.of_cons]
theorem BltG.sortedI {ns : List Int} {P : Slot → Prop} (hx : ns.length < 64) (hs : ns.Pairwise (· ≤ ·)) (h : P (.own (ns.map .int))) : BltG c (.builtin "sorted") [.list (ns.map .int)] P := by
  intro W A s vs Q E I ao R k
  obtain ⟨v, _, rfl, R1, R2⟩ := R.inv
  obtain rfl := R2.inv
  obtain ⟨a, o, n, ws, rfl, e1, e2, e3, R3, hb⟩ := R1.inv
  have hI := R3.ints
  have hlw : ws.length = ns.length := by have := R3.length; rwa [List.length_map] at this
  refine sorted_ints ⟨o, I.froz _ _ e1, e2, n, e3⟩ hI (by (first | lia | omega)) fun out ns' a1 a2 a3 => ?_
  have := perm_sorted_eq a2 hs a3
  subst this
  obtain ⟨e, he⟩ := sortedAll_at s.heap ws out
  have hle : s.heap.objs.size ≤ (sortedAll s.heap ws out).objs.size := Nat.le_of_lt (Nat.lt_of_succ_lt (Heap.lt_size he))
  refine k _ _ _ _ h (Post.grow I (fun b o eb => sortedAll_old eb) hle) ⟨?_, _, out.toList, rfl, Nat.le_succ _, I.fresh (Nat.le_succ _), ⟨e, #[], by rw [Array.toArray_toList]; exact he⟩, repL_ints a1⟩
  rw [List.length_map]; exact Nat.le_trans (Nat.le_of_lt hx) (by decide +kernel)
end
end

section
noncomputable def scost (low : Sym → Sym) (x y : Sym) : Int := if x = y then 0 else if low x = low y then 1 else 2

noncomputable def preLen : List Sym → List Sym → Nat
  | x :: a, y :: b => if x = y then preLen a b + 1 else 0
  | _, _ => 0

structure IS where
  row : List Int
  dist : Int
  res : Int
  mn : Int

noncomputable def istep (low : Sym → Sym) (ch x : Sym) (i : Nat) (s : IS) : IS :=
  let d := s.row.getD i 0
  let r := min (min s.res d + 2) (s.dist + scost low ch x)
  ⟨s.row.set i r, d, r, if r < s.mn then r else s.mn⟩
noncomputable def iters (low : Sym → Sym) (ch : Sym) (a : List Sym) (s : IS) : Nat → IS
  | 0 => s
  | i + 1 => istep low ch (a.getD i 0) i (iters low ch a s i)
noncomputable def maxsize : Int := 9223372036854775807
noncomputable def outer (low : Sym → Sym) (a : List Sym) (m : Int) : List Sym → Nat → List Int → Int → Int
  | [], _, _, res => res
  | ch :: bs, j, row, _ =>
    let s := iters low ch a ⟨row, j * 2, j * 2, maxsize⟩ a.length
    if s.mn > m then m + 1 else outer low a m bs (j + 1) s.row s.res
noncomputable def levRow (n : Nat) : List Int := (List.range n).map fun (i : Nat) => (2 : Int) + 2 * i
noncomputable def levCore (low : Sym → Sym) (a b : List Sym) (m : Int) : Int :=
  if ((b.length : Int) - a.length) * 2 > m then m + 1 else outer low a m b 0 (levRow a.length) 0
noncomputable def levCut (low : Sym → Sym) (a b : List Sym) (m : Int) : Int :=
  if a = [] ∨ b = [] then 2 * ((a.length : Int) + b.length)
  else if a.length > 40 ∨ b.length > 40 then m + 1
  else if b.length < a.length then levCore low b a m else levCore low a b m
noncomputable def post (a b : List Sym) : Nat := preLen a.reverse b.reverse
noncomputable def lev (low : Sym → Sym) (a b : List Sym) (m : Int) : Int :=
  if a = b then 0 else
  let a1 := a.drop (preLen a b)
  let b1 := b.drop (preLen a b)
  levCut low (a1.take (a1.length - post a1 b1)) (b1.take (b1.length - post a1 b1)) m

theorem iters_len (low : Sym → Sym) (ch : Sym) (a : List Sym) (s : IS) : ∀ i, (iters low ch a s i).row.length = s.row.length
  | 0 => rfl
  | i + 1 => by simp only [iters, istep, List.length_set]; exact iters_len low ch a s i

theorem slc_from {α : Type} (l : List α) (k : Nat) : slc (some (k : Int)) none l = l.drop k := by
  unfold slc
  simp only [Option.elim, clipAt_nat]
  by_cases h : k ≤ l.length
  · rw [Nat.min_eq_left h, List.take_of_length_le (by simp)]
  · rw [Nat.min_eq_right (by (first | lia | omega)), List.drop_length, List.drop_eq_nil_of_le (by (first | lia | omega))]; simp
theorem slc_upto {α : Type} (l : List α) (k : Nat) : slc none (some (k : Int)) l = l.take k := by
  unfold slc
  simp only [Option.elim, clipAt_nat, List.drop_zero, Nat.sub_zero]
  by_cases h : k ≤ l.length
  · rw [Nat.min_eq_left h]
  · rw [Nat.min_eq_right (by (first | lia | omega)), List.take_length, List.take_of_length_le (by (first | lia | omega))]
theorem slc_neg {α : Type} (l : List α) (k : Nat) (hk : 1 ≤ k) : slc none (some (-(k : Int))) l = l.take (l.length - k) := by
  unfold slc
  simp only [Option.elim, clipAt_neg _ _ hk, List.drop_zero, Nat.sub_zero]
theorem slc_all {α : Type} (l : List α) : slc none none l = l := by unfold slc; simp
theorem slc_post {α : Type} (l : List α) (k : Nat) : slc none (if decide (-(k : Int) ≠ 0) = true then some (-(k : Int)) else none) l = l.take (l.length - k) := by
  cases k with
  | zero => simp [slc_all]
  | succ k =>
    rw [if_pos (by simp; (first | lia | omega)), slc_neg _ _ (by (first | lia | omega))]

theorem seqIndex_nat (k n : Nat) (h : k < n) : seqIndex? (k : Int) n = some k := by
  unfold seqIndex?
  simp; (first | lia | omega)
theorem seqIndex_neg' (k n : Nat) (h1 : 1 ≤ k) (h : k ≤ n) : seqIndex? (-(k : Int)) n = some (n - k) := by
  rw [PySem.seqIndex_neg (by (first | lia | omega)) (by (first | lia | omega))]
  congr 1; (first | lia | omega)
theorem rangeSize_2 (n : Nat) : Builtin.Range.rangeSize 2 (2 * ((n : Int) + 1)) 2 = n := by
  unfold Builtin.Range.rangeSize
  simp only [show ((2 : Int) > 0) = True from by simp, if_true]
  split <;> (first | lia | omega)
theorem range_small2 (n : Nat) (hn : n ≤ 1000) : Builtin.Range.small 2 (2 * ((n : Int) + 1)) 2 = true := by
  unfold Builtin.Range.small
  rw [rangeSize_2]
  unfold Builtin.Range.rangeFitsLong
  simp only [Bool.and_eq_true, Bool.or_eq_true, decide_eq_true_eq]
  refine ⟨⟨⟨⟨?_, ?_⟩, ?_⟩, ?_⟩, Or.inr ?_⟩ <;> (try rw [if_pos (by (first | lia | omega))]) <;> (try simp only [Bool.and_eq_true, decide_eq_true_eq]) <;> (first | lia | omega)
theorem rangeL_2 (n : Nat) : rangeL 2 (2 * ((n : Int) + 1)) 2 = (levRow n).map PV.int := by
  unfold rangeL levRow
  rw [rangeSize_2]; simp [List.map_map, Function.comp_def]
end

section
noncomputable def scN (low : Sym → Sym) (x y : Sym) : Nat := if x = y then 0 else if low x = low y then 1 else 2
theorem scN_cost (low : Sym → Sym) (x y : Sym) : scost low x y = (scN low x y : Int) := by
  unfold scost scN; split <;> (try split) <;> rfl
theorem scN_comm (low : Sym → Sym) (x y : Sym) : scN low x y = scN low y x := by
  unfold scN
  by_cases h : x = y
  · rw [if_pos h, if_pos h.symm]
  · rw [if_neg h, if_neg (Ne.symm h)]
    by_cases h2 : low x = low y
    · rw [if_pos h2, if_pos h2.symm]
    · rw [if_neg h2, if_neg (Ne.symm h2)]
theorem scN_self (low : Sym → Sym) (x : Sym) : scN low x x = 0 := if_pos rfl
theorem scN_le (low : Sym → Sym) (x y : Sym) : scN low x y ≤ 2 := by unfold scN; split <;> (try split) <;> (first | lia | omega)

noncomputable def dist (low : Sym → Sym) : List Sym → List Sym → Nat
  | [], b => 2 * b.length
  | _ :: a, [] => 2 * (a.length + 1)
  | x :: a, y :: b => min (min (dist low a (y :: b)) (dist low (x :: a) b) + 2) (dist low a b + scN low x y)
termination_by a b => a.length + b.length

inductive Al (low : Sym → Sym) : List Sym → List Sym → Nat → Prop
  | nil : Al low [] [] 0
  | del (x : Sym) {a b k} : Al low a b k → Al low (x :: a) b (k + 2)
  | ins (y : Sym) {a b k} : Al low a b k → Al low a (y :: b) (k + 2)
  | sub (x y : Sym) {a b k} : Al low a b k → Al low (x :: a) (y :: b) (k + scN low x y)

section
variable {low : Sym → Sym}

theorem dist_nil (b : List Sym) : dist low [] b = 2 * b.length := by rw [dist]
theorem dist_nil' (a : List Sym) : dist low a [] = 2 * a.length := by cases a <;> rw [dist] <;> simp
theorem dist_cons (x y : Sym) (a b : List Sym) : dist low (x :: a) (y :: b) = min (min (dist low a (y :: b)) (dist low (x :: a) b) + 2) (dist low a b + scN low x y) := by rw [dist]

theorem Al.insAll : ∀ (b : List Sym), Al low [] b (2 * b.length)
  | [] => .nil
  | y :: b => by have := Al.ins y (Al.insAll b); rwa [show 2 * (y :: b).length = 2 * b.length + 2 by simp; (first | lia | omega)]
theorem Al.delAll : ∀ (a : List Sym), Al low a [] (2 * a.length)
  | [] => .nil
  | y :: b => by have := Al.del y (Al.delAll b); rwa [show 2 * (y :: b).length = 2 * b.length + 2 by simp; (first | lia | omega)]
theorem Al.dist : ∀ (n : Nat) (a b : List Sym), a.length + b.length ≤ n → Al low a b (dist low a b)
  | _, [], b, _ => by rw [dist_nil]; exact Al.insAll b
  | _, x :: a, [], _ => by rw [dist_nil']; exact Al.delAll _
  | 0, _ :: _, _ :: _, h => by simp at h
  | n + 1, x :: a, y :: b, h => by
    simp only [List.length_cons] at h
    have h1 := Al.dist n a (y :: b) (by simp only [List.length_cons]; (first | lia | omega))
    have h2 := Al.dist n (x :: a) b (by simp only [List.length_cons]; (first | lia | omega))
    have h3 := Al.dist n a b (by (first | lia | omega))
    rw [dist_cons]
    rcases Nat.le_total (min (Mine.dist low a (y :: b)) (Mine.dist low (x :: a) b) + 2) (Mine.dist low a b + scN low x y) with q | q
    · rw [Nat.min_eq_left q]
      rcases Nat.le_total (Mine.dist low a (y :: b)) (Mine.dist low (x :: a) b) with r | r
      · rw [Nat.min_eq_left r]; exact .del x h1
      · rw [Nat.min_eq_right r]; exact .ins y h2
    · rw [Nat.min_eq_right q]; exact .sub x y h3
theorem al_dist (a b : List Sym) : Al low a b (Mine.dist low a b) := Al.dist _ a b (Nat.le_refl _)
theorem dist_del (x : Sym) (a b : List Sym) : dist low (x :: a) b ≤ dist low a b + 2 := by
  cases b with
  | nil => rw [dist_nil', dist_nil']; simp; (first | lia | omega)
  | cons y b => rw [dist_cons]; have := Nat.min_le_left (Mine.dist low a (y :: b)) (Mine.dist low (x :: a) b); (first | lia | omega)
theorem dist_ins (y : Sym) (a b : List Sym) : dist low a (y :: b) ≤ dist low a b + 2 := by
  cases a with
  | nil => rw [dist_nil, dist_nil]; simp; (first | lia | omega)
  | cons x a => rw [dist_cons]; have := Nat.min_le_right (Mine.dist low a (y :: b)) (Mine.dist low (x :: a) b); (first | lia | omega)
theorem dist_sub (x y : Sym) (a b : List Sym) : dist low (x :: a) (y :: b) ≤ dist low a b + scN low x y := by
  rw [dist_cons]; exact Nat.min_le_right _ _
theorem Al.le {a b k} (h : Al low a b k) : Mine.dist low a b ≤ k := by
  induction h with
  | nil => rw [dist_nil]; simp
  | del x _ ih => exact Nat.le_trans (dist_del x _ _) (Nat.add_le_add_right ih 2)
  | ins y _ ih => exact Nat.le_trans (dist_ins y _ _) (Nat.add_le_add_right ih 2)
  | sub x y _ ih => exact Nat.le_trans (dist_sub x y _ _) (Nat.add_le_add_right ih _)

theorem Al.append {a b k a' b' k'} (h : Al low a b k) (h' : Al low a' b' k') : Al low (a ++ a') (b ++ b') (k + k') := by
  induction h with
  | nil => simpa using h'
  | del x _ ih => have := Al.del x ih; rwa [Nat.add_right_comm] at this
  | ins y _ ih => have := Al.ins y ih; rwa [Nat.add_right_comm] at this
  | sub x y _ ih => have := Al.sub x y ih; rwa [Nat.add_right_comm] at this
theorem Al.rev {a b k} (h : Al low a b k) : Al low a.reverse b.reverse k := by
  induction h with
  | nil => exact .nil
  | del x _ ih => rw [List.reverse_cons]; have := ih.append (Al.del x Al.nil); rwa [List.append_nil] at this
  | ins y _ ih => rw [List.reverse_cons]; have := ih.append (Al.ins y Al.nil); rwa [List.append_nil] at this
  | sub x y _ ih => rw [List.reverse_cons, List.reverse_cons]; have := ih.append (Al.sub x y Al.nil); rwa [Nat.zero_add] at this
theorem Al.swap {a b k} (h : Al low a b k) : Al low b a k := by
  induction h with
  | nil => exact .nil
  | del x _ ih => exact .ins x ih
  | ins y _ ih => exact .del y ih
  | sub x y _ ih => have := Al.sub y x ih; rwa [scN_comm] at this
theorem Al.split {a b k} (h : Al low a b k) : ∀ j ≤ b.length, ∃ i k1 k2, i ≤ a.length ∧ Al low (a.take i) (b.take j) k1 ∧ Al low (a.drop i) (b.drop j) k2 ∧ k1 + k2 = k := by
  induction h with
  | nil => intro j hj; exact ⟨0, 0, 0, Nat.le_refl _, by simpa using Al.nil, by simpa using Al.nil, rfl⟩
  | del x _ ih =>
    intro j hj
    obtain ⟨i, k1, k2, h1, h2, h3, h4⟩ := ih j hj
    exact ⟨i + 1, k1 + 2, k2, by simpa using h1, .del x h2, by simpa using h3, by (first | lia | omega)⟩
  | ins y h ih =>
    intro j hj
    cases j with
    | zero => exact ⟨0, 0, _, Nat.zero_le _, by simpa using Al.nil, Al.ins y h, by (first | lia | omega)⟩
    | succ j =>
      obtain ⟨i, k1, k2, h1, h2, h3, h4⟩ := ih j (by simpa using hj)
      exact ⟨i, k1 + 2, k2, h1, .ins y h2, by simpa using h3, by (first | lia | omega)⟩
  | sub x y h ih =>
    intro j hj
    cases j with
    | zero => exact ⟨0, 0, _, Nat.zero_le _, by simpa using Al.nil, Al.sub x y h, by (first | lia | omega)⟩
    | succ j =>
      obtain ⟨i, k1, k2, h1, h2, h3, h4⟩ := ih j (by simpa using hj)
      exact ⟨i + 1, k1 + scN low x y, k2, by simpa using h1, .sub x y h2, by simpa using h3, by (first | lia | omega)⟩

theorem dist_comm (a b : List Sym) : dist low a b = dist low b a := Nat.le_antisymm (al_dist b a).swap.le (al_dist a b).swap.le
theorem dist_rev (a b : List Sym) : dist low a.reverse b.reverse = dist low a b := by
  refine Nat.le_antisymm (al_dist a b).rev.le ?_
  have := (al_dist (low := low) a.reverse b.reverse).rev.le
  simpa using this
theorem dist_append (a b a' b' : List Sym) : dist low (a ++ a') (b ++ b') ≤ dist low a b + dist low a' b' := ((al_dist a b).append (al_dist a' b')).le
theorem dist_split (a b : List Sym) (j : Nat) (hj : j ≤ b.length) : ∃ i ≤ a.length, dist low a b = dist low (a.take i) (b.take j) + dist low (a.drop i) (b.drop j) := by
  obtain ⟨i, k1, k2, h1, h2, h3, h4⟩ := (al_dist (low := low) a b).split j hj
  refine ⟨i, h1, ?_⟩
  have := dist_append (low := low) (a.take i) (b.take j) (a.drop i) (b.drop j)
  rw [List.take_append_drop, List.take_append_drop] at this
  have := h2.le
  have := h3.le
  (first | lia | omega)

theorem al_lip {y : Sym} {b : List Sym} {a c k} (h : Al low a c k) (hc : c = y :: b) : dist low a b ≤ k + 2 := by
  induction h with
  | nil => cases hc
  | del x _ ih => exact Nat.le_trans (dist_del x _ _) (Nat.add_le_add_right (ih hc) 2)
  | ins y' h ih => cases hc; have := h.le; (first | lia | omega)
  | sub x y' h ih => cases hc; exact Nat.le_trans (dist_del x _ _) (by have := h.le; (first | lia | omega))
theorem dist_lip (y : Sym) (a b : List Sym) : dist low a b ≤ dist low a (y :: b) + 2 := al_lip (al_dist a (y :: b)) rfl
theorem dist_lip' (x : Sym) (a b : List Sym) : dist low a b ≤ dist low (x :: a) b + 2 := by
  rw [dist_comm a b, dist_comm (x :: a) b]; exact dist_lip x b a
theorem dist_same (x : Sym) (a b : List Sym) : dist low (x :: a) (x :: b) = dist low a b := by
  have h1 := dist_sub (low := low) x x a b
  rw [scN_self] at h1
  refine Nat.le_antisymm h1 ?_
  rw [dist_cons, scN_self]
  have h2 := dist_lip (low := low) x a b
  have h3 := dist_lip' (low := low) x a b
  (first | lia | omega)
theorem dist_pre (p a b : List Sym) : dist low (p ++ a) (p ++ b) = dist low a b := by
  induction p with
  | nil => rfl
  | cons x p ih => rw [List.cons_append, List.cons_append, dist_same, ih]
theorem dist_self (a : List Sym) : dist low a a = 0 := by
  have := dist_pre (low := low) a [] []
  rw [List.append_nil] at this
  rw [this, dist_nil]; rfl
theorem al_len {a b k} (h : Al low a b k) : 2 * b.length ≤ 2 * a.length + k := by
  induction h with
  | nil => simp
  | del x _ ih => simp; (first | lia | omega)
  | ins y _ ih => simp; (first | lia | omega)
  | sub x y _ ih => simp; (first | lia | omega)
theorem dist_len (a b : List Sym) : 2 * b.length ≤ 2 * a.length + dist low a b := al_len (al_dist a b)
theorem dist_max : ∀ (a b : List Sym), dist low a b ≤ 2 * max a.length b.length
  | [], b => by rw [dist_nil]; simp
  | x :: a, [] => by rw [dist_nil']; simp
  | x :: a, y :: b => by
    have h1 := dist_sub (low := low) x y a b
    have h2 := scN_le low x y
    have h3 := dist_max a b
    simp only [List.length_cons]
    (first | lia | omega)
theorem dist_snoc (x y : Sym) (a b : List Sym) : dist low (a ++ [x]) (b ++ [y]) = min (min (dist low a (b ++ [y])) (dist low (a ++ [x]) b) + 2) (dist low a b + scN low x y) := by
  have h := dist_cons (low := low) x y a.reverse b.reverse
  have e1 : x :: a.reverse = (a ++ [x]).reverse := by simp
  have e2 : y :: b.reverse = (b ++ [y]).reverse := by simp
  rw [e1, e2, dist_rev, dist_rev, dist_rev, dist_rev] at h
  exact h
end
end

section
section
variable {low : Sym → Sym}

theorem pre_split : ∀ (a b : List Sym), a.take (preLen a b) = b.take (preLen a b)
  | [], b => by simp [preLen]
  | _ :: _, [] => by simp [preLen]
  | x :: a, y :: b => by
    unfold preLen
    by_cases h : x = y
    · subst h; rw [if_pos rfl, List.take_succ_cons, List.take_succ_cons, pre_split a b]
    · rw [if_neg h]; rfl
theorem dist_drop (a b : List Sym) : dist low (a.drop (preLen a b)) (b.drop (preLen a b)) = dist low a b := by
  have h := pre_split a b
  have e1 := List.take_append_drop (preLen a b) a
  have e2 := List.take_append_drop (preLen a b) b
  calc dist low (a.drop (preLen a b)) (b.drop (preLen a b)) = dist low (a.take (preLen a b) ++ a.drop (preLen a b)) (a.take (preLen a b) ++ b.drop (preLen a b)) := (dist_pre _ _ _).symm
    _ = dist low a b := by rw [e1, h, e2]
theorem preLen_len (a b : List Sym) : preLen a b ≤ a.length ∧ preLen a b ≤ b.length := by
  induction a generalizing b with
  | nil => simp [preLen]
  | cons x a ih =>
    cases b with
    | nil => simp [preLen]
    | cons y b =>
      unfold preLen
      have := ih b
      split <;> simp <;> (first | lia | omega)
theorem dist_trim (a b : List Sym) : dist low (a.take (a.length - post a b)) (b.take (b.length - post a b)) = dist low a b := by
  have h := dist_drop (low := low) a.reverse b.reverse
  rw [dist_rev] at h
  rw [← h, ← dist_rev]
  unfold post
  rw [List.reverse_take, List.reverse_take]
  have hl := preLen_len a.reverse b.reverse
  rw [List.length_reverse, List.length_reverse] at hl
  rw [show a.length - (a.length - preLen a.reverse b.reverse) = preLen a.reverse b.reverse by (first | lia | omega), show b.length - (b.length - preLen a.reverse b.reverse) = preLen a.reverse b.reverse by (first | lia | omega)]

theorem take_succ_getD {l : List Sym} {i : Nat} (h : i < l.length) : l.take (i + 1) = l.take i ++ [l.getD i 0] := by
  rw [List.take_add_one, List.getElem?_eq_getElem h, List.getD_eq_getElem?_getD, List.getElem?_eq_getElem h]; rfl
theorem getD_set (l : List Int) (i k : Nat) (r : Int) (h : i < l.length) : (l.set i r).getD k 0 = if k = i then r else l.getD k 0 := by
  rw [List.getD_eq_getElem?_getD, List.getElem?_set, List.getD_eq_getElem?_getD]
  by_cases hk : i = k
  · subst hk; rw [if_pos rfl, if_pos rfl, if_pos h]; rfl
  · rw [if_neg hk, if_neg (Ne.symm hk)]

structure InnOk (low : Sym → Sym) (a b1 : List Sym) (ch : Sym) (i : Nat) (s : IS) : Prop where
  len : s.row.length = a.length
  old : ∀ k, i ≤ k → k < a.length → s.row.getD k 0 = dist low (a.take (k + 1)) b1
  new : ∀ k, k < i → s.row.getD k 0 = dist low (a.take (k + 1)) (b1 ++ [ch])
  dst : s.dist = dist low (a.take i) b1
  res : s.res = dist low (a.take i) (b1 ++ [ch]) ∨ (i = 0 ∧ s.res = 2 * (b1.length : Int))
  mn : ∀ m : Int, s.mn > m → m ≥ maxsize ∨ ∀ k, k < i → (dist low (a.take (k + 1)) (b1 ++ [ch]) : Int) > m

theorem inn_step {a b1 : List Sym} {ch : Sym} {i : Nat} {s : IS} (h : InnOk low a b1 ch i s) (hi : i < a.length) : InnOk low a b1 ch (i + 1) (istep low ch (a.getD i 0) i s) := by
  have hd := h.old i (Nat.le_refl _) hi
  have hr : min (min s.res (dist low (a.take (i + 1)) b1 : Int) + 2) (s.dist + scost low ch (a.getD i 0)) = (dist low (a.take (i + 1)) (b1 ++ [ch]) : Int) := by
    have e := dist_snoc (low := low) (a.getD i 0) ch (a.take i) b1
    rw [← take_succ_getD hi] at e
    have hs := scN_le low (a.getD i 0) ch
    rw [h.dst, scN_cost, scN_comm low ch, e]
    rcases h.res with q | ⟨rfl, q⟩
    · rw [q]; (first | lia | omega)
    · rw [q]
      simp only [List.take_zero]
      rw [dist_nil, dist_nil]
      simp only [List.length_append, List.length_cons, List.length_nil]
      (first | lia | omega)
  unfold istep
  simp only [hd, hr]
  refine ⟨by rw [List.length_set]; exact h.len, fun k h1 h2 => ?_, fun k h1 => ?_, rfl, .inl rfl, fun m hm => ?_⟩
  · rw [getD_set _ _ _ _ (by rw [h.len]; exact hi), if_neg (by (first | lia | omega))]; exact h.old k (by (first | lia | omega)) h2
  · rw [getD_set _ _ _ _ (by rw [h.len]; exact hi)]
    by_cases hk : k = i
    · subst hk; rw [if_pos rfl]
    · rw [if_neg hk]; exact h.new k (by (first | lia | omega))
  · dsimp only at hm
    have key : s.mn > m ∧ (dist low (a.take (i + 1)) (b1 ++ [ch]) : Int) > m := by
      split at hm <;> (first | lia | omega)
    rcases h.mn m key.1 with q | q
    · exact .inl q
    · right; intro k hk
      by_cases hki : k = i
      · subst hki; exact key.2
      · exact q k (by (first | lia | omega))
theorem inn_all {a b1 : List Sym} {ch : Sym} {s : IS} (h : InnOk low a b1 ch 0 s) : ∀ i, i ≤ a.length → InnOk low a b1 ch i (iters low ch a s i)
  | 0, _ => h
  | i + 1, hi => inn_step (inn_all h i (by (first | lia | omega))) (by (first | lia | omega))

structure RowOk (low : Sym → Sym) (a b1 : List Sym) (row : List Int) : Prop where
  len : row.length = a.length
  at_ : ∀ k, k < a.length → row.getD k 0 = dist low (a.take (k + 1)) b1

theorem outer_ok (a : List Sym) (ha : a ≠ []) (m : Int) (hm : m < maxsize) : ∀ (bs b1 : List Sym) (row : List Int) (res : Int), RowOk low a b1 row → (bs = [] → res = dist low a b1) →
    ((dist low a (b1 ++ bs) : Int) ≤ m → outer low a m bs b1.length row res = dist low a (b1 ++ bs)) ∧ (m < (dist low a (b1 ++ bs) : Int) → m < outer low a m bs b1.length row res)
  | [], b1, row, res, _, hres => by
    rw [List.append_nil]
    unfold outer
    rw [hres rfl]
    exact ⟨fun _ => rfl, fun h => h⟩
  | ch :: bs, b1, row, res, hrow, _ => by
    have hlen : 0 < a.length := List.length_pos_iff.mpr ha
    have h0 : InnOk low a b1 ch 0 ⟨row, (b1.length : Int) * 2, (b1.length : Int) * 2, maxsize⟩ := by
      refine ⟨hrow.len, fun k _ h2 => hrow.at_ k h2, fun k hk => absurd hk (Nat.not_lt_zero k), ?_, .inr ⟨rfl, ?_⟩, fun m' hm' => .inr fun k hk => absurd hk (Nat.not_lt_zero k)⟩
      · simp only [List.take_zero]; rw [dist_nil]; (first | lia | omega)
      · show (b1.length : Int) * 2 = _; (first | lia | omega)
    have hE := inn_all h0 a.length (Nat.le_refl _)
    unfold outer
    dsimp only
    generalize hS : iters low ch a ⟨row, (b1.length : Int) * 2, (b1.length : Int) * 2, maxsize⟩ a.length = S at hE ⊢
    have hcat : b1 ++ ch :: bs = (b1 ++ [ch]) ++ bs := by simp
    by_cases hmn : S.mn > m
    · rw [if_pos hmn]
      have hbig : m < (dist low a (b1 ++ ch :: bs) : Int) := by
        have hk := (hE.mn m hmn).resolve_left (by (first | lia | omega))
        obtain ⟨i, hi, e⟩ := dist_split (low := low) a (b1 ++ ch :: bs) (b1.length + 1) (by simp)
        rw [hcat, show b1.length + 1 = (b1 ++ [ch]).length by simp, List.take_left] at e
        rw [← hcat] at e
        cases i with
        | zero =>
          have h1 := hk 0 hlen
          have h2 := dist_max (low := low) (a.take (0 + 1)) (b1 ++ [ch])
          rw [List.take_zero, dist_nil] at e
          simp only [List.length_take, List.length_append, List.length_cons, List.length_nil] at h2 e
          (first | lia | omega)
        | succ i =>
          have := hk i (by (first | lia | omega))
          (first | lia | omega)
      exact ⟨fun h => absurd hbig (by (first | lia | omega)), fun _ => by (first | lia | omega)⟩
    · rw [if_neg hmn]
      have ih := outer_ok a ha m hm bs (b1 ++ [ch]) S.row S.res ⟨hE.len, fun k hk => hE.new k hk⟩ (fun _ => by
        rcases hE.res with q | ⟨q, _⟩
        · rwa [List.take_length] at q
        · (first | lia | omega))
      rw [hcat, show b1.length + 1 = (b1 ++ [ch]).length by simp]
      exact ih

theorem levRow_ok (a : List Sym) : RowOk low a [] (levRow a.length) := by
  refine ⟨by simp [levRow], fun k hk => ?_⟩
  rw [dist_nil']
  unfold levRow
  rw [List.getD_eq_getElem?_getD, List.getElem?_map, List.getElem?_range hk]
  simp only [Option.map_some, Option.getD_some, List.length_take]
  (first | lia | omega)

noncomputable def LevIs (d : Nat) (m v : Int) : Prop := ((d : Int) ≤ m → v = d) ∧ (m < (d : Int) → m < v)
theorem levCore_ok (a b : List Sym) (ha : a ≠ []) (hb : b ≠ []) (m : Int) (hm : m < maxsize) : LevIs (dist low a b) m (levCore low a b m) := by
  unfold levCore
  by_cases h : ((b.length : Int) - a.length) * 2 > m
  · rw [if_pos h]
    have := dist_len (low := low) a b
    exact ⟨fun q => by (first | lia | omega), fun _ => by (first | lia | omega)⟩
  · rw [if_neg h]
    have := outer_ok (low := low) a ha m hm b [] (levRow a.length) 0 (levRow_ok a) (fun q => absurd q hb)
    exact this
theorem levCut_ok (a b : List Sym) (m : Int) (hm : m < maxsize) (la : a.length ≤ 40) (lb : b.length ≤ 40) : LevIs (dist low a b) m (levCut low a b m) := by
  unfold levCut
  by_cases h : a = [] ∨ b = []
  · rw [if_pos h]
    have e : (dist low a b : Int) = 2 * ((a.length : Int) + b.length) := by
      rcases h with rfl | rfl
      · rw [dist_nil]; simp
      · rw [dist_nil']; simp
    rw [← e]
    exact ⟨fun _ => rfl, fun q => q⟩
  · rw [if_neg h, if_neg (by (first | lia | omega))]
    simp only [not_or] at h
    split
    · rw [dist_comm]; exact levCore_ok b a h.2 h.1 m hm
    · exact levCore_ok a b h.1 h.2 m hm
theorem lev_ok (a b : List Sym) (m : Int) (hm : m < maxsize) (la : a.length ≤ 40) (lb : b.length ≤ 40) : LevIs (dist low a b) m (lev low a b m) := by
  unfold lev
  by_cases h : a = b
  · rw [if_pos h]; subst h; rw [dist_self]
    exact ⟨fun _ => rfl, fun q => by simpa using q⟩
  · rw [if_neg h]
    dsimp only
    have := levCut_ok (low := low) ((a.drop (preLen a b)).take ((a.drop (preLen a b)).length - post (a.drop (preLen a b)) (b.drop (preLen a b)))) ((b.drop (preLen a b)).take ((b.drop (preLen a b)).length - post (a.drop (preLen a b)) (b.drop (preLen a b)))) m hm (by simp; (first | lia | omega)) (by simp; (first | lia | omega))
    rw [dist_trim, dist_drop] at this
    exact this
theorem LevIs.eq {d : Nat} {m v : Int} (h : LevIs d m v) : v = m ↔ (d : Int) = m := by
  obtain ⟨h1, h2⟩ := h
  constructor
  · intro q
    rcases Int.lt_or_le m d with r | r
    · have := h2 r; (first | lia | omega)
    · rw [h1 r] at q; exact q
  · intro q; rw [h1 (by (first | lia | omega))]; exact q
theorem LevIs.le {d : Nat} {m v : Int} (h : LevIs d m v) : v ≤ m ↔ (d : Int) ≤ m := by
  obtain ⟨h1, h2⟩ := h
  constructor
  · intro q
    rcases Int.lt_or_le m d with r | r
    · have := h2 r; (first | lia | omega)
    · exact r
  · intro q; rw [h1 q]; exact q
end
end

section
noncomputable def mn2 (a b : Nat) : Nat := bif Nat.ble a b then a else b
theorem mn2_eq (a b : Nat) : mn2 a b = min a b := by
  unfold mn2
  cases h : Nat.ble a b with
  | true => have := Nat.le_of_ble_eq_true h; simp; (first | lia | omega)
  | false =>
    have : ¬ a ≤ b := fun q => by rw [Nat.ble_eq_true_of_le q] at h; cases h
    simp; (first | lia | omega)
noncomputable def scF (low : Sym → Sym) (x y : Sym) : Nat := bif Nat.beq x.val y.val then 0 else bif Nat.beq (low x).val (low y).val then 1 else 2
theorem beq_fin (x y : Sym) : Nat.beq x.val y.val = decide (x = y) := by
  rw [Bool.eq_iff_iff]
  simp [Nat.beq_eq, Fin.ext_iff]
theorem scF_eq (low : Sym → Sym) (x y : Sym) : scF low x y = scN low x y := by
  unfold scF scN
  rw [beq_fin, beq_fin]
  by_cases h : x = y
  · simp [h]
  · by_cases h2 : low x = low y <;> simp [h, h2]
noncomputable def rowStep (low : Sym → Sym) (ch : Sym) : List Sym → Nat → Nat → List Nat → List Nat
  | [], _, _, _ => []
  | x :: a, dg, lf, ps => match ps with
    | [] => []
    | p :: ps => mn2 (mn2 lf p + 2) (dg + scF low x ch) :: rowStep low ch a p (mn2 (mn2 lf p + 2) (dg + scF low x ch)) ps
noncomputable def row0 : List Sym → Nat → List Nat
  | [], _ => []
  | _ :: a, l => (l + 2) :: row0 a (l + 2)
section
variable {low : Sym → Sym}
noncomputable def RowIs (low : Sym → Sym) (b : List Sym) : List Sym → List Sym → List Nat → Prop
  | _, [], ps => ps = []
  | a0, x :: as, p :: ps => p = dist low (a0 ++ [x]) b ∧ RowIs low b (a0 ++ [x]) as ps
  | _, _ :: _, [] => False
theorem rowStep_ok (b : List Sym) (ch : Sym) : ∀ (as a0 : List Sym) (ps : List Nat), RowIs low b a0 as ps → RowIs low (b ++ [ch]) a0 as (rowStep low ch as (dist low a0 b) (dist low a0 (b ++ [ch])) ps)
  | [], a0, ps, _ => by unfold rowStep; exact rfl
  | x :: as, a0, [], h => h.elim
  | x :: as, a0, p :: ps, h => by
    obtain ⟨rfl, h2⟩ := h
    have e : mn2 (mn2 (dist low a0 (b ++ [ch])) (dist low (a0 ++ [x]) b) + 2) (dist low a0 b + scF low x ch) = dist low (a0 ++ [x]) (b ++ [ch]) := by
      rw [mn2_eq, mn2_eq, scF_eq, dist_snoc]
    unfold rowStep
    dsimp only
    rw [e]
    exact ⟨rfl, rowStep_ok b ch as (a0 ++ [x]) ps h2⟩
theorem row0_ok : ∀ (as a0 : List Sym), RowIs low [] a0 as (row0 as (2 * a0.length))
  | [], _ => rfl
  | x :: as, a0 => by
    refine ⟨?_, ?_⟩
    · rw [dist_nil']; simp; (first | lia | omega)
    · have := row0_ok as (a0 ++ [x])
      simp only [List.length_append, List.length_cons, List.length_nil] at this
      rw [show 2 * (a0.length + (0 + 1)) = 2 * a0.length + 2 by (first | lia | omega)] at this
      exact this
theorem rowIs_len {b : List Sym} : ∀ (as a0 : List Sym) (ps : List Nat), RowIs low b a0 as ps → ps.length = as.length
  | [], _, ps, h => by have h : ps = [] := h; rw [h]; rfl
  | x :: as, a0, [], h => h.elim
  | x :: as, a0, p :: ps, h => by simp [rowIs_len as _ ps h.2]
theorem rowIs_get {b : List Sym} : ∀ (as a0 : List Sym) (ps : List Nat) (k : Nat), RowIs low b a0 as ps → k < as.length → ps[k]? = some (dist low (a0 ++ as.take (k + 1)) b)
  | [], _, _, k, _, hk => by simp at hk
  | x :: as, a0, [], _, h, _ => h.elim
  | x :: as, a0, p :: ps, 0, h, _ => by rw [h.1]; simp
  | x :: as, a0, p :: ps, k + 1, h, hk => by
    have := rowIs_get as (a0 ++ [x]) ps k h.2 (by simpa using hk)
    simpa using this
theorem rowIs_at {a b : List Sym} {row : List Nat} (h : RowIs low b [] a row) (i : Nat) (hi : i ≤ a.length) : (2 * b.length :: row)[i]? = some (dist low (a.take i) b) := by
  cases i with
  | zero => simp [dist_nil]
  | succ i => have := rowIs_get a [] row i h (by (first | lia | omega)); simpa using this
end
end

section
noncomputable abbrev hv (σ : Store) (x : String) (v : PV) : Prop := List.lookup (Str.ofString x) σ = some (Slot.val v)
noncomputable abbrev ho (σ : Store) (x : String) (l : List PV) : Prop := List.lookup (Str.ofString x) σ = some (Slot.own l)

structure LevOk (c : GCtx) (p : Program) (mks : List (Str × Addr)) : Prop extends GOk c where
  recs : c.recs = recsP p mks
  move : ∃ v, c.mg "_MOVE_COST" = some v ∧ ∀ W, Rep c W v (.int 2)
  case_ : ∃ v, c.mg "_CASE_COST" = some v ∧ ∀ W, Rep c W v (.int 1)
  maxs : ∃ v, c.mg "_MAX_STRING_SIZE" = some v ∧ ∀ W, Rep c W v (.int 40)
  bLen : Blt c "len" (.builtin "len")
  bMin : Blt c "min" (.builtin "min")
  bRange : Blt c "range" (.type "range")
  bList : Blt c "list" (.type "list")
  lower : ∀ x, Txt.lower (mkS c.κ [x]) = mkS c.κ [c.low x]
  mks0 : mks.lookup (Str.ofString "_substitution_cost") = none
  mks1 : mks.lookup (Str.ofString "_levenshtein_distance") = none
  subV : ∃ v, c.mg "_substitution_cost" = some v
  levV : ∃ v, c.mg "_levenshtein_distance" = some v

noncomputable def HitP (c : GCtx) (i j : Int) (v : PV) : Prop := ∃ r caps dfl f, v = .fn r caps dfl (some ("span", f)) ∧ Callable f ∧ CallS c 1 f [] fun w => w = .tuple [.int i, .int j]
noncomputable def OptP (c : GCtx) (o : Option (Int × Int)) (v : PV) : Prop := match o with
  | none => v = .none
  | some p => HitP c p.1 p.2 v
noncomputable def ProgP (c : GCtx) (k : Nat) (x : List Sym) (srch : Int → Option (Int × Int)) (v : PV) : Prop :=
  ∃ r caps dfl f, v = .fn r caps dfl (some ("search", f)) ∧ Callable f ∧ CallS c k f [.str x] (OptP c (srch 0)) ∧ ∀ s, 0 ≤ s → s ≤ 1000000 → CallS c k f [.str x, .int s] (OptP c (srch s))

noncomputable def srevGo (srch : Int → Option (Int × Int)) (col : Int) : Nat → Int × Int → Option (Int × Int) → Option (Int × Int)
  | 0, _, found => found
  | n + 1, p, found => if p.1 < col ∧ p.2 ≤ col then
      match srch (if p.1 = p.2 then p.2 + 1 else p.2) with
      | none => some p
      | some q => srevGo srch col n q (some p)
    else found
noncomputable def srev (srch : Int → Option (Int × Int)) (col : Int) : Option (Int × Int) := match srch 0 with
  | none => none
  | some p => srevGo srch col (col.toNat + 1) p none

theorem GOk.fnV {c : GCtx} {p mks x} (ok : GOk c) (hrec : c.recs = recsP p mks) (h : (defRec? p x).isSome = true) : (∃ v, c.mg x = some v) ∧ (c.recs x).isSome = true := by
  obtain ⟨r, hr⟩ := Option.isSome_iff_exists.mp h
  have e : c.recs x = some (r, mks.lookup x) := by rw [hrec]; unfold recsP; rw [hr]; rfl
  obtain ⟨a, _, _, _, _, _, _, _, e1, _⟩ := ok.fn x r _ e
  exact ⟨⟨_, e1⟩, by rw [e]; rfl⟩

theorem EvE.span {c : GCtx} {F : FSt} {σ : Store} {mn : Str} {mp ap cp : Pos} {p : Int × Int} {mv : PV} {P : PV → Prop} (ok : GOk c) (h1 : σ.lookup mn = some (.val mv)) (hd : (mn == ("__debug__" : Str)) = false) (h2 : 1 ≤ F.n) (h3 : HitP c p.1 p.2 mv)
    (h5 : (ap.endLine == cp.line) = true) (h4 : P (.tuple [.int p.1, .int p.2])) : EvE c F (.Call (.Attribute (.Name mn mp) "span" ap) [] [] cp) σ P := by
  obtain ⟨r, caps, dfl, f, rfl, hcf, hsp⟩ := h3
  exact EvE.callAttr ok no_span (EvE.name h1 ⟨r, caps, dfl, f, rfl, hcf, (hsp.le h2).mono fun w hw => hw ▸ h4⟩ hd) rfl (by decide) h5 (by intro _; rfl)
theorem HitP.notNone {c i j v} (h : HitP c i j v) : v.isNone = false := by
  obtain ⟨_, _, _, _, rfl, _⟩ := h; rfl
theorem stor2 {F : FSt} {a b : Str} (h1 : F.scope.names.lookup a = some .local) (h2 : F.scope.names.lookup b = some .local) : ∀ x ∈ [a, b], Storable F x := fun x hx => by
  simp at hx; rcases hx with rfl | rfl
  · exact .inl h1
  · exact .inl h2
theorem big100 {n : Nat} (h : n ≤ 1000000) : n ≤ big := Nat.le_trans h (by decide +kernel)
end

section
end

noncomputable abbrev pw3 : Program := PySem.Challenge.pw_pg0095_03

local macro_rules | `(tactic| walk_at "lk") => do
  let w ← `(by with_unfolding_all rfl)
  let k ← `(by walk_at "lk")
  `(tactic| first
    | assumption
    | with_unfolding_all rfl
    | ((try simp only [hv, ho, Store.lookup_put, ofString_inj, String.reduceEq, if_true, if_false, reduceIte]); first | done | rfl | assumption | exact capS_hv $w $k | exact capS_ho $w $k | exact capS_no $w))
local macro_rules | `(tactic| walk_at "st") => do
  let w ← `(by with_unfolding_all rfl)
  let k ← `(by walk_at "lk")
  let a ← `(by assumption)
  let i ← `(by intros; with_unfolding_all rfl)
  let t ← `(tactic| first
    | refine ExS.assign (by first | with_unfolding_all exact Or.inl rfl | with_unfolding_all exact Or.inr ⟨rfl, rfl⟩) ?_ $i
    | refine EvE.tuple ?_ $w
    | refine EvE.name $k ?_
    | refine EvP.orNone $k ?_ $w
    | refine EvP.some ?_
    | refine EvE.lenOwn $a $a (Or.inl $k) ?_ $w $w $w
    | refine EvE.subOwn (Or.inl $k) ?_ $i $w
    | refine EvE.subOwn (Or.inr $k) ?_ $i $w
    | refine EvE.sub ?_ $i
    | refine EvE.gname $a $a ?_ $w $w
    | refine EvE.callB $a $a (by with_unfolding_all exact trivial) ?_ $w $w $w
    | refine BltS.range3 (by decide) (by decide) ?_
    | refine EvT.val $i ?_)
  let t ← [`ExSs.nil, `ExSs.cons, `ExS.ret, `ExS.if_, `ExS.brk, `EvT.cmp, `EvT.not, `EvT.boolop, `EvE.binop, `EvE.unary, `EvE.cmp, `EvE.or2, `EvE.slice, `EvE.int, `EvE.none, `EvE.bool, `BinS.addI, `BinS.subI, `CmpS.ltI, `CmpS.gtI, `CmpS.leI, `CmpS.geI, `CmpS.eqI, `CmpS.neI, `InpS.addI, `InpS.subI, `UnS.negI, `EvP.none, `partI, `partN, `SlcP.str, `SlcP.list, `SlcXP.str, `SlcXP.list, `EvL.nil, `EvL.cons, `EvAll.and, `EvAll.or, `EvAll.nilA, `EvAll.nilO, `TruS.str, `TruS.int, `TruS.bool, `TruS.none, `BltS.lenS, `BltS.lenL, `BltS.min2, `BltS.max2, `BltS.range1, `BltS.range2, `IfsS.nil, `IfsS.cons, `CompG.nil, `CompG.cons].foldrM (fun (n : Lean.Name) t => `(tactic| first | refine $(Lean.mkIdent n) ?_ | $t:tactic)) t
  `(tactic| with_reducible $t:tactic)

theorem subst_call {c : GCtx} {mks} (ok : LevOk c pw3 mks) (n : Nat) (x y : Sym) : CallS c (n + 1) (.glob "_substitution_cost") [.str [x], .str [y]] fun v => v = .int (scost c.low x y) := by
  have e : defRec? pw3 "_substitution_cost" = defRec? pw3 "_substitution_cost" := rfl
  conv at e => rhs; whnf
  refine CallS.globP ok.toGOk ok.recs e ok.mks0 rfl (by rfl) (by rfl) ?_
  dsimp only
  iterate 5 walk_at "st"
  refine CmpS.eqS ok.toGOk (split_bool (fun h => ?_) (fun h => ?_))
  · iterate 3 walk_at "st"
    simp at h
    simp [scost, h]
  · walk_at "st"
    dsimp only
    iterate 3 walk_at "st"
    refine EvE.method "str.lower" PySem.F.slot_str_lower (by kernel_rfl) ?_
    walk_at "st"
    refine ⟨_, rfl, MthS.lower1 ok.lower ?_⟩
    refine EvE.method "str.lower" PySem.F.slot_str_lower (by kernel_rfl) ?_
    walk_at "st"
    refine ⟨_, rfl, MthS.lower1 ok.lower ?_⟩
    simp only [decide_eq_false_iff_not, List.cons.injEq, and_true] at h
    refine CmpS.eqS ok.toGOk (split_bool (fun h2 => ?_) (fun h2 => ?_))
    · iterate 2 walk_at "st"
      refine EvE.gname ok.toGOk ok.case_ ?_ (by rfl)
      simp at h2
      simp [scost, h, h2]
    · walk_at "st"
      dsimp only
      iterate 2 walk_at "st"
      refine EvE.gname ok.toGOk ok.move ?_ (by rfl)
      simp at h2
      simp [scost, h, h2]

theorem preLen_drop (a b : List Sym) (k : Nat) (hk : k ≤ preLen a b) : (∃ x a' y b', a.drop k = x :: a' ∧ b.drop k = y :: b' ∧ x = y ∧ k < preLen a b) ∨ (k = preLen a b ∧ ((a.drop k = [] ∨ b.drop k = []) ∨ ∃ x a' y b', a.drop k = x :: a' ∧ b.drop k = y :: b' ∧ x ≠ y)) := by
  induction a generalizing b k with
  | nil => cases k with
    | zero => exact .inr ⟨by cases b <;> rfl, .inl (.inl rfl)⟩
    | succ k => simp [preLen] at hk
  | cons x a ih =>
    cases b with
    | nil => cases k with
      | zero => exact .inr ⟨rfl, .inl (.inr rfl)⟩
      | succ k => simp [preLen] at hk
    | cons y b =>
      by_cases hxy : x = y
      · subst hxy
        cases k with
        | zero => exact .inl ⟨x, a, x, b, rfl, rfl, rfl, by simp [preLen]⟩
        | succ k =>
          have hk' : k ≤ preLen a b := by simp [preLen] at hk; exact hk
          rcases ih b k hk' with ⟨u, a', v, b', h1, h2, h3, h4⟩ | ⟨h1, h2⟩
          · exact .inl ⟨u, a', v, b', by simpa using h1, by simpa using h2, h3, by simp [preLen]; exact h4⟩
          · exact .inr ⟨by simp [preLen, h1], by simpa using h2⟩
      · cases k with
        | zero => exact .inr ⟨by simp [preLen, hxy], .inr ⟨x, a, y, b, rfl, rfl, hxy⟩⟩
        | succ k => simp [preLen, hxy] at hk

theorem preLen_le : ∀ (a b : List Sym), preLen a b ≤ a.length ∧ preLen a b ≤ b.length
  | [], b => by simp [preLen]
  | _ :: _, [] => by simp [preLen]
  | x :: a, y :: b => by
    have := preLen_le a b
    simp only [preLen]
    split <;> simp <;> (first | lia | omega)

theorem get_of_drop {a : List Sym} {k : Nat} {x : Sym} {a' : List Sym} (h : a.drop k = x :: a') : a[k]? = some x ∧ k < a.length := by
  have h1 : (a.drop k)[0]? = some x := by rw [h]; rfl
  rw [List.getElem?_drop, Nat.add_zero] at h1
  exact ⟨h1, by rcases Nat.lt_or_ge k a.length with q | q; exact q; rw [List.getElem?_eq_none_iff.mpr q] at h1; cases h1⟩

theorem lev_call {c : GCtx} {mks} (ok : LevOk c pw3 mks) (n : Nat) (a b : List Sym) (m : Int) (ha : a.length ≤ 1000) (hb : b.length ≤ 1000) (hm : m.natAbs ≤ 1000000) :
    CallS c (n + 2) (.glob "_levenshtein_distance") [.str a, .str b, .int m] fun v => v = .int (lev c.low a b m) := by
  have e : defRec? pw3 "_levenshtein_distance" = defRec? pw3 "_levenshtein_distance" := rfl
  conv at e => rhs; whnf
  refine CallS.globP ok.toGOk ok.recs e ok.mks1 rfl (by rfl) (by rfl) ?_
  clear e
  dsimp only
  iterate 5 walk_at "st"
  refine CmpS.eqS ok.toGOk (split_bool (fun h => ?_) (fun h => ?_))
  · iterate 3 walk_at "st"
    simp at h
    simp [lev, h]
  simp only [decide_eq_false_iff_not] at h
  walk_at "st"
  dsimp only
  iterate 3 walk_at "st"
  dsimp only
  -- the prefix
  refine ExSs.cut (fun σ => hv σ "a" (.str a) ∧ hv σ "b" (.str b) ∧ hv σ "max_cost" (.int m) ∧ hv σ "pre" (.int (preLen a b : Nat))) (ExS.whileI (fun N σ => ∃ k, k ≤ preLen a b ∧ N = preLen a b - k ∧ hv σ "a" (.str a) ∧ hv σ "b" (.str b) ∧ hv σ "max_cost" (.int m) ∧ hv σ "pre" (.int (k : Nat))) _ ⟨0, Nat.zero_le _, rfl, rfl, rfl, rfl, rfl⟩ ?_) ?_
  · rintro N σ ⟨k, hk, hN, h1, h2, h3, h4⟩
    have hpl := preLen_le a b
    rcases preLen_drop a b k hk with ⟨x, a', y, b', ea, eb, hxy, hlt⟩ | ⟨heq, hrest⟩
    · obtain ⟨ga, la⟩ := get_of_drop ea
      obtain ⟨gb, lb⟩ := get_of_drop eb
      repeat walk_at "st"
      rw [slc_from, ea]
      repeat walk_at "st"
      rw [if_pos (by simp)]
      repeat walk_at "st"
      rw [slc_from, eb]
      repeat walk_at "st"
      rw [if_pos (by simp)]
      repeat walk_at "st"
      refine IdxS.strN (x := x) (by (first | lia | omega)) la ga ?_
      repeat walk_at "st"
      refine IdxS.strN (x := y) (by (first | lia | omega)) lb gb ?_
      refine CmpS.eqS ok.toGOk ?_
      rw [if_pos (by simp [hxy])]
      repeat walk_at "st"
      rw [if_pos rfl]
      repeat walk_at "st"
      refine ExS.aug h4 (Or.inl rfl) ?_
      repeat walk_at "st"
      refine ⟨_, ?_, k + 1, hlt, rfl, ?_, ?_, ?_, ?_⟩
      · (first | lia | omega)
      all_goals walk_at "lk"
    · subst heq
      have done : ∀ {P : Prop}, hv σ "a" (.str a) ∧ hv σ "b" (.str b) ∧ hv σ "max_cost" (.int m) ∧ hv σ "pre" (.int (preLen a b : Nat)) := ⟨h1, h2, h3, h4⟩
      by_cases e1 : a.drop (preLen a b) = []
      · repeat walk_at "st"
        rw [slc_from, e1]
        repeat walk_at "st"
        rw [if_neg (by simp), if_neg (by simp)]
        exact ⟨rfl, h1, h2, h3, h4⟩
      · by_cases e2 : b.drop (preLen a b) = []
        · repeat walk_at "st"
          rw [slc_from]
          repeat walk_at "st"
          rw [if_pos (by simpa using e1)]
          repeat walk_at "st"
          rw [slc_from, e2]
          repeat walk_at "st"
          rw [if_neg (by simp), if_neg (by simp)]
          exact ⟨rfl, h1, h2, h3, h4⟩
        · obtain ⟨x, a', y, b', ea, eb, hne⟩ := (hrest.resolve_left (fun q => q.elim e1 e2))
          obtain ⟨ga, la⟩ := get_of_drop ea
          obtain ⟨gb, lb⟩ := get_of_drop eb
          repeat walk_at "st"
          rw [slc_from, ea]
          repeat walk_at "st"
          rw [if_pos (by simp)]
          repeat walk_at "st"
          rw [slc_from, eb]
          repeat walk_at "st"
          rw [if_pos (by simp)]
          repeat walk_at "st"
          refine IdxS.strN (x := x) (by (first | lia | omega)) la ga ?_
          repeat walk_at "st"
          refine IdxS.strN (x := y) (by (first | lia | omega)) lb gb ?_
          refine CmpS.eqS ok.toGOk ?_
          rw [if_neg (by simp [hne]), if_neg (by simp)]
          exact ⟨rfl, h1, h2, h3, h4⟩
  rintro σ ⟨h1, h2, h3, h4⟩
  iterate 21 walk_at "st"
  dsimp only
  rw [slc_from, slc_from]
  generalize hA : a.drop (preLen a b) = a1
  generalize hB : b.drop (preLen a b) = b1
  have ha1 : a1.length ≤ 1000 := by rw [← hA, List.length_drop]; (first | lia | omega)
  have hb1 : b1.length ≤ 1000 := by rw [← hB, List.length_drop]; (first | lia | omega)
  have hpl := preLen_le a1.reverse b1.reverse
  simp only [List.length_reverse] at hpl
  -- the suffix
  refine ExSs.cut (fun σ => hv σ "a" (.str a1) ∧ hv σ "b" (.str b1) ∧ hv σ "max_cost" (.int m) ∧ hv σ "post" (.int (-(post a1 b1 : Nat)))) (ExS.whileI (fun N σ => ∃ k, k ≤ post a1 b1 ∧ N = post a1 b1 - k ∧ hv σ "a" (.str a1) ∧ hv σ "b" (.str b1) ∧ hv σ "max_cost" (.int m) ∧ hv σ "post" (.int (-(k : Nat)))) _ ⟨0, Nat.zero_le _, rfl, ?_, ?_, ?_, ?_⟩ ?_) ?_
  · walk_at "lk"
  · walk_at "lk"
  · walk_at "lk"
  · walk_at "lk"
  · rintro N σ ⟨k, hk, hN, h1, h2, h3, h4⟩
    have tk : ∀ (l : List Sym), l.length ≤ 1000 → (l.take (l.length - k) = [] ↔ l.reverse.drop k = []) := fun l hl => by
      rw [List.take_eq_nil_iff, List.drop_eq_nil_iff, List.length_reverse]
      constructor
      · rintro (q | q)
        · (first | lia | omega)
        · subst q; simp
      · intro q; left; (first | lia | omega)
    have gt : ∀ (l : List Sym) (x : Sym) (l' : List Sym), l.reverse.drop k = x :: l' → k + 1 ≤ l.length ∧ l[l.length - (k + 1)]? = some x := fun l x l' q => by
      obtain ⟨q1, q2⟩ := get_of_drop q
      rw [List.length_reverse] at q2
      rw [List.getElem?_reverse q2] at q1
      exact ⟨q2, by rw [← q1]; congr 1; (first | lia | omega)⟩
    have ix : (-(k : Int) - 1) = -((k + 1 : Nat) : Int) := by (first | lia | omega)
    rcases preLen_drop a1.reverse b1.reverse k hk with ⟨x, a', y, b', ea, eb, hxy, hlt⟩ | ⟨heq, hrest⟩
    · obtain ⟨la, ga⟩ := gt a1 x a' ea
      obtain ⟨lb, gb⟩ := gt b1 y b' eb
      have na : a1.take (a1.length - k) ≠ [] := fun q => by rw [(tk a1 ha1).mp q] at ea; cases ea
      have nb : b1.take (b1.length - k) ≠ [] := fun q => by rw [(tk b1 hb1).mp q] at eb; cases eb
      repeat walk_at "st"
      rw [slc_post, if_pos (by simpa using na)]
      repeat walk_at "st"
      rw [slc_post, if_pos (by simpa using nb)]
      repeat walk_at "st"
      rw [ix]
      refine IdxS.str (x := x) _ ⟨by (first | lia | omega), by (first | lia | omega)⟩ (seqIndex_neg' _ _ (by (first | lia | omega)) la) ga ?_
      repeat walk_at "st"
      rw [ix]
      refine IdxS.str (x := y) _ ⟨by (first | lia | omega), by (first | lia | omega)⟩ (seqIndex_neg' _ _ (by (first | lia | omega)) lb) gb ?_
      refine CmpS.eqS ok.toGOk ?_
      rw [if_pos (by simp [hxy])]
      repeat walk_at "st"
      rw [if_pos rfl]
      repeat walk_at "st"
      refine ExS.aug h4 (Or.inl rfl) ?_
      repeat walk_at "st"
      refine ⟨_, ?_, k + 1, hlt, rfl, ?_, ?_, ?_, ?_⟩
      · have : k < post a1 b1 := hlt
        (first | lia | omega)
      · walk_at "lk"
      · walk_at "lk"
      · walk_at "lk"
      · rw [ix]; walk_at "lk"
    · have heq' : post a1 b1 = k := heq.symm
      have fin : hv σ "a" (.str a1) ∧ hv σ "b" (.str b1) ∧ hv σ "max_cost" (.int m) ∧ hv σ "post" (.int (-(post a1 b1 : Nat))) := by rw [heq']; exact ⟨h1, h2, h3, h4⟩
      by_cases e1 : a1.take (a1.length - k) = []
      · repeat walk_at "st"
        rw [slc_post, if_neg (by simp [e1]), if_neg (by simp)]
        exact ⟨rfl, fin⟩
      · by_cases e2 : b1.take (b1.length - k) = []
        · repeat walk_at "st"
          rw [slc_post, if_pos (by simpa using e1)]
          repeat walk_at "st"
          rw [slc_post, if_neg (by simp [e2]), if_neg (by simp)]
          exact ⟨rfl, fin⟩
        · obtain ⟨x, a', y, b', ea, eb, hne⟩ := (hrest.resolve_left (fun q => q.elim (fun z => e1 ((tk a1 ha1).mpr z)) (fun z => e2 ((tk b1 hb1).mpr z))))
          obtain ⟨la, ga⟩ := gt a1 x a' ea
          obtain ⟨lb, gb⟩ := gt b1 y b' eb
          repeat walk_at "st"
          rw [slc_post, if_pos (by simpa using e1)]
          repeat walk_at "st"
          rw [slc_post, if_pos (by simpa using e2)]
          repeat walk_at "st"
          rw [ix]
          refine IdxS.str (x := x) _ ⟨by (first | lia | omega), by (first | lia | omega)⟩ (seqIndex_neg' _ _ (by (first | lia | omega)) la) ga ?_
          repeat walk_at "st"
          rw [ix]
          refine IdxS.str (x := y) _ ⟨by (first | lia | omega), by (first | lia | omega)⟩ (seqIndex_neg' _ _ (by (first | lia | omega)) lb) gb ?_
          refine CmpS.eqS ok.toGOk ?_
          rw [if_neg (by simp [hne]), if_neg (by simp)]
          exact ⟨rfl, fin⟩
  have hV : lev c.low a b m = levCut c.low (a1.take (a1.length - post a1 b1)) (b1.take (b1.length - post a1 b1)) m := by
    unfold lev; rw [if_neg h, hA, hB]
  rw [hV]
  generalize hA2 : a1.take (a1.length - post a1 b1) = a2
  generalize hB2 : b1.take (b1.length - post a1 b1) = b2
  have ha2 : a2.length ≤ 1000 := by rw [← hA2, List.length_take]; (first | lia | omega)
  have hb2 : b2.length ≤ 1000 := by rw [← hB2, List.length_take]; (first | lia | omega)
  rintro σ ⟨h1, h2, h3, h4⟩
  iterate 16 walk_at "st"
  rw [slc_post, slc_post, hA2, hB2]
  have okG := ok.toGOk
  have bLen := ok.bLen
  have bMin := ok.bMin
  have bRange := ok.bRange
  have bList := ok.bList
  have cMove := ok.move
  have cMax := ok.maxs
  by_cases hnil : a2 = [] ∨ b2 = []
  · have hL : levCut c.low a2 b2 m = 2 * ((a2.length : Int) + b2.length) := if_pos hnil
    rw [hL]
    by_cases e1 : a2 = []
    · repeat walk_at "st"
      rw [if_pos (by simp [e1]), if_pos rfl]
      repeat walk_at "st"
      refine BinS.mulI (by decide) ?_
      rfl
    · have e2 : b2 = [] := hnil.resolve_left e1
      repeat walk_at "st"
      rw [if_neg (by simp [e1])]
      repeat walk_at "st"
      rw [if_pos (by simp [e2]), if_pos rfl]
      repeat walk_at "st"
      refine BinS.mulI (by decide) ?_
      rfl
  simp only [not_or] at hnil
  repeat walk_at "st"
  rw [if_neg (by simp [hnil.1])]
  repeat walk_at "st"
  rw [if_neg (by simp [hnil.2])]
  repeat walk_at "st"
  rw [if_neg (by simp)]
  repeat walk_at "st"
  by_cases hbig : a2.length > 40 ∨ b2.length > 40
  · have hL : levCut c.low a2 b2 m = m + 1 := by unfold levCut; rw [if_neg (by simp [hnil]), if_pos hbig]
    rw [hL]
    by_cases e1 : a2.length > 40
    · rw [if_pos (by simp; (first | lia | omega)), if_pos rfl]
      repeat walk_at "st"
      rfl
    · rw [if_neg (by simp; (first | lia | omega))]
      repeat walk_at "st"
      rw [if_pos (by simp; (first | lia | omega)), if_pos rfl]
      repeat walk_at "st"
      rfl
  rw [if_neg (by simp; (first | lia | omega))]
  repeat walk_at "st"
  rw [if_neg (by simp; (first | lia | omega))]
  repeat walk_at "st"
  rw [if_neg (by simp)]
  walk_at "st"
  dsimp only
  have hL : levCut c.low a2 b2 m = if b2.length < a2.length then levCore c.low b2 a2 m else levCore c.low a2 b2 m := by
    unfold levCut; rw [if_neg (by simp [hnil]), if_neg hbig]
  rw [hL]
  refine ExSs.cut (fun σ => ∃ a3 b3, hv σ "a" (.str a3) ∧ hv σ "b" (.str b3) ∧ hv σ "max_cost" (.int m) ∧ a3.length ≤ 40 ∧ b3.length ≤ 40 ∧ (if b2.length < a2.length then levCore c.low b2 a2 m else levCore c.low a2 b2 m) = levCore c.low a3 b3 m) ?_ ?_
  · repeat walk_at "st"
    by_cases hlt : b2.length < a2.length
    · rw [if_pos (by simp; (first | lia | omega))]
      walk_at "st"
      refine ExS.swapTup (xs := ["a", "b"]) (by intro x hx; simp at hx; rcases hx with rfl | rfl <;> exact Or.inl rfl) ?_ (by intro env he; obtain ⟨sc⟩ := env; cases he; rfl)
      repeat walk_at "st"
      refine ⟨show 2 ≤ big by decide +kernel, _, rfl, rfl, ?_⟩
      walk_at "st"
      refine ⟨rfl, b2, a2, ?_, ?_, ?_, by (first | lia | omega), by (first | lia | omega), by rw [if_pos hlt]⟩
      all_goals (simp only [putAll, List.reverse_cons, List.reverse_nil, List.nil_append, List.cons_append]; walk_at "lk")
    · rw [if_neg (by simp; (first | lia | omega))]
      walk_at "st"
      refine ⟨rfl, a2, b2, ?_, ?_, ?_, by (first | lia | omega), by (first | lia | omega), by rw [if_neg hlt]⟩
      all_goals walk_at "lk"
  rintro σ ⟨a3, b3, h1, h2, h3, la3, lb3, hV3⟩
  rw [hV3]
  repeat walk_at "st"
  refine BinS.mulI (by (first | lia | omega)) ?_
  repeat walk_at "st"
  by_cases hfar : ((b3.length : Int) - a3.length) * 2 > m
  · have hL : levCore c.low a3 b3 m = m + 1 := if_pos hfar
    rw [hL, if_pos (by simpa using hfar)]
    repeat walk_at "st"
    rfl
  have hL : levCore c.low a3 b3 m = outer c.low a3 m b3 0 (levRow a3.length) 0 := if_neg hfar
  rw [hL, if_neg (by simpa using hfar)]
  iterate 2 walk_at "st"
  refine ExS.assignG (Or.inl rfl) (EvG.callB okG bList trivial ?_ rfl) (by intro _; rfl)
  repeat walk_at "st"
  refine BinS.mulI (by decide) ?_
  repeat walk_at "st"
  refine BltG.listRange (range_small2 _ (by (first | lia | omega))) (by rw [rangeSize_2]; (first | lia | omega)) (by rw [rangeSize_2]; (first | lia | omega)) ?_
  rw [rangeL_2]
  iterate 3 walk_at "st"
  dsimp only
  generalize hVV : outer c.low a3 m b3 0 (levRow a3.length) 0 = V
  have lrow : (levRow a3.length).length = a3.length := by simp [levRow]
  refine ExSs.cutR (fun σ => hv σ "result" (.int V)) (ExS.for_ okG ?_) ?_
  · repeat walk_at "st"
    refine IterP.rangeN (by (first | lia | omega)) (ForS.range _ (fun j σ => ∃ row res, row.length = a3.length ∧ hv σ "a" (.str a3) ∧ hv σ "b" (.str b3) ∧ hv σ "max_cost" (.int m) ∧ ho σ "row" (row.map PV.int) ∧ hv σ "result" (.int res) ∧ outer c.low a3 m (b3.drop j) j row res = V)
      ⟨levRow a3.length, 0, lrow, ?_, ?_, ?_, ?_, ?_, hVV⟩ ?_ ?_)
    · walk_at "lk"
    · walk_at "lk"
    · walk_at "lk"
    · walk_at "lk"
    · walk_at "lk"
    · rintro σ ⟨row, res, _, _, _, _, _, h5, h6⟩
      rw [List.drop_length] at h6
      exact .inl ⟨rfl, by rw [← h6]; exact h5⟩
    · rintro j σ hj ⟨row, res, lr, g1, g2, g3, g4, g5, g6⟩
      have hjb : j < b3.length := hj
      obtain ⟨ch, hch⟩ : ∃ ch, b3[j]? = some ch := ⟨b3[j], List.getElem?_eq_getElem hjb⟩
      have hdrop : b3.drop j = ch :: b3.drop (j + 1) := by
        rw [List.drop_eq_getElem_cons hjb]
        rw [List.getElem?_eq_getElem hjb] at hch; cases hch; rfl
      rw [hdrop] at g6
      refine AsS.name (Or.inl rfl) ?_
      repeat walk_at "st"
      refine IdxS.strN (x := ch) (by (first | lia | omega)) hjb hch ?_
      walk_at "st"
      refine ExS.assign2 (Or.inl rfl) (Or.inl rfl) ?_ (by intro _; rfl)
      repeat walk_at "st"
      refine BinS.mulI (by (first | lia | omega)) ?_
      iterate 3 walk_at "st"
      dsimp only
      refine ExSs.cut (fun σ => hv σ "a" (.str a3) ∧ hv σ "b" (.str b3) ∧ hv σ "max_cost" (.int m) ∧ ho σ "row" ((iters c.low ch a3 ⟨row, j * 2, j * 2, maxsize⟩ a3.length).row.map PV.int) ∧
        hv σ "result" (.int (iters c.low ch a3 ⟨row, j * 2, j * 2, maxsize⟩ a3.length).res) ∧ hv σ "minimum" (.int (iters c.low ch a3 ⟨row, j * 2, j * 2, maxsize⟩ a3.length).mn)) (ExS.for_ okG ?_) ?_
      · repeat walk_at "st"
        refine IterP.rangeN (by (first | lia | omega)) (ForS.range _ (fun i σ => hv σ "a" (.str a3) ∧ hv σ "b" (.str b3) ∧ hv σ "max_cost" (.int m) ∧ hv σ "bchar" (.str [ch]) ∧ ho σ "row" ((iters c.low ch a3 ⟨row, j * 2, j * 2, maxsize⟩ i).row.map PV.int) ∧
          hv σ "distance" (.int (iters c.low ch a3 ⟨row, j * 2, j * 2, maxsize⟩ i).dist) ∧ hv σ "result" (.int (iters c.low ch a3 ⟨row, j * 2, j * 2, maxsize⟩ i).res) ∧ hv σ "minimum" (.int (iters c.low ch a3 ⟨row, j * 2, j * 2, maxsize⟩ i).mn))
          ⟨?_, ?_, ?_, ?_, ?_, ?_, ?_, ?_⟩ ?_ ?_)
        · walk_at "lk"
        · walk_at "lk"
        · walk_at "lk"
        · walk_at "lk"
        · walk_at "lk"
        · walk_at "lk"
        · walk_at "lk"
        · walk_at "lk"
        · rintro σ ⟨k1, k2, k3, k4, k5, k6, k7, k8⟩
          exact ⟨rfl, k1, k2, k3, k5, k7, k8⟩
        · rintro i σ hi ⟨k1, k2, k3, k4, k5, k6, k7, k8⟩
          have hia : i < a3.length := hi
          obtain ⟨x, hx⟩ : ∃ x, a3[i]? = some x := ⟨a3[i], List.getElem?_eq_getElem hia⟩
          generalize hS : iters c.low ch a3 ⟨row, j * 2, j * 2, maxsize⟩ i = S at k5 k6 k7 k8
          have hS1 : iters c.low ch a3 ⟨row, j * 2, j * 2, maxsize⟩ (i + 1) = istep c.low ch x i S := by
            show istep c.low ch (a3.getD i 0) i _ = _
            rw [hS, List.getD_eq_getElem?_getD, hx]; rfl
          have lS : S.row.length = a3.length := by rw [← hS, iters_len]; exact lr
          obtain ⟨d, hd⟩ : ∃ d, S.row[i]? = some d := ⟨S.row[i], List.getElem?_eq_getElem (by (first | lia | omega))⟩
          have hdd : S.row.getD i 0 = d := by rw [List.getD_eq_getElem?_getD, hd]; rfl
          rw [hS1]
          refine AsS.name (Or.inl rfl) ?_
          repeat walk_at "st"
          refine EvE.call okG (EvE.gfun okG ok.subV (by rw [ok.recs]; rfl) ⟨trivial, ?_⟩ rfl) rfl
          repeat walk_at "st"
          refine IdxS.strN (x := x) (by (first | lia | omega)) hia hx ?_
          walk_at "st"
          refine CallS.mono (subst_call ok n ch x) ?_
          rintro _ rfl
          repeat walk_at "st"
          refine ⟨(i : Int), i, .int d, rfl, ⟨by (first | lia | omega), by (first | lia | omega)⟩, seqIndex_nat _ _ (by rw [List.length_map]; (first | lia | omega)), by rw [List.getElem?_map, hd]; rfl, ?_⟩
          repeat walk_at "st"
          refine ExS.setItem (l := S.row.map PV.int) (by walk_at "lk") ?_ (by intro _; rfl)
          repeat walk_at "st"
          refine ⟨(i : Int), rfl, by (first | lia | omega), by rw [List.length_map]; (first | lia | omega), ?_⟩
          rw [Int.toNat_natCast]
          have hset : ∀ r : Int, (S.row.map PV.int).set i (.int r) = (S.row.set i r).map PV.int := fun r => (List.map_set ..).symm
          rw [hset]
          repeat walk_at "st"
          generalize hr : min (min S.res d + 2) (S.dist + scost c.low ch x) = r
          have hst : istep c.low ch x i S = ⟨S.row.set i r, d, r, if r < S.mn then r else S.mn⟩ := by
            unfold istep; simp only [hdd, hr]
          rw [hst]
          by_cases hmn : r < S.mn
          · rw [if_pos (by simpa using hmn)]
            repeat walk_at "st"
            rw [if_pos hmn]
            refine ⟨?_, ?_, ?_, ?_, ?_, ?_, ?_, ?_⟩ <;> walk_at "lk"
          · rw [if_neg (by simpa using hmn)]
            repeat walk_at "st"
            rw [if_neg hmn]
            refine ⟨?_, ?_, ?_, ?_, ?_, ?_, ?_, ?_⟩ <;> walk_at "lk"
      · generalize hS : iters c.low ch a3 ⟨row, j * 2, j * 2, maxsize⟩ a3.length = S
        have lS : S.row.length = a3.length := by rw [← hS, iters_len]; exact lr
        have g7 : (if S.mn > m then m + 1 else outer c.low a3 m (b3.drop (j + 1)) (j + 1) S.row S.res) = V := by
          rw [← g6, ← hS]; rfl
        rintro σ ⟨k1, k2, k3, k4, k5, k6⟩
        repeat walk_at "st"
        by_cases hmn : S.mn > m
        · rw [if_pos (by simpa using hmn)]
          rw [if_pos hmn] at g7
          repeat walk_at "st"
          exact .inr ⟨_, rfl, by rw [g7]⟩
        · rw [if_neg (by simpa using hmn)]
          rw [if_neg hmn] at g7
          repeat walk_at "st"
          exact ⟨S.row, S.res, lS, k1, k2, k3, k4, k5, g7⟩
  · rintro σ g
    repeat walk_at "st"
    rfl

theorem srev_call {c : GCtx} {mks} (ok : GOk c) (hrec : c.recs = recsP pw3 mks) (hm : mks.lookup (Str.ofString "search_reverse") = none) (k : Nat) (x : List Sym) (srch : Int → Option (Int × Int)) (v : PV) (hv : ProgP c (k + 1) x srch v) (col : Int) (hcol : col ≤ 1000)
    (hs : ∀ s p, 0 ≤ s → srch s = some p → s ≤ p.1 ∧ p.1 ≤ p.2) : CallS c (k + 2) (.glob "search_reverse") [v, .str x, .int col] (OptP c (srev srch col)) := by
  have e : defRec? pw3 "search_reverse" = defRec? pw3 "search_reverse" := rfl
  conv at e => rhs; whnf
  refine CallS.globP ok hrec e hm rfl (by rfl) (by rfl) ?_
  clear e
  dsimp only
  obtain ⟨r, caps, dfl, f, rfl, hcf, hs0, hs1⟩ := hv
  iterate 2 walk_at "st"
  refine EvE.callAttr ok no_search (EvE.name (by walk_at "lk") ⟨r, caps, dfl, f, rfl, hcf, ?_⟩) (by with_unfolding_all rfl) (by decide) (by with_unfolding_all rfl) (by intro _; with_unfolding_all rfl)
  repeat walk_at "st"
  refine hs0.mono fun mv hm => ?_
  dsimp only
  have tru : ∀ {o : Option (Int × Int)} {mv : PV} {P : Bool → Prop}, OptP c o mv → P o.isSome → TruS c mv P := fun {o mv P} h hp => by
    cases o with
    | none => cases h; exact TruS.none hp
    | some p => obtain ⟨_, _, _, _, rfl, _⟩ := h; exact TruS.fn hp
  repeat walk_at "st"
  refine tru hm ?_
  cases e0 : srch 0 with
  | none =>
    rw [if_pos (by simp)]
    repeat walk_at "st"
    simp [srev, e0, OptP]
  | some p =>
    rw [if_neg (by simp)]
    rw [e0] at hm
    repeat walk_at "st"
    have st2 : ∀ {F : FSt} {a b : Str} , F.scope.names.lookup a = some .local → F.scope.names.lookup b = some .local → ∀ x ∈ [a, b], Storable F x := fun {F a b} h1 h2 x hx => by
      simp at hx; rcases hx with rfl | rfl
      · exact .inl h1
      · exact .inl h2
    have span : ∀ {σ : Store} {F : FSt} {mn : Str} {mp ap cp : Pos} {p : Int × Int} {mv : PV} {P : PV → Prop}, σ.lookup mn = some (.val mv) → (mn == ("__debug__" : Str)) = false → 1 ≤ F.n → HitP c p.1 p.2 mv → P (.tuple [.int p.1, .int p.2]) → (ap.endLine == cp.line) = true →
        EvE c F (.Call (.Attribute (.Name mn mp) "span" ap) [] [] cp) σ P := fun {σ F mn mp ap cp p mv P} h1 h1' h2 h3 h4 h5 => by
      obtain ⟨r, caps, dfl, f, rfl, hcf, hsp⟩ := h3
      exact EvE.callAttr ok no_span (EvE.name h1 ⟨r, caps, dfl, f, rfl, hcf, (hsp.le h2).mono fun w hw => hw ▸ h4⟩ h1') rfl (by decide) h5 (by intro _; rfl)
    refine ExS.assignTup (xs := ["i", "j"]) (by with_unfolding_all rfl) (st2 (by with_unfolding_all rfl) (by with_unfolding_all rfl)) (span (by walk_at "lk") (by decide) (by show 1 ≤ k + 1; (first | lia | omega)) hm ⟨_, rfl, rfl, ?_⟩ (by with_unfolding_all rfl)) (by intro _; with_unfolding_all rfl) (by intro env henv; with_unfolding_all rfl)
    dsimp only [putAll]
    have hp0 := hs 0 p (by (first | lia | omega)) e0
    refine ExSs.cut (fun σ => ∃ fv, Mine.hv σ "found" fv ∧ OptP c (srev srch col) fv) (ExS.whileI (fun N σ => ∃ (p : Int × Int) (fnd : Option (Int × Int)) (mv fv : PV), Mine.hv σ "prog" (.fn r caps dfl (some ("search", f))) ∧ Mine.hv σ "chars" (.str x) ∧ Mine.hv σ "col" (.int col) ∧ Mine.hv σ "i" (.int p.1) ∧ Mine.hv σ "j" (.int p.2) ∧ Mine.hv σ "m" mv ∧ Mine.hv σ "found" fv ∧
      HitP c p.1 p.2 mv ∧ OptP c fnd fv ∧ srevGo srch col N p fnd = srev srch col ∧ col < p.1 + N ∧ 0 ≤ p.1 ∧ p.1 ≤ p.2) (col.toNat + 1) ⟨p, none, mv, .none, ?_, ?_, ?_, ?_, ?_, ?_, ?_, hm, rfl, ?_, ?_, ?_, hp0.2⟩ ?_) ?_
    · walk_at "lk"
    · walk_at "lk"
    · walk_at "lk"
    · walk_at "lk"
    · walk_at "lk"
    · walk_at "lk"
    · walk_at "lk"
    · simp [srev, e0]
    · (first | lia | omega)
    · (first | lia | omega)
    · rintro N σ ⟨p, fnd, mv, fv, h1, h2, h3, h4, h5, h6, h7, hM, hF, hgo, hN, h0, hle⟩
      repeat walk_at "st"
      by_cases c1 : p.1 < col
      · rw [if_pos (by simpa using c1)]
        repeat walk_at "st"
        by_cases c2 : p.2 ≤ col
        · rw [if_pos (by simpa using c2)]
          repeat walk_at "st"
          rw [if_pos rfl]
          cases N with
          | zero => (first | lia | omega)
          | succ N =>
          unfold srevGo at hgo
          rw [if_pos ⟨c1, c2⟩] at hgo
          iterate 3 walk_at "st"
          dsimp only
          refine ExSs.cut (fun σ1 => Mine.hv σ1 "prog" (.fn r caps dfl (some ("search", f))) ∧ Mine.hv σ1 "chars" (.str x) ∧ Mine.hv σ1 "col" (.int col) ∧ Mine.hv σ1 "j" (.int (if p.1 = p.2 then p.2 + 1 else p.2)) ∧ Mine.hv σ1 "found" mv) ?_ ?_
          · repeat walk_at "st"
            by_cases c3 : p.1 = p.2
            · rw [if_pos (by simpa using c3), if_pos c3]
              repeat walk_at "st"
              refine ⟨rfl, ?_, ?_, ?_, ?_, ?_⟩
              all_goals walk_at "lk"
            · rw [if_neg (by simpa using c3), if_neg c3]
              repeat walk_at "st"
              refine ⟨rfl, ?_, ?_, ?_, ?_, ?_⟩
              all_goals walk_at "lk"
          rintro σ1 ⟨g1, g2, g3, g4, g5⟩
          iterate 2 walk_at "st"
          refine EvE.callAttr ok no_search (EvE.name (by walk_at "lk") ⟨r, caps, dfl, f, rfl, hcf, ?_⟩) (by with_unfolding_all rfl) (by decide) (by with_unfolding_all rfl) (by intro _; with_unfolding_all rfl)
          repeat walk_at "st"
          have hj0 : 0 ≤ (if p.1 = p.2 then p.2 + 1 else p.2) := by split <;> (first | lia | omega)
          have hj1 : (if p.1 = p.2 then p.2 + 1 else p.2) ≤ 1000000 := by split <;> (first | lia | omega)
          have hj2 : p.1 < (if p.1 = p.2 then p.2 + 1 else p.2) := by split <;> (first | lia | omega)
          generalize (if p.1 = p.2 then p.2 + 1 else p.2) = s' at hgo g4 hj0 hj1 hj2 ⊢
          refine (hs1 s' hj0 hj1).mono fun mv2 hm2 => ?_
          dsimp only
          repeat walk_at "st"
          refine tru hm2 ?_
          cases e1 : srch s' with
          | none =>
            rw [if_pos (by simp)]
            repeat walk_at "st"
            rw [e1] at hgo
            exact ⟨rfl, mv, by walk_at "lk", by rw [← hgo]; exact hM⟩
          | some q =>
            rw [if_neg (by simp)]
            rw [e1] at hgo hm2
            repeat walk_at "st"
            refine ExS.assignTup (xs := ["i", "j"]) (by with_unfolding_all rfl) (st2 (by with_unfolding_all rfl) (by with_unfolding_all rfl)) (span (by walk_at "lk") (by decide) (by show 1 ≤ k + 1; (first | lia | omega)) hm2 ⟨_, rfl, rfl, ?_⟩ (by with_unfolding_all rfl)) (by intro _; with_unfolding_all rfl) (by intro env henv; with_unfolding_all rfl)
            dsimp only [putAll]
            repeat walk_at "st"
            have hq := hs s' q hj0 e1
            refine ⟨N, Nat.lt_succ_self N, q, some p, mv2, mv, ?_, ?_, ?_, ?_, ?_, ?_, ?_, hm2, hM, hgo, by (first | lia | omega), by (first | lia | omega), hq.2⟩
            all_goals walk_at "lk"
        · rw [if_neg (by simpa using c2), if_neg (by simp)]
          have : srevGo srch col N p fnd = fnd := by cases N <;> simp [srevGo, c2]
          exact ⟨rfl, fv, h7, by rw [← hgo, this]; exact hF⟩
      · rw [if_neg (by simpa using c1), if_neg (by simp)]
        have : srevGo srch col N p fnd = fnd := by cases N <;> simp [srevGo, c1]
        exact ⟨rfl, fv, h7, by rw [← hgo, this]; exact hF⟩
    · rintro σ ⟨fv, h1, h2⟩
      repeat walk_at "st"
      exact h2

section
theorem srevGo_from {srch : Int → Option (Int × Int)} {col : Int} (Q : Int × Int → Prop) (hQ : ∀ s q, srch s = some q → Q q) : ∀ (n : Nat) (p : Int × Int) (fnd : Option (Int × Int)), Q p → (∀ q, fnd = some q → Q q) → ∀ q, srevGo srch col n p fnd = some q → Q q
  | 0, p, fnd, hp, hf, q, h => hf q h
  | n + 1, p, fnd, hp, hf, q, h => by
    unfold srevGo at h
    by_cases hc : p.1 < col ∧ p.2 ≤ col
    · rw [if_pos hc] at h
      cases e : srch (if p.1 = p.2 then p.2 + 1 else p.2) with
      | none => rw [e] at h; cases h; exact hp
      | some q' => rw [e] at h; exact srevGo_from Q hQ n q' (some p) (hQ _ _ e) (fun r hr => by cases hr; exact hp) q h
    · rw [if_neg hc] at h; exact hf q h
theorem srev_from {srch : Int → Option (Int × Int)} {col : Int} (Q : Int × Int → Prop) (hQ : ∀ s q, srch s = some q → Q q) {q : Int × Int} (h : srev srch col = some q) : Q q := by
  unfold srev at h
  cases e : srch 0 with
  | none => rw [e] at h; cases h
  | some p => rw [e] at h; exact srevGo_from Q hQ _ p none (hQ _ _ e) (fun _ hr => by cases hr) q h

theorem slc_ab {α : Type} (l : List α) (a b : Nat) : slc (some (a : Int)) (some (b : Int)) l = (l.drop a).take (b - a) := by
  unfold slc
  simp only [Option.elim, clipAt_nat]
  by_cases h : a ≤ l.length
  · rw [Nat.min_eq_left h]
    by_cases hb : b ≤ l.length
    · rw [Nat.min_eq_left hb]
    · rw [Nat.min_eq_right (show l.length ≤ b by (first | lia | omega)), List.take_of_length_le (by simp), List.take_of_length_le (by simp; (first | lia | omega))]
  · rw [Nat.min_eq_right (show l.length ≤ a by (first | lia | omega)), List.drop_length, List.drop_eq_nil_of_le (show l.length ≤ a by (first | lia | omega))]; simp

end

section
noncomputable def low3 (x : Sym) : Sym := if x = 1 then 0 else x
noncomputable def srchPl (places : List Nat) (s : Int) : Option (Int × Int) := (places.find? fun (p : Nat) => decide (s ≤ (p : Int))).map fun (p : Nat) => ((p : Int), (p : Int))
theorem srchPl_le (places : List Nat) (s : Int) (q : Int × Int) (h : srchPl places s = some q) : s ≤ q.1 ∧ q.1 ≤ q.2 := by
  unfold srchPl at h
  cases e : places.find? (fun (p : Nat) => decide (s ≤ (p : Int))) with
  | none => rw [e] at h; cases h
  | some k =>
    rw [e] at h; cases h
    have := List.find?_some e
    simp at this
    exact ⟨this, Int.le_refl _⟩
noncomputable def backGo (places : List Nat) : Nat → Int → List Int → List Int
  | 0, _, told => told
  | n + 1, col, told => match srev (srchPl places) col with
    | none => told
    | some q => backGo places n q.1 (told ++ [q.1])
noncomputable def subs : Nat → List (List Nat)
  | 0 => [[]]
  | n + 1 => subs n ++ (subs n).map fun l => l ++ [n]
theorem filter_subs (p : Nat → Bool) : ∀ n, (List.range n).filter p ∈ subs n
  | 0 => by simp [subs]
  | n + 1 => by
    have ih := filter_subs p n
    rw [List.range_succ, List.filter_append]
    unfold subs
    cases h : p n with
    | true => refine List.mem_append_right _ (List.mem_map.mpr ⟨_, ih, ?_⟩); simp [h]
    | false => refine List.mem_append_left _ ?_; simpa [h] using ih
theorem backGo_all : ∀ m : Fin 5, ∀ l ∈ subs (m.val + 1), backGo l (m.val + 2) (m.val + 1 : Nat) [] = l.reverse.map (fun (k : Nat) => (k : Int)) := by decide +kernel
theorem backGo_ok {m : Nat} (hm : m ≤ 4) {l : List Nat} (h : l ∈ subs (m + 1)) : backGo l (m + 2) (m + 1 : Nat) [] = l.reverse.map (fun (k : Nat) => (k : Int)) := backGo_all ⟨m, by (first | lia | omega)⟩ l h

section
variable (low : Sym → Sym)
noncomputable def crossed (w o : List Sym) (b : Nat) : List Nat := (List.range (o.length + 1)).filter fun p => decide (dist low (w.take b) (o.take p) + dist low (w.drop b) (o.drop p) = dist low w o)
noncomputable def lastC (w o : List Sym) (b : Nat) : Nat := ((crossed low w o b).reverse).headD 0
noncomputable def halvedN : Nat → List Sym → List Sym → Nat → List Nat
  | 0, _, _, _ => []
  | n + 1, w, o, ahead => if w.length < 2 then [] else
      halvedN n (w.take (w.length / 2)) (o.take (lastC low w o (w.length / 2))) ahead ++ [ahead + lastC low w o (w.length / 2)] ++
        halvedN n (w.drop (w.length / 2)) (o.drop (lastC low w o (w.length / 2))) (ahead + lastC low w o (w.length / 2))
noncomputable def lastsN (w o : List Sym) : List Nat := (List.range (w.length + 1)).map (lastC low w o)
noncomputable def seg (o : List Sym) (a b : Nat) : List Sym := (o.drop a).take (b - a)
noncomputable def spentGo (o : List Sym) : List Sym → List Nat → Nat
  | x :: w, a :: b :: ls => dist low [x] (seg o a b) + spentGo o w (b :: ls)
  | _, _ => 0
variable {low}
theorem crossed_sub (w o : List Sym) (b : Nat) : crossed low w o b ∈ subs (o.length + 1) := filter_subs _ _
theorem crossed_ne {w o : List Sym} {b : Nat} (hb : b ≤ w.length) : crossed low w o b ≠ [] := by
  obtain ⟨i, hi, e⟩ := dist_split (low := low) o w b hb
  rw [dist_comm o w, dist_comm (o.take i), dist_comm (o.drop i)] at e
  have : i ∈ crossed low w o b := List.mem_filter.mpr ⟨List.mem_range.mpr (by (first | lia | omega)), by rw [e]; simp⟩
  intro h
  rw [h] at this
  cases this
theorem lastC_le (w o : List Sym) (b : Nat) : lastC low w o b ≤ o.length := by
  unfold lastC
  cases e : (crossed low w o b).reverse with
  | nil => exact Nat.zero_le _
  | cons p r =>
    have : p ∈ crossed low w o b := by rw [← List.mem_reverse, e]; exact List.mem_cons_self
    have := List.mem_range.mp (List.mem_filter.mp this).1
    show p ≤ _
    (first | lia | omega)
end
end

structure L3 (c : GCtx) (mks : List (Str × Addr)) : Prop extends LevOk c pw3 mks where
  bm : BmOk c
  bSum : Blt c "sum" (.builtin "sum")
  bChr : Blt c "chr" (.builtin "chr")
  bMax : Blt c "max" (.builtin "max")
  bIsinstance : Blt c "isinstance" (.builtin "isinstance")
  bBool : Blt c "bool" (.type "bool")
  bSorted : Blt c "sorted" (.builtin "sorted")
  someF : ∃ m, mks.lookup (Str.ofString "_law_finder") = some m
  none_ : ∀ x, x ≠ Str.ofString "_law_finder" → mks.lookup x = none
theorem L3.no {c mks} (ok : L3 c mks) (x : String) (h : x ≠ "_law_finder") : mks.lookup (Str.ofString x) = none := ok.none_ _ (fun q => h (ofString_inj.mp q))
noncomputable def pints (l : List Nat) : List PV := l.map fun (k : Nat) => .int k

theorem capsF_place (σ : Store) (k : Int) : capsF (σ.put "place" (.val (.int k))) [((Str.ofString "place"), NameKind.free)] [] = [((Str.ofString "place"), PV.int k)] := by
  have : pvOf (σ.put "place" (.val (.int k))) "place" = .int k := by unfold pvOf; rw [Store.lookup_put]; simp
  exact congrArg (fun v => [(Str.ofString "place", v)]) this
theorem find_drop {p : Nat → Bool} {l : List Nat} {i x : Nat} (hi : i < l.length) (hx : l[i]? = some x) : (l.drop i).find? p = if p x then some x else (l.drop (i + 1)).find? p := by
  rw [List.drop_eq_getElem_cons hi, List.find?_cons]
  rw [List.getElem?_eq_getElem hi] at hx; cases hx
  cases p l[i] <;> rfl

theorem finder_call {c : GCtx} {mks} (ok : L3 c mks) (n : Nat) (pl : List Nat) (hp : pl.length ≤ 100) :
    CallS c (n + 1) (.glob "_law_finder") [.list (pints pl)] fun v => ∀ (k : Nat) (x : List Sym), ProgP c (k + 1) x (srchPl pl) v := by
  have e : defRec? pw3 "_law_finder" = defRec? pw3 "_law_finder" := rfl
  conv at e => rhs; whnf
  have okG := ok.toGOk
  obtain ⟨m, hm⟩ := ok.someF
  refine CallS.globP okG ok.recs e hm rfl (by rfl) (by rfl) ?_
  clear e
  dsimp only
  refine ExSs.shut rfl ?_
  refine ExSs.cons (ExS.def_ okG ok.bm rfl ?_ rfl rfl (by intro _; rfl) (by rfl) (Or.inl rfl) ?_)
  · intro y hy
    simp at hy
    subst hy
    exact ⟨rfl, rfl, _, rfl⟩
  refine EvE.int ?_
  dsimp only
  refine ExSs.lamAttr okG ok.bm rfl (by intro y hy; cases hy) rfl rfl (by walk_at "lk") rfl no_search (EvE.name (by walk_at "lk") ?_) (by intro _; rfl)
  refine ExSs.cons (ExS.ret (EvE.name (by walk_at "lk") ?_))
  dsimp only
  intro k x
  refine ⟨_, _, _, _, rfl, trivial, ?_⟩
  refine And.imp id (fun H u h0 h1 => H u ⟨h0, h1⟩) (CallS.fnD (P := fun s => OptP c (srchPl pl s)) (fun s => 0 ≤ s ∧ s ≤ 1000000) okG rfl (by decide +kernel) (scOk_caps (by decide +kernel) ?_) ⟨Or.inl rfl, Or.inl rfl⟩ ⟨by (first | lia | omega), by (first | lia | omega)⟩ fun s hs => ?_)
  · intro y hy
    have hy' : y ∈ (([("places", PV.list (pints pl))] : List (Str × PV)).map (·.1)) := hy
    have : y = "places" := by simpa using hy'
    subst this
    exact ⟨by rfl, by decide +kernel⟩
  dsimp only
  generalize hV : srchPl pl s = V
  refine ExSs.cutR (fun σ => V = none) (ExS.for_ okG ?_ (by intros; rfl)) ?_
  · repeat walk_at "st"
    refine IterP.list (ForS.list pl (fun (k : Nat) => PV.int k) (fun i σ => hv σ "start" (.int s) ∧ List.lookup (Str.ofString "hit") σ = none ∧ ((pl.drop i).find? fun (p : Nat) => decide (s ≤ (p : Int))).map (fun (p : Nat) => ((p : Int), (p : Int))) = V) ⟨?_, ?_, ?_⟩ ?_ ?_)
    · walk_at "lk"
    · walk_at "lk"
    · exact hV
    · rintro σ ⟨h1, h2, h3⟩
      rw [List.drop_length] at h3
      exact .inl ⟨rfl, h3.symm⟩
    · rintro i q σ hx hi ⟨h1, h2, h3⟩
      rw [find_drop hi hx] at h3
      refine AsS.name (Or.inr ⟨rfl, rfl⟩) ?_
      repeat walk_at "st"
      by_cases hc : s ≤ (q : Int)
      · rw [if_pos (by simpa using hc)]
        rw [if_pos (by simpa using hc)] at h3
        refine ExSs.shut rfl ?_
        refine ExSs.lamAttr okG ok.bm rfl (by intro y hy; cases hy) rfl rfl (by walk_at "lk") rfl no_span (EvE.lam okG ok.bm rfl ?_ rfl rfl ?_) (by intro _; rfl)
        · intro y hy
          simp at hy
          subst hy
          exact ⟨rfl, rfl, .int q, by walk_at "lk"⟩
        refine ExSs.cons (ExS.ret (EvE.name (by walk_at "lk") ?_))
        dsimp only
        rw [capsF_place]
        refine .inr ⟨_, rfl, ?_⟩
        rw [← h3]
        refine ⟨_, _, _, _, rfl, trivial, CallS.fn0 okG rfl (scOk_caps (by decide +kernel) ?_) ?_⟩
        · intro y hy
          have : y = "place" := by simpa using hy
          subst this
          exact ⟨by rfl, by decide +kernel⟩
        dsimp only
        with_unfolding_all change EvE c _ _ ([("place", .val (.int q))] : Store) _
        repeat walk_at "st"
        exact ⟨show 2 ≤ big by decide +kernel, rfl⟩
      · rw [if_neg (by simpa using hc)]
        rw [if_neg (by simpa using hc)] at h3
        repeat walk_at "st"
        refine ⟨?_, ?_, h3⟩
        · walk_at "lk"
        · walk_at "lk"
  · rintro σ rfl
    repeat walk_at "st"
    rfl

theorem mem_subs : ∀ {n : Nat} {l : List Nat}, l ∈ subs n → ∀ x ∈ l, x < n
  | 0, l, h, x, hx => by simp [subs] at h; subst h; cases hx
  | n + 1, l, h, x, hx => by
    unfold subs at h
    rcases List.mem_append.mp h with h | h
    · exact Nat.lt_succ_of_lt (mem_subs h x hx)
    · obtain ⟨l', h1, rfl⟩ := List.mem_map.mp h
      rcases List.mem_append.mp hx with q | q
      · exact Nat.lt_succ_of_lt (mem_subs h1 x q)
      · simp at q; subst q; exact Nat.lt_succ_self _
theorem srchPl_mem {pl : List Nat} {s : Int} {q : Int × Int} (h : srchPl pl s = some q) : ∃ p ∈ pl, q = ((p : Int), (p : Int)) := by
  unfold srchPl at h
  cases e : pl.find? (fun (p : Nat) => decide (s ≤ (p : Int))) with
  | none => rw [e] at h; cases h
  | some k => rw [e] at h; cases h; exact ⟨k, List.mem_of_find?_eq_some e, rfl⟩
theorem len_subs : ∀ {n : Nat} {l : List Nat}, l ∈ subs n → l.length ≤ n
  | 0, l, h => by simp [subs] at h; subst h; exact Nat.le_refl _
  | n + 1, l, h => by
    unfold subs at h
    rcases List.mem_append.mp h with h | h
    · exact Nat.le_succ_of_le (len_subs h)
    · obtain ⟨l', h1, rfl⟩ := List.mem_map.mp h
      rw [List.length_append]
      exact Nat.succ_le_succ (len_subs h1)

theorem back_call {c : GCtx} {mks} (ok : L3 c mks) (n : Nat) (w : List Sym) (pl : List Nat) (hw : w.length ≤ 4) (hpl : pl ∈ subs (w.length + 1)) :
    CallS c (n + 3) (.glob "_law_back") [.str w, .list (pints pl)] fun v => v = .list (pints pl.reverse) := by
  have e : defRec? pw3 "_law_back" = defRec? pw3 "_law_back" := rfl
  conv at e => rhs; whnf
  have okG := ok.toGOk
  have bLen := ok.bLen
  have bRange := ok.bRange
  have fn : ∀ x, (defRec? pw3 x).isSome = true → (∃ v, c.mg x = some v) ∧ (c.recs x).isSome = true := fun x h => okG.fnV ok.recs h
  refine CallS.globP okG ok.recs e (ok.no _ (by decide)) rfl (by rfl) (by rfl) ?_
  clear e
  dsimp only
  have hV := backGo_ok hw hpl
  have eV : pints pl.reverse = (pl.reverse.map fun (k : Nat) => (k : Int)).map PV.int := by rw [List.map_map]; rfl
  rw [eV]
  generalize (pl.reverse.map fun (k : Nat) => (k : Int)) = V at hV
  repeat walk_at "st"
  refine EvE.call okG (EvE.gfun okG (fn "_law_finder" (by rfl)).1 (fn "_law_finder" (by rfl)).2 ⟨trivial, ?_⟩ (by rfl)) (by rfl)
  repeat walk_at "st"
  refine CallS.mono (finder_call ok (n + 1) pl (Nat.le_trans (len_subs hpl) (by (first | lia | omega)))) ?_
  intro prog hprog
  walk_at "st"
  refine ExS.swapTupG (xs := ["told", "col"]) (stor2 (by with_unfolding_all rfl) (by with_unfolding_all rfl)) ?_ (by rfl) ?_ (by intro _; rfl)
  · refine EvGL.cons (EvG.list (EvL.nil ⟨Nat.zero_le _, EvGL.consV ?_⟩))
    repeat walk_at "st"
    refine EvGL.nil ⟨rfl, show 2 ≤ big by decide +kernel, ?_⟩
    dsimp only [putAllS, List.reverse_cons, List.reverse_nil, List.nil_append, List.cons_append]
    refine ExSs.cutR (fun σ => ho σ "told" (V.map .int)) (ExS.for_ okG ?_) ?_
    · repeat walk_at "st"
      rw [show ((w.length : Int) + 2) = ((w.length + 2 : Nat) : Int) by (first | lia | omega)]
      refine IterP.forN (fun i σ => ∃ (col : Int) (told : List Int), hv σ "word" (.str w) ∧ hv σ "prog" prog ∧ hv σ "col" (.int col) ∧ ho σ "told" (told.map .int) ∧ col ≤ 1000 ∧ told.length ≤ i ∧ backGo pl (w.length + 2 - i) col told = V) (by (first | lia | omega))
        ⟨(w.length : Int) + 1, [], ?_, ?_, ?_, ?_, by (first | lia | omega), Nat.le_refl _, ?_⟩ ?_ ?_
      · walk_at "lk"
      · walk_at "lk"
      · walk_at "lk"
      · walk_at "lk"
      · rw [← hV]; congr 1
      · rintro σ ⟨col, told, h1, h2, h3, h4, h5, h6, h7⟩
        rw [Nat.sub_self] at h7
        have h7 : told = V := h7
        subst h7
        exact .inl ⟨rfl, h4⟩
      · rintro i σ hi ⟨col, told, h1, h2, h3, h4, h5, h6, h7⟩
        rw [show w.length + 2 - i = (w.length + 2 - (i + 1)) + 1 by (first | lia | omega)] at h7
        unfold backGo at h7
        refine AsS.name (Or.inl rfl) ?_
        iterate 2 walk_at "st"
        refine EvE.call okG (EvE.gfun okG (fn "search_reverse" (by rfl)).1 (fn "search_reverse" (by rfl)).2 ⟨trivial, ?_⟩ (by rfl)) (by rfl)
        repeat walk_at "st"
        refine CallS.mono (srev_call okG ok.recs (ok.no _ (by decide)) n w _ prog (hprog n w) col h5 (fun s p _ h => srchPl_le _ s p h)) ?_
        intro hit hh
        have hq : ∀ q, srev (srchPl pl) col = some q → q.1 ≤ 1000 := fun q hq => srev_from (fun q => q.1 ≤ 1000) (fun s q h => by
          obtain ⟨p, h1, rfl⟩ := srchPl_mem h
          have := mem_subs hpl p h1
          show (p : Int) ≤ 1000
          (first | lia | omega)) hq
        generalize srev (srchPl pl) col = h at h7 hh hq
        repeat walk_at "st"
        refine CmpS.isNone okG ?_
        cases h with
        | none =>
          cases hh
          have h7 : told = V := h7
          subst h7
          rw [if_pos (show PV.none.isNone = true from rfl)]
          refine ExSs.freeze "told" _ (by walk_at "lk") ?_
          repeat walk_at "st"
          exact .inr ⟨_, rfl, rfl⟩
        | some q =>
          have hh' : HitP c q.1 q.2 hit := hh
          have h7 : backGo pl (w.length + 2 - (i + 1)) q.1 (told ++ [q.1]) = V := h7
          have hq := hq q rfl
          rw [if_neg (by rw [hh'.notNone]; simp)]
          repeat walk_at "st"
          refine EvE.span (p := q) okG (by walk_at "lk") (by decide) (by show 1 ≤ n + 2; (first | lia | omega)) hh' (by with_unfolding_all rfl) ?_
          repeat walk_at "st"
          refine IdxS.tuple 0 (by decide) (by rfl) rfl ?_
          refine ExSs.cons (ExS.append (by walk_at "lk") ?_ (by rfl) (by rfl) (by with_unfolding_all rfl))
          repeat walk_at "st"
          refine ⟨big100 (by simp; (first | lia | omega)), ?_⟩
          dsimp only
          repeat walk_at "st"
          refine ⟨q.1, told ++ [q.1], ?_, ?_, ?_, ?_, hq, by simp; (first | lia | omega), h7⟩
          · walk_at "lk"
          · walk_at "lk"
          · walk_at "lk"
          · rw [List.map_append]; walk_at "lk"
    · rintro σ h
      refine ExSs.freeze "told" _ h ?_
      repeat walk_at "st"
      rfl
  · intro env henv
    obtain ⟨sc⟩ := env
    cases henv
    rfl

theorem crossed_call {c : GCtx} {mks} (ok : L3 c mks) (n : Nat) (w o : List Sym) (b price : Nat) (hb : b ≤ 4) (hw : w.length ≤ 4) (hol : o.length ≤ 4) (hpr : price = dist c.low w o) (hp100 : price ≤ 100) :
    CallS c (n + 3) (.glob "_law_crossed") [.str w, .str o, .int b, .int price] fun v => v = .list (pints (crossed c.low w o b)) := by
  have e : defRec? pw3 "_law_crossed" = defRec? pw3 "_law_crossed" := rfl
  conv at e => rhs; whnf
  have okG := ok.toGOk
  have bLen := ok.bLen
  have bRange := ok.bRange
  have fn : ∀ x, (defRec? pw3 x).isSome = true → (∃ v, c.mg x = some v) ∧ (c.recs x).isSome = true := fun x h => okG.fnV ok.recs h
  refine CallS.globP okG ok.recs e (ok.no _ (by decide)) rfl (by rfl) (by rfl) ?_
  clear e
  dsimp only
  unfold crossed
  rw [← hpr]
  generalize hpf : (fun p => decide (dist c.low (w.take b) (o.take p) + dist c.low (w.drop b) (o.drop p) = price)) = pf
  refine ExSs.cons (ExS.assignG (Or.inl rfl) (EvG.list (EvL.nil ⟨Nat.zero_le _, ?_⟩)) (by intro _; rfl))
  dsimp only
  refine ExSs.cut (fun σ => ho σ "places" (pints ((List.range (o.length + 1)).filter pf))) (ExS.for_ okG ?_) ?_
  · repeat walk_at "st"
    rw [show ((o.length : Int) + 1) = ((o.length + 1 : Nat) : Int) by (first | lia | omega)]
    refine IterP.forN (fun i σ => hv σ "word" (.str w) ∧ hv σ "other" (.str o) ∧ hv σ "behind" (.int b) ∧ hv σ "price" (.int price) ∧ ho σ "places" (pints ((List.range i).filter pf))) (by (first | lia | omega)) ⟨?_, ?_, ?_, ?_, ?_⟩ ?_ ?_
    · walk_at "lk"
    · walk_at "lk"
    · walk_at "lk"
    · walk_at "lk"
    · walk_at "lk"
    · rintro σ ⟨_, _, _, _, h5⟩
      exact ⟨rfl, h5⟩
    · rintro i σ hi ⟨h1, h2, h3, h4, h5⟩
      have hi5 : i ≤ 4 := by (first | lia | omega)
      have hfl : ((List.range i).filter pf).length ≤ i := by have := List.length_filter_le pf (List.range i); simpa using this
      have hnext : (List.range (i + 1)).filter pf = (List.range i).filter pf ++ if pf i then [i] else [] := by
        rw [List.range_succ, List.filter_append]; cases hp : pf i <;> simp [hp]
      have hpi : pf i = decide (dist c.low (w.take b) (o.take i) + dist c.low (w.drop b) (o.drop i) = price) := by rw [← hpf]
      rw [hnext]
      generalize (List.range i).filter pf = fl at h5 hfl
      generalize htl : (if pf i then [i] else []) = tl
      refine AsS.name (Or.inl rfl) ?_
      iterate 2 walk_at "st"
      refine EvE.call okG (EvE.gfun okG (fn "_levenshtein_distance" (by rfl)).1 (fn "_levenshtein_distance" (by rfl)).2 ⟨trivial, ?_⟩ (by rfl)) (by rfl)
      repeat walk_at "st"
      rw [slc_upto, slc_upto]
      have l1 : (w.take b).length ≤ 4 := by rw [List.length_take]; (first | lia | omega)
      have l2 : (o.take i).length ≤ 4 := by rw [List.length_take]; (first | lia | omega)
      have l3 : (w.drop b).length ≤ 4 := by rw [List.length_drop]; (first | lia | omega)
      have l4 : (o.drop i).length ≤ 4 := by rw [List.length_drop]; (first | lia | omega)
      refine CallS.mono (lev_call ok.toLevOk n (w.take b) (o.take i) price (by (first | lia | omega)) (by (first | lia | omega)) (by (first | lia | omega))) ?_
      rintro _ rfl
      have hl := lev_ok (low := c.low) (w.take b) (o.take i) price (by unfold maxsize; (first | lia | omega)) (by (first | lia | omega)) (by (first | lia | omega))
      generalize lev c.low (w.take b) (o.take i) price = v1 at hl
      generalize dist c.low (w.take b) (o.take i) = d1 at hl hpi
      have hle := hl.le
      repeat walk_at "st"
      by_cases hc : v1 ≤ (price : Int)
      · have hd := hle.mp hc
        have hv1 := hl.1 hd
        subst hv1
        rw [if_pos (by simpa using hc)]
        repeat walk_at "st"
        refine EvE.call okG (EvE.gfun okG (fn "_levenshtein_distance" (by rfl)).1 (fn "_levenshtein_distance" (by rfl)).2 ⟨trivial, ?_⟩ (by rfl)) (by rfl)
        repeat walk_at "st"
        rw [slc_from, slc_from]
        refine CallS.mono (lev_call ok.toLevOk n (w.drop b) (o.drop i) (price - d1) (by (first | lia | omega)) (by (first | lia | omega)) (by (first | lia | omega))) ?_
        rintro _ rfl
        have hl2 := lev_ok (low := c.low) (w.drop b) (o.drop i) (price - d1) (by unfold maxsize; (first | lia | omega)) (by (first | lia | omega)) (by (first | lia | omega))
        generalize lev c.low (w.drop b) (o.drop i) (price - d1) = v2 at hl2
        generalize dist c.low (w.drop b) (o.drop i) = d2 at hl2 hpi
        have heq := hl2.eq
        repeat walk_at "st"
        by_cases hc2 : v2 = (price : Int) - d1
        · have := heq.mp hc2
          rw [hpi, if_pos (by simp; (first | lia | omega))] at htl
          subst htl
          rw [if_pos (by simpa using hc2)]
          refine ExSs.cons (ExS.append (by walk_at "lk") ?_ (by rfl) (by rfl) (by with_unfolding_all rfl))
          repeat walk_at "st"
          refine ⟨big100 (by unfold pints; simp; (first | lia | omega)), ?_⟩
          dsimp only
          repeat walk_at "st"
          refine ⟨?_, ?_, ?_, ?_, ?_⟩
          · walk_at "lk"
          · walk_at "lk"
          · walk_at "lk"
          · walk_at "lk"
          · unfold pints; rw [List.map_append]; walk_at "lk"
        · have : ¬ ((d2 : Int) = price - d1) := fun q => hc2 (heq.mpr q)
          rw [hpi, if_neg (by simp; (first | lia | omega))] at htl
          subst htl
          rw [if_neg (by simpa using hc2)]
          repeat walk_at "st"
          rw [List.append_nil]
          refine ⟨?_, ?_, ?_, ?_, ?_⟩
          all_goals walk_at "lk"
      · have : ¬ ((d1 : Int) ≤ price) := fun q => hc (hle.mpr q)
        rw [hpi, if_neg (by simp; (first | lia | omega))] at htl
        subst htl
        rw [if_neg (by simpa using hc)]
        repeat walk_at "st"
        rw [List.append_nil]
        refine ⟨?_, ?_, ?_, ?_, ?_⟩
        all_goals walk_at "lk"
  · rintro σ h
    refine ExSs.freeze "places" _ h ?_
    repeat walk_at "st"
    rfl

section
section
variable {low : Sym → Sym}
theorem halvedN_len : ∀ (k : Nat) (w o : List Sym) (ahead : Nat), (halvedN low k w o ahead).length ≤ w.length - 1
  | 0, _, _, _ => Nat.zero_le _
  | k + 1, w, o, ahead => by
    unfold halvedN
    by_cases h : w.length < 2
    · rw [if_pos h]; exact Nat.zero_le _
    · rw [if_neg h]
      have h1 := halvedN_len k (w.take (w.length / 2)) (o.take (lastC low w o (w.length / 2))) ahead
      have h2 := halvedN_len k (w.drop (w.length / 2)) (o.drop (lastC low w o (w.length / 2))) (ahead + lastC low w o (w.length / 2))
      rw [List.length_take] at h1
      rw [List.length_drop] at h2
      simp only [List.length_append, List.length_cons, List.length_nil]
      (first | lia | omega)
noncomputable def term (low : Sym → Sym) (w o : List Sym) (i j : Nat) : Nat := 2 * max i j + scN low (w.getD i 0) (o.getD j 0) + dist low (w.drop (i + 1)) (o.drop (j + 1))
theorem term_ge (w o : List Sym) (i j : Nat) (hi : i < w.length) (hj : j < o.length) : dist low w o ≤ term low w o i j := by
  have e1 : w = w.take i ++ ([w.getD i 0] ++ w.drop (i + 1)) := by
    rw [List.getD_eq_getElem?_getD, List.getElem?_eq_getElem hi]
    simp
  have e2 : o = o.take j ++ ([o.getD j 0] ++ o.drop (j + 1)) := by
    rw [List.getD_eq_getElem?_getD, List.getElem?_eq_getElem hj]
    simp
  have h1 := dist_append (low := low) (w.take i) (o.take j) ([w.getD i 0] ++ w.drop (i + 1)) ([o.getD j 0] ++ o.drop (j + 1))
  rw [← e1, ← e2] at h1
  have h2 := dist_sub (low := low) (w.getD i 0) (o.getD j 0) (w.drop (i + 1)) (o.drop (j + 1))
  have h3 := dist_max (low := low) (w.take i) (o.take j)
  rw [List.length_take, List.length_take, Nat.min_eq_left (Nat.le_of_lt hi), Nat.min_eq_left (Nat.le_of_lt hj)] at h3
  unfold term
  have h4 : dist low ([w.getD i 0] ++ w.drop (i + 1)) ([o.getD j 0] ++ o.drop (j + 1)) ≤ dist low (w.drop (i + 1)) (o.drop (j + 1)) + scN low (w.getD i 0) (o.getD j 0) := h2
  (first | lia | omega)
theorem al_term {w o : List Sym} {k : Nat} (h : Al low w o k) : 2 * max w.length o.length ≤ k ∨ ∃ i j, i < w.length ∧ j < o.length ∧ low (w.getD i 0) = low (o.getD j 0) ∧ term low w o i j ≤ k := by
  induction h with
  | nil => exact .inl (Nat.le_refl _)
  | del x h ih =>
    rcases ih with h1 | ⟨i, j, h1, h2, h3, h4⟩
    · exact .inl (by rw [List.length_cons]; (first | lia | omega))
    · refine .inr ⟨i + 1, j, by rw [List.length_cons]; (first | lia | omega), h2, h3, ?_⟩
      have e : ∀ (a : List Sym) (z : Sym), (z :: a).getD (i + 1) 0 = a.getD i 0 ∧ (z :: a).drop (i + 1 + 1) = a.drop (i + 1) := fun _ _ => ⟨rfl, rfl⟩
      unfold term at h4 ⊢
      rw [(e _ _).1, (e _ _).2]
      (first | lia | omega)
  | ins y h ih =>
    rcases ih with h1 | ⟨i, j, h1, h2, h3, h4⟩
    · exact .inl (by rw [List.length_cons]; (first | lia | omega))
    · refine .inr ⟨i, j + 1, h1, by rw [List.length_cons]; (first | lia | omega), h3, ?_⟩
      have e : ∀ (a : List Sym) (z : Sym), (z :: a).getD (j + 1) 0 = a.getD j 0 ∧ (z :: a).drop (j + 1 + 1) = a.drop (j + 1) := fun _ _ => ⟨rfl, rfl⟩
      unfold term at h4 ⊢
      rw [(e _ _).1, (e _ _).2]
      (first | lia | omega)
  | @sub x y a b k h ih =>
    by_cases hl : low x = low y
    · refine .inr ⟨0, 0, Nat.zero_lt_succ _, Nat.zero_lt_succ _, hl, ?_⟩
      have := h.le
      show 2 * max 0 0 + scN low x y + dist low a b ≤ _
      (first | lia | omega)
    · have hs : scN low x y = 2 := by
        unfold scN
        rw [if_neg (fun q => hl (by rw [q])), if_neg hl]
      rcases ih with h1 | ⟨i, j, h1, h2, h3, h4⟩
      · exact .inl (by rw [List.length_cons, List.length_cons]; (first | lia | omega))
      · refine .inr ⟨i + 1, j + 1, by rw [List.length_cons]; (first | lia | omega), by rw [List.length_cons]; (first | lia | omega), h3, ?_⟩
        have e : ∀ (a : List Sym) (z : Sym) (i : Nat), (z :: a).getD (i + 1) 0 = a.getD i 0 ∧ (z :: a).drop (i + 1 + 1) = a.drop (i + 1) := fun _ _ _ => ⟨rfl, rfl⟩
        unfold term at h4 ⊢
        rw [(e _ _ _).1, (e _ _ _).2, (e _ _ _).1, (e _ _ _).2]
        (first | lia | omega)
theorem price_is {w o : List Sym} {b : Nat} (h1 : dist low w o ≤ b) (h2 : b ≤ 2 * max w.length o.length) (h3 : ∀ i j, i < w.length → j < o.length → low (w.getD i 0) = low (o.getD j 0) → b ≤ term low w o i j) : b = dist low w o := by
  rcases al_term (al_dist (low := low) w o) with h | ⟨i, j, a1, a2, a3, a4⟩
  · (first | lia | omega)
  · have := h3 i j a1 a2 a3
    (first | lia | omega)
theorem scN_if (x y : Sym) (h : low x = low y) : scN low x y = if x = y then 0 else 1 := by
  unfold scN
  by_cases q : x = y
  · rw [if_pos q, if_pos q]
  · rw [if_neg q, if_neg q, if_pos h]
end
end

theorem pints_eq (l : List Nat) : pints l = (l.map fun (k : Nat) => (k : Int)).map PV.int := by unfold pints; rw [List.map_map]; rfl
theorem lastC_head {low : Sym → Sym} {w o : List Sym} {b : Nat} (h : crossed low w o b ≠ []) : (pints (crossed low w o b).reverse)[0]? = some (.int (lastC low w o b : Nat)) := by
  unfold lastC pints
  have : (crossed low w o b).reverse ≠ [] := by simpa using h
  generalize (crossed low w o b).reverse = l at this
  cases l with
  | nil => exact absurd rfl this
  | cons x l => rfl

theorem halved_call {c : GCtx} {mks} (ok : L3 c mks) (n : Nat) : ∀ (k : Nat) (w o : List Sym) (ahead : Nat), w.length ≤ k → w.length ≤ 4 → o.length ≤ 4 →
    CallS c (n + k + 5) (.glob "_law_halved") [.str w, .str o, .int ahead] fun v => v = .list (pints (halvedN c.low k w o ahead)) := by
  intro k
  induction k with
  | zero =>
    intro w o ahead hk hw hol
    have e : defRec? pw3 "_law_halved" = defRec? pw3 "_law_halved" := rfl
    conv at e => rhs; whnf
    have okG := ok.toGOk
    have bLen := ok.bLen
    refine CallS.globP okG ok.recs e (ok.no _ (by decide)) rfl (by rfl) (by rfl) ?_
    clear e
    dsimp only
    repeat walk_at "st"
    rw [if_pos (by simp; (first | lia | omega))]
    refine ExSs.cons (ExS.ret (EvE.list (EvL.nil ⟨Nat.zero_le _, rfl⟩)))
  | succ k ih =>
    intro w o ahead hk hw hol
    have e : defRec? pw3 "_law_halved" = defRec? pw3 "_law_halved" := rfl
    conv at e => rhs; whnf
    have okG := ok.toGOk
    have bLen := ok.bLen
    have fn : ∀ x, (defRec? pw3 x).isSome = true → (∃ v, c.mg x = some v) ∧ (c.recs x).isSome = true := fun x h => okG.fnV ok.recs h
    refine CallS.globP okG ok.recs e (ok.no _ (by decide)) rfl (by rfl) (by rfl) ?_
    clear e
    dsimp only
    unfold halvedN
    repeat walk_at "st"
    by_cases h2 : w.length < 2
    · rw [if_pos (by simp; (first | lia | omega)), if_pos h2]
      refine ExSs.cons (ExS.ret (EvE.list (EvL.nil ⟨Nat.zero_le _, rfl⟩)))
    rw [if_neg (by simp; (first | lia | omega)), if_neg h2]
    have hne : crossed c.low w o (w.length / 2) ≠ [] := crossed_ne (by (first | lia | omega))
    have hcs := crossed_sub (low := c.low) w o (w.length / 2)
    have hhd := lastC_head hne
    have hlc := lastC_le (low := c.low) w o (w.length / 2)
    generalize hcut : lastC c.low w o (w.length / 2) = cut at hhd hlc
    have hhalf : w.length / 2 ≤ k ∧ w.length - w.length / 2 ≤ k ∧ w.length / 2 ≤ 4 := by (first | lia | omega)
    repeat walk_at "st"
    refine BinS.divI (by decide) (by decide) ?_
    rw [fdivN2]
    generalize hH : w.length / 2 = half at hhalf hne hcs hhd
    repeat walk_at "st"
    refine EvE.call okG (EvE.gfun okG (fn "_levenshtein_distance" (by rfl)).1 (fn "_levenshtein_distance" (by rfl)).2 ⟨trivial, ?_⟩ (by rfl)) (by rfl)
    repeat walk_at "st"
    refine BinS.mulI (by decide) ?_
    repeat walk_at "st"
    refine BinS.mulI (by decide) ?_
    repeat walk_at "st"
    refine CallS.mono (lev_call ok.toLevOk (n + k + 3) w o (2 * (w.length : Int) + 2 * o.length) (by (first | lia | omega)) (by (first | lia | omega)) (by (first | lia | omega))) ?_
    rintro _ rfl
    have hdm := dist_max (low := c.low) w o
    have hl := (lev_ok (low := c.low) w o (2 * (w.length : Int) + 2 * o.length) (by unfold maxsize; (first | lia | omega)) (by (first | lia | omega)) (by (first | lia | omega))).1 (by (first | lia | omega))
    rw [hl]
    clear hl
    have hd16 : dist c.low w o ≤ 100 := by (first | lia | omega)
    repeat walk_at "st"
    refine EvE.call okG (EvE.gfun okG (fn "_law_back" (by rfl)).1 (fn "_law_back" (by rfl)).2 ⟨trivial, ?_⟩ (by rfl)) (by rfl)
    repeat walk_at "st"
    refine EvE.call okG (EvE.gfun okG (fn "_law_crossed" (by rfl)).1 (fn "_law_crossed" (by rfl)).2 ⟨trivial, ?_⟩ (by rfl)) (by rfl)
    repeat walk_at "st"
    refine CallS.mono (crossed_call ok (n + k + 2) w o half (dist c.low w o) hhalf.2.2 hw hol rfl hd16) ?_
    rintro _ rfl
    repeat walk_at "st"
    refine CallS.mono (back_call ok (n + k + 2) o _ hol hcs) ?_
    rintro _ rfl
    repeat walk_at "st"
    refine EvE.list (EvL.nil ⟨Nat.zero_le _, ?_⟩)
    rw [pints_eq]
    refine CmpS.eqLI (ys := []) ?_
    rw [← pints_eq]
    rw [if_neg (by simpa using hne)]
    repeat walk_at "st"
    refine IdxS.listN (k := 0) (by have := len_subs hcs; unfold pints; rw [List.length_map, List.length_reverse]; (first | lia | omega)) (by unfold pints; rw [List.length_map, List.length_reverse]; exact List.length_pos_iff.mpr hne) hhd ?_
    have hl1 := halvedN_len (low := c.low) k (w.take half) (o.take cut) ahead
    have hl2 := halvedN_len (low := c.low) k (w.drop half) (o.drop cut) (ahead + cut)
    rw [List.length_take] at hl1
    rw [List.length_drop] at hl2
    have i1 := ih (w.take half) (o.take cut) ahead (by rw [List.length_take]; (first | lia | omega)) (by rw [List.length_take]; (first | lia | omega)) (by rw [List.length_take]; (first | lia | omega))
    have i2 := ih (w.drop half) (o.drop cut) (ahead + cut) (by rw [List.length_drop]; (first | lia | omega)) (by rw [List.length_drop]; (first | lia | omega)) (by rw [List.length_drop]; (first | lia | omega))
    generalize halvedN c.low k (w.take half) (o.take cut) ahead = r1 at hl1 i1
    generalize halvedN c.low k (w.drop half) (o.drop cut) (ahead + cut) = r2 at hl2 i2
    repeat walk_at "st"
    refine EvE.call okG (EvE.gfun okG (fn "_law_halved" (by rfl)).1 (fn "_law_halved" (by rfl)).2 ⟨trivial, ?_⟩ (by rfl)) (by rfl)
    repeat walk_at "st"
    rw [slc_upto, slc_upto]
    refine CallS.mono i1 ?_
    rintro _ rfl
    refine EvE.list (EvL.cons ?_)
    repeat walk_at "st"
    refine ⟨show 1 ≤ big by decide +kernel, ?_⟩
    refine BinS.addL (big100 (by unfold pints; simp; (first | lia | omega))) ?_
    refine EvE.call okG (EvE.gfun okG (fn "_law_halved" (by rfl)).1 (fn "_law_halved" (by rfl)).2 ⟨trivial, ?_⟩ (by rfl)) (by rfl)
    repeat walk_at "st"
    rw [slc_from, slc_from, show ((ahead : Int) + cut) = ((ahead + cut : Nat) : Int) by (first | lia | omega)]
    refine CallS.mono i2 ?_
    rintro _ rfl
    refine BinS.addL (big100 (by unfold pints; simp; (first | lia | omega))) ?_
    unfold pints
    rw [List.map_append, List.map_append]
    rfl

theorem price_call {c : GCtx} {mks} (ok : L3 c mks) (n : Nat) : ∀ (k : Nat) (w o : List Sym), w.length ≤ k → w.length ≤ 4 → o.length ≤ 4 →
    CallS c (n + k + 1) (.glob "_law_price") [.str w, .str o] fun v => v = .int (dist c.low w o) := by
  intro k
  induction k with
  | zero =>
    intro w o hk hw hol
    have e : defRec? pw3 "_law_price" = defRec? pw3 "_law_price" := rfl
    conv at e => rhs; whnf
    have okG := ok.toGOk
    have bLen := ok.bLen
    have bMax := ok.bMax
    have bRange := ok.bRange
    refine CallS.globP okG ok.recs e (ok.no _ (by decide)) rfl (by rfl) (by rfl) ?_
    clear e
    dsimp only
    have hw0 : w = [] := List.length_eq_zero_iff.mp (by (first | lia | omega))
    subst hw0
    repeat walk_at "st"
    refine BinS.mulI (by decide) ?_
    refine ExSs.cut (fun σ => hv σ "best" (.int (dist c.low [] o))) (ExS.for_ okG ?_) ?_
    · repeat walk_at "st"
      refine IterP.forN (n := 0) (fun i σ => hv σ "best" (.int (dist c.low [] o))) (by (first | lia | omega)) ?_ ?_ ?_
      · rw [dist_nil, show ((2 * o.length : Nat) : Int) = 2 * max ((([] : List Sym).length : Nat) : Int) (o.length : Nat) from by simp only [List.length_nil]; (first | lia | omega)]
        walk_at "lk"
      · exact fun σ h => ⟨rfl, h⟩
      · intro i σ hi _
        exact absurd hi (Nat.not_lt_zero _)
    · rintro σ h
      repeat walk_at "st"
      rfl
  | succ k ih =>
    intro w o hk hw hol
    have e : defRec? pw3 "_law_price" = defRec? pw3 "_law_price" := rfl
    conv at e => rhs; whnf
    have okG := ok.toGOk
    have bLen := ok.bLen
    have bMax := ok.bMax
    have bMin := ok.bMin
    have bRange := ok.bRange
    have fn : ∀ x, (defRec? pw3 x).isSome = true → (∃ v, c.mg x = some v) ∧ (c.recs x).isSome = true := fun x h => okG.fnV ok.recs h
    refine CallS.globP okG ok.recs e (ok.no _ (by decide)) rfl (by rfl) (by rfl) ?_
    clear e
    dsimp only
    repeat walk_at "st"
    refine BinS.mulI (by decide) ?_
    have hdm := dist_max (low := c.low) w o
    refine ExSs.cut (fun σ => hv σ "best" (.int (dist c.low w o))) (ExS.for_ okG ?_) ?_
    · repeat walk_at "st"
      refine IterP.forN (fun i σ => ∃ b : Nat, hv σ "word" (.str w) ∧ hv σ "other" (.str o) ∧ hv σ "best" (.int b) ∧ dist c.low w o ≤ b ∧ b ≤ 2 * max w.length o.length ∧
        ∀ i' j', i' < i → j' < o.length → c.low (w.getD i' 0) = c.low (o.getD j' 0) → b ≤ term c.low w o i' j') (by (first | lia | omega)) ⟨2 * max w.length o.length, ?_, ?_, ?_, hdm, Nat.le_refl _, fun i' _ h => absurd h (Nat.not_lt_zero _)⟩ ?_ ?_
      · walk_at "lk"
      · walk_at "lk"
      · rw [show ((2 * max w.length o.length : Nat) : Int) = 2 * max (w.length : Int) (o.length : Int) by (first | lia | omega)]
        walk_at "lk"
      · rintro σ ⟨b, h1, h2, h3, h4, h5, h6⟩
        rw [price_is h4 h5 h6] at h3
        exact ⟨rfl, h3⟩
      · rintro i σ hi ⟨b, h1, h2, h3, h4, h5, h6⟩
        refine AsS.name (Or.inl rfl) ?_
        refine ExSs.cut (fun σ => ∃ b : Nat, hv σ "word" (.str w) ∧ hv σ "other" (.str o) ∧ hv σ "best" (.int b) ∧ dist c.low w o ≤ b ∧ b ≤ 2 * max w.length o.length ∧
          ∀ i' j', i' < i + 1 → j' < o.length → c.low (w.getD i' 0) = c.low (o.getD j' 0) → b ≤ term c.low w o i' j') (ExS.for_ okG ?_) ?_
        · repeat walk_at "st"
          refine IterP.forN (fun j σ => ∃ b : Nat, hv σ "word" (.str w) ∧ hv σ "other" (.str o) ∧ hv σ "i" (.int i) ∧ hv σ "best" (.int b) ∧ dist c.low w o ≤ b ∧ b ≤ 2 * max w.length o.length ∧
            (∀ i' j', i' < i → j' < o.length → c.low (w.getD i' 0) = c.low (o.getD j' 0) → b ≤ term c.low w o i' j') ∧ ∀ j', j' < j → c.low (w.getD i 0) = c.low (o.getD j' 0) → b ≤ term c.low w o i j') (by (first | lia | omega))
            ⟨b, ?_, ?_, ?_, ?_, h4, h5, h6, fun j' h => absurd h (Nat.not_lt_zero _)⟩ ?_ ?_
          · walk_at "lk"
          · walk_at "lk"
          · walk_at "lk"
          · walk_at "lk"
          · rintro σ ⟨b, g1, g2, g3, g4, g5, g6, g7, g8⟩
            refine ⟨rfl, b, g1, g2, g4, g5, g6, fun i' j' hi' hj' hl => ?_⟩
            rcases Nat.lt_succ_iff_lt_or_eq.mp hi' with q | q
            · exact g7 i' j' q hj' hl
            · subst q; exact g8 j' hj' hl
          · rintro j σ hj ⟨b, g1, g2, g3, g4, g5, g6, g7, g8⟩
            clear h1 h2 h3 h4 h5 h6
            have ew : w[i]? = some (w.getD i 0) := by rw [List.getD_eq_getElem?_getD, List.getElem?_eq_getElem hi]; rfl
            have eo : o[j]? = some (o.getD j 0) := by rw [List.getD_eq_getElem?_getD, List.getElem?_eq_getElem hj]; rfl
            have hge := term_ge (low := c.low) w o i j hi hj
            have hT : c.low (w.getD i 0) = c.low (o.getD j 0) → term c.low w o i j = 2 * max i j + (if w.getD i 0 = o.getD j 0 then 0 else 1) + dist c.low (w.drop (i + 1)) (o.drop (j + 1)) := fun h => by unfold term; rw [scN_if _ _ h]
            have fin : ∀ b' : Nat, b' ≤ b → dist c.low w o ≤ b' → (c.low (w.getD i 0) = c.low (o.getD j 0) → b' ≤ term c.low w o i j) → (dist c.low w o ≤ b' ∧ b' ≤ 2 * max w.length o.length ∧
              (∀ i' j', i' < i → j' < o.length → c.low (w.getD i' 0) = c.low (o.getD j' 0) → b' ≤ term c.low w o i' j') ∧ ∀ j', j' < j + 1 → c.low (w.getD i 0) = c.low (o.getD j' 0) → b' ≤ term c.low w o i j') := fun b' hb' hd hn =>
              ⟨hd, Nat.le_trans hb' g6, fun i' j' a1 a2 a3 => Nat.le_trans hb' (g7 i' j' a1 a2 a3), fun j' a1 a2 => by
                rcases Nat.lt_succ_iff_lt_or_eq.mp a1 with q | q
                · exact Nat.le_trans hb' (g8 j' q a2)
                · subst q; exact hn a2⟩
            generalize hx : w.getD i 0 = x at ew hT fin
            generalize hy : o.getD j 0 = y at eo hT fin
            generalize term c.low w o i j = T at hge hT fin
            have hrec := ih (w.drop (i + 1)) (o.drop (j + 1)) (by rw [List.length_drop]; (first | lia | omega)) (by rw [List.length_drop]; (first | lia | omega)) (by rw [List.length_drop]; (first | lia | omega))
            generalize dist c.low (w.drop (i + 1)) (o.drop (j + 1)) = dr at hT hrec
            refine AsS.name (Or.inl rfl) ?_
            refine ExSs.cons (ExS.if_ (EvT.cmp ?_))
            refine EvE.method "str.lower" PySem.F.slot_str_lower (by kernel_rfl) ?_
            repeat walk_at "st"
            refine IdxS.strN (x := x) (by (first | lia | omega)) hi ew ?_
            refine ⟨_, rfl, MthS.lower1 ok.lower ?_⟩
            refine EvE.method "str.lower" PySem.F.slot_str_lower (by kernel_rfl) ?_
            repeat walk_at "st"
            refine IdxS.strN (x := y) (by (first | lia | omega)) hj eo ?_
            refine ⟨_, rfl, MthS.lower1 ok.lower ?_⟩
            refine CmpS.eqS okG ?_
            by_cases hlow : c.low x = c.low y
            · rw [if_pos (by simpa using hlow)]
              have hT := hT hlow
              refine ExSs.cut (fun σ => hv σ "word" (.str w) ∧ hv σ "other" (.str o) ∧ hv σ "i" (.int i) ∧ hv σ "j" (.int j) ∧ hv σ "best" (.int b) ∧ hv σ "cost" (.int ((if x = y then 0 else 1 : Nat) : Nat))) (ExS.assign (Or.inl rfl) (EvE.ifexp ?_) (by intro _; rfl)) ?_
              · repeat walk_at "st"
                refine IdxS.strN (x := x) (by (first | lia | omega)) hi ew ?_
                repeat walk_at "st"
                refine IdxS.strN (x := y) (by (first | lia | omega)) hj eo ?_
                refine CmpS.eqS okG ?_
                by_cases hxy : x = y
                · rw [if_pos (by simpa using hxy), if_pos hxy]
                  repeat walk_at "st"
                  refine ⟨rfl, ?_, ?_, ?_, ?_, ?_, ?_⟩
                  all_goals walk_at "lk"
                · rw [if_neg (by simpa using hxy), if_neg hxy]
                  repeat walk_at "st"
                  refine ⟨rfl, ?_, ?_, ?_, ?_, ?_, ?_⟩
                  all_goals walk_at "lk"
              · generalize (if x = y then 0 else 1 : Nat) = cs at hT
                rintro σ ⟨k1, k2, k3, k4, k5, k6⟩
                repeat walk_at "st"
                refine BinS.mulI (by decide) ?_
                repeat walk_at "st"
                refine EvE.call okG (EvE.gfun okG (fn "_law_price" (by rfl)).1 (fn "_law_price" (by rfl)).2 ⟨trivial, ?_⟩ (by rfl)) (by rfl)
                repeat walk_at "st"
                rw [show ((i : Int) + 1) = ((i + 1 : Nat) : Int) by (first | lia | omega), show ((j : Int) + 1) = ((j + 1 : Nat) : Int) by (first | lia | omega), slc_from, slc_from]
                refine CallS.mono hrec ?_
                rintro _ rfl
                repeat walk_at "st"
                have hb' := fin (min b T) (Nat.min_le_left _ _) (Nat.le_min.mpr ⟨g5, hge⟩) (fun _ => Nat.min_le_right _ _)
                refine ⟨min b T, ?_, ?_, ?_, ?_, hb'⟩
                · walk_at "lk"
                · walk_at "lk"
                · walk_at "lk"
                · rw [show ((min b T : Nat) : Int) = min (b : Int) (2 * max (i : Int) (j : Int) + (cs : Nat) + (dr : Nat)) by rw [hT]; (first | lia | omega)]
                  walk_at "lk"
            · rw [if_neg (by simpa using hlow)]
              repeat walk_at "st"
              refine ⟨b, ?_, ?_, ?_, ?_, fin b (Nat.le_refl _) g5 (fun q => absurd q hlow)⟩
              all_goals walk_at "lk"
        · rintro σ ⟨b, g1, g2, g3, g4, g5, g6⟩
          repeat walk_at "st"
          exact ⟨b, g1, g2, g3, g4, g5, g6⟩
    · rintro σ h
      repeat walk_at "st"
      rfl

section
noncomputable def lastDown (p : Nat → Bool) : Nat → Nat
  | 0 => 0
  | j + 1 => bif p (j + 1) then j + 1 else lastDown p j
theorem lastDown_is (p : Nat → Bool) : ∀ n, (((List.range (n + 1)).filter p).reverse).headD 0 = lastDown p n
  | 0 => by cases h : p 0 <;> simp [List.range_succ, h, lastDown]
  | n + 1 => by
    have ih := lastDown_is p n
    rw [List.range_succ, List.filter_append, List.reverse_append]
    unfold lastDown
    cases h : p (n + 1) with
    | true => simp [h]
    | false => simpa [h] using ih
theorem lastDown_fold (p : Nat → Bool) : ∀ n, (List.range (n + 1)).foldl (fun l j => bif p j then j else l) 0 = lastDown p n
  | 0 => by cases h : p 0 <;> simp [List.range_succ, h, lastDown]
  | n + 1 => by
    rw [List.range_succ, List.foldl_append, lastDown_fold p n]; rfl
theorem lastDown_congr {p q : Nat → Bool} : ∀ n, (∀ j, j ≤ n → p j = q j) → lastDown p n = lastDown q n
  | 0, _ => rfl
  | n + 1, h => by
    unfold lastDown
    rw [h (n + 1) (Nat.le_refl _), lastDown_congr n fun j hj => h j (Nat.le_succ_of_le hj)]

noncomputable def mnR (a b : Nat) : Nat := @Bool.rec (fun _ => Nat) b a (Nat.ble a b)
noncomputable def scR (x y : Sym) : Nat := @Bool.rec (fun _ => Nat) (@Bool.rec (fun _ => Nat) 2 1 (Nat.ble (Nat.add x.val y.val) 1)) 0 (Nat.beq x.val y.val)
noncomputable def hdR (l : List Nat) : Nat := @List.rec Nat (fun _ => Nat) 0 (fun a _ _ => a) l
noncomputable def frow (y : Sym) (a : List Sym) : Nat → Nat → List Nat → List Nat :=
  @List.rec Sym (fun _ => Nat → Nat → List Nat → List Nat) (fun _ _ _ => []) (fun x _ ih dg lf ps => @List.rec Nat (fun _ => List Nat) [] (fun p ps _ => (fun r => r :: ih p r ps) (mnR (Nat.add (mnR lf p) 2) (Nat.add dg (scR x y)))) ps) a
noncomputable def fgoR (a b : List Sym) : Nat → List Nat → List (List Nat) :=
  @List.rec Sym (fun _ => Nat → List Nat → List (List Nat)) (fun l row => [l :: row]) (fun y _ ih l row => (l :: row) :: ih (Nat.add l 2) (frow y a l (Nat.add l 2) row)) b
noncomputable def srow (y : Sym) (w : List Sym) : List Nat → List Nat :=
  @List.rec Sym (fun _ => List Nat → List Nat) (fun row => @List.rec Nat (fun _ => List Nat) [] (fun r _ _ => [Nat.add r 2]) row)
    (fun x _ ih row => @List.rec Nat (fun _ => List Nat) [] (fun r rest _ => @List.rec Nat (fun _ => List Nat) [] (fun h t _ => mnR (Nat.add (mnR h r) 2) (Nat.add (hdR rest) (scR x y)) :: h :: t) (ih rest)) row) w
noncomputable def sbase (w : List Sym) : List Nat := @List.rec Sym (fun _ => List Nat) [0] (fun _ _ ih => Nat.add (hdR ih) 2 :: ih) w
noncomputable def sgoR (w o : List Sym) : List (List Nat) :=
  @List.rec Sym (fun _ => List (List Nat)) [sbase w] (fun y _ ih => @List.rec (List Nat) (fun _ => List (List Nat)) [] (fun r rs _ => srow y w r :: r :: rs) ih) o
noncomputable def hd2 (G : List (List Nat)) : Nat := hdR (@List.rec (List Nat) (fun _ => List Nat) [] (fun g _ _ => g) G)
noncomputable def upd (D j : Nat) (f : List Nat) : List Nat → List Nat → List Nat :=
  @List.rec Nat (fun _ => List Nat → List Nat → List Nat) (fun _ _ => []) (fun a _ ih g acc => @List.rec Nat (fun _ => List Nat) [] (fun b g _ => @List.rec Nat (fun _ => List Nat) [] (fun l acc _ => @Bool.rec (fun _ => Nat) l j (Nat.beq (Nat.add a b) D) :: ih g acc) acc) g) f
noncomputable def updAll (D : Nat) (F : List (List Nat)) : Nat → List (List Nat) → List Nat → List Nat :=
  @List.rec (List Nat) (fun _ => Nat → List (List Nat) → List Nat → List Nat) (fun _ _ acc => acc) (fun f _ ih j G acc => @List.rec (List Nat) (fun _ => List Nat) acc (fun g G _ => ih (Nat.succ j) G (upd D j f g acc)) G) F
noncomputable def zers (w : List Sym) : List Nat := @List.rec Sym (fun _ => List Nat) [0] (fun _ _ ih => 0 :: ih) w
noncomputable def lastsG (G : List (List Nat)) (w o : List Sym) : List Nat := updAll (hd2 G) (fgoR w o 0 (row0 w 0)) 0 G (zers w)
noncomputable def lastsR (w o : List Sym) : List Nat := lastsG (sgoR w o) w o
noncomputable def nthR (l : List Nat) : Nat → Nat := @List.rec Nat (fun _ => Nat → Nat) (fun _ => 0) (fun a _ ih i => @Nat.rec (fun _ => Nat) a (fun k _ => ih k) i) l
noncomputable def halvedR : Nat → List Sym → List Sym → Nat → List Nat :=
  @Nat.rec (fun _ => List Sym → List Sym → Nat → List Nat) (fun _ _ _ => []) fun _ ih w o ahead => @Bool.rec (fun _ => List Nat) []
    ((fun h => (fun c => ih (w.take h) (o.take c) ahead ++ (Nat.add ahead c :: ih (w.drop h) (o.drop c) (Nat.add ahead c))) (nthR (lastsR w o) h)) (Nat.div w.length 2)) (Nat.ble 2 w.length)
noncomputable def spentR (o : List Sym) (w : List Sym) : List Nat → Nat :=
  @List.rec Sym (fun _ => List Nat → Nat) (fun _ => 0) (fun x _ ih ls => @List.rec Nat (fun _ => Nat) 0 (fun a ls _ => @List.rec Nat (fun _ => Nat) 0 (fun b _ _ => Nat.add (hd2 (sgoR [x] (seg o a b))) (ih ls)) ls) ls) w
noncomputable def ascR (l : List Nat) : Bool := @List.rec Nat (fun _ => Bool) true (fun a l ih => @List.rec Nat (fun _ => Bool) true (fun b _ _ => @Bool.rec (fun _ => Bool) false ih (Nat.ble a b)) l) l
noncomputable def eqR (l : List Nat) : List Nat → Bool :=
  @List.rec Nat (fun _ => List Nat → Bool) (fun m => @List.rec Nat (fun _ => Bool) true (fun _ _ _ => false) m) (fun a _ ih m => @List.rec Nat (fun _ => Bool) false (fun b m _ => @Bool.rec (fun _ => Bool) false (ih m) (Nat.beq a b)) m) l
noncomputable def andR (a b : Bool) : Bool := @Bool.rec (fun _ => Bool) false b a
noncomputable def fin3 (w o : List Sym) (ls : List Nat) : Bool :=
  andR (ascR ls) (andR (Nat.beq (nthR ls w.length) o.length) (andR (Nat.beq (Nat.add (Nat.mul 2 (hdR ls)) (spentR o w ls)) (hd2 (sgoR w o))) (eqR (halvedR 4 w o 0) ls.tail.dropLast)))
noncomputable def good3 (w o : List Sym) : Bool := fin3 w o (lastsR w o)

theorem mnR_eq (a b : Nat) : mnR a b = min a b := mn2_eq a b ▸ (by unfold mnR mn2; cases Nat.ble a b <;> rfl)
theorem scR_eq : ∀ x y : Sym, scR x y = scN low3 x y := by decide +kernel
noncomputable def rowS (w o : List Sym) : List Nat := (List.range (w.length + 1)).map fun i => dist low3 (w.drop i) o
noncomputable def rowP (w o : List Sym) : List Nat := (List.range (w.length + 1)).map fun i => dist low3 (w.take i) o
theorem rowS_cons (x : Sym) (w o : List Sym) : rowS (x :: w) o = dist low3 (x :: w) o :: rowS w o := by
  unfold rowS
  rw [List.length_cons, List.range_succ_eq_map (n := w.length + 1), List.map_cons, List.map_map]; rfl
theorem rowS_hd (w o : List Sym) : ∃ t, rowS w o = dist low3 w o :: t := by
  cases w with
  | nil => exact ⟨[], rfl⟩
  | cons x w => exact ⟨_, rowS_cons x w o⟩
theorem sbase_ok : ∀ w : List Sym, sbase w = rowS w []
  | [] => by show [0] = [dist low3 [] []]; rw [dist_nil]; rfl
  | x :: w => by
    rw [rowS_cons]
    show Nat.add (hdR (sbase w)) 2 :: sbase w = _
    rw [sbase_ok w]
    obtain ⟨t, e⟩ := rowS_hd w []
    rw [e]
    show (dist low3 w [] + 2) :: _ = _
    rw [dist_nil', dist_nil', List.length_cons]; rfl
theorem srow_ok (y : Sym) (o : List Sym) : ∀ w : List Sym, srow y w (rowS w o) = rowS w (y :: o)
  | [] => by
    show [Nat.add (dist low3 [] o) 2] = [dist low3 [] (y :: o)]
    rw [dist_nil, dist_nil, List.length_cons]; rfl
  | x :: w => by
    rw [rowS_cons, rowS_cons, ← srow_ok y o w]
    obtain ⟨t, e⟩ := rowS_hd w o
    obtain ⟨t', e'⟩ := rowS_hd w (y :: o)
    have ih := srow_ok y o w
    rw [e'] at ih
    show @List.rec Nat (fun _ => List Nat) [] (fun h t _ => mnR (Nat.add (mnR h (dist low3 (x :: w) o)) 2) (Nat.add (hdR (rowS w o)) (scR x y)) :: h :: t) (srow y w (rowS w o)) = _
    rw [ih]
    show mnR (Nat.add (mnR (dist low3 w (y :: o)) (dist low3 (x :: w) o)) 2) (Nat.add (hdR (rowS w o)) (scR x y)) :: _ = _
    rw [e, mnR_eq, mnR_eq, scR_eq, dist_cons]; rfl
theorem sgoR_ok (w : List Sym) : ∀ o : List Sym, sgoR w o = (List.range (o.length + 1)).map fun j => rowS w (o.drop j)
  | [] => by show [sbase w] = [rowS w []]; rw [sbase_ok]
  | y :: o => by
    have ih := sgoR_ok w o
    rw [List.length_cons, List.range_succ_eq_map (n := o.length + 1), List.map_cons, List.map_map]
    have e : (List.range (o.length + 1)).map ((fun j => rowS w ((y :: o).drop j)) ∘ Nat.succ) = sgoR w o := by rw [ih]; rfl
    rw [e]
    show @List.rec (List Nat) (fun _ => List (List Nat)) [] (fun r rs _ => srow y w r :: r :: rs) (sgoR w o) = _
    rw [ih, List.range_succ_eq_map, List.map_cons]
    show srow y w (rowS w o) :: _ = _
    rw [srow_ok]; rfl
theorem hd2_ok (w o : List Sym) : hd2 (sgoR w o) = dist low3 w o := by
  rw [sgoR_ok, List.range_succ_eq_map, List.map_cons]
  obtain ⟨t, e⟩ := rowS_hd w o
  show hdR (rowS w o) = _
  rw [e]; rfl
theorem frow_eq (y : Sym) : ∀ (a : List Sym) (dg lf : Nat) (ps : List Nat), frow y a dg lf ps = rowStep low3 y a dg lf ps
  | [], _, _, _ => by unfold rowStep; rfl
  | x :: a, dg, lf, [] => by unfold rowStep; rfl
  | x :: a, dg, lf, p :: ps => by
    unfold rowStep
    show (fun r => r :: frow y a p r ps) (mnR (Nat.add (mnR lf p) 2) (Nat.add dg (scR x y))) = _
    dsimp only
    rw [frow_eq y a, mnR_eq, mnR_eq, scR_eq, mn2_eq, mn2_eq, scF_eq]; rfl
theorem rowIs_rowP {a b : List Sym} {row : List Nat} (h : RowIs low3 b [] a row) : 2 * b.length :: row = rowP a b := by
  apply List.ext_getElem?
  intro i
  unfold rowP
  rw [List.getElem?_map]
  by_cases hi : i ≤ a.length
  · rw [rowIs_at h i hi, List.getElem?_range (by (first | lia | omega))]; rfl
  · have h1 := rowIs_len _ _ _ h
    rw [List.getElem?_eq_none (by simp; (first | lia | omega)), List.getElem?_eq_none (by simp; (first | lia | omega))]; rfl
theorem fgoR_ok (a : List Sym) : ∀ (bs b1 : List Sym) (row : List Nat), RowIs low3 b1 [] a row → fgoR a bs (2 * b1.length) row = (List.range (bs.length + 1)).map fun j => rowP a (b1 ++ bs.take j)
  | [], b1, row, h => by
    show [2 * b1.length :: row] = [rowP a (b1 ++ [])]
    rw [rowIs_rowP h, List.append_nil]
  | y :: bs, b1, row, h => by
    have h1 := rowStep_ok (low := low3) b1 y a [] row h
    rw [dist_nil, dist_nil] at h1
    have e : 2 * (b1 ++ [y]).length = 2 * b1.length + 2 := by rw [List.length_append]; rfl
    rw [e] at h1
    have ih := fgoR_ok a bs (b1 ++ [y]) _ h1
    rw [e] at ih
    show (2 * b1.length :: row) :: fgoR a bs (2 * b1.length + 2) (frow y a (2 * b1.length) (2 * b1.length + 2) row) = _
    rw [frow_eq, ih, List.length_cons, List.range_succ_eq_map (n := bs.length + 1), List.map_cons, List.map_map, rowIs_rowP h]
    congr 1
    · rw [List.take_zero, List.append_nil]
    · apply List.map_congr_left
      intro j _
      show rowP a (b1 ++ [y] ++ bs.take j) = rowP a (b1 ++ y :: bs.take j)
      rw [List.append_assoc]; rfl
theorem upd_ok (D j : Nat) (f g l : Nat → Nat) : ∀ R : List Nat, upd D j (R.map f) (R.map g) (R.map l) = R.map fun i => bif Nat.beq (f i + g i) D then j else l i
  | [] => rfl
  | i :: R => by
    show @Bool.rec (fun _ => Nat) (l i) j (Nat.beq (f i + g i) D) :: upd D j (R.map f) (R.map g) (R.map l) = _
    rw [upd_ok D j f g l R, List.map_cons]
    cases Nat.beq (f i + g i) D <;> rfl
theorem updAll_ok (D : Nat) (R : List Nat) (f g : Nat → Nat → Nat) : ∀ (n j : Nat) (l : Nat → Nat),
    updAll D ((List.range' j n).map fun j => R.map (f j)) j ((List.range' j n).map fun j => R.map (g j)) (R.map l) = R.map fun i => (List.range' j n).foldl (fun l j => bif Nat.beq (f j i + g j i) D then j else l) (l i)
  | 0, j, l => rfl
  | n + 1, j, l => by
    have ih := updAll_ok D R f g n (j + 1) fun i => bif Nat.beq (f j i + g j i) D then j else l i
    rw [← upd_ok D j (f j) (g j) l R] at ih
    exact ih
theorem zers_ok : ∀ w : List Sym, zers w = (List.range (w.length + 1)).map fun _ => 0
  | [] => rfl
  | x :: w => by
    show 0 :: zers w = _
    rw [zers_ok w, List.length_cons, List.range_succ_eq_map (n := w.length + 1), List.map_cons, List.map_map]; rfl
theorem beq_dec (a b : Nat) : Nat.beq a b = decide (a = b) := by
  rw [Bool.eq_iff_iff]; simp [Nat.beq_eq]
theorem lastsR_ok (w o : List Sym) : lastsR w o = lastsN low3 w o := by
  unfold lastsR lastsG lastsN
  have e := fgoR_ok w o [] (row0 w 0) (row0_ok w [])
  rw [show 2 * ([] : List Sym).length = 0 from rfl] at e
  rw [hd2_ok, sgoR_ok, e, zers_ok, List.range_eq_range' (n := o.length + 1)]
  unfold rowP rowS
  rw [updAll_ok (dist low3 w o) (List.range (w.length + 1)) (fun j i => dist low3 (w.take i) ([] ++ o.take j)) (fun j i => dist low3 (w.drop i) (o.drop j)) (o.length + 1) 0 fun _ => 0]
  apply List.map_congr_left
  intro i _
  rw [← List.range_eq_range', lastDown_fold (fun j => Nat.beq (dist low3 (w.take i) ([] ++ o.take j) + dist low3 (w.drop i) (o.drop j)) (dist low3 w o)) o.length]
  unfold lastC crossed
  rw [lastDown_is]
  exact lastDown_congr _ fun j _ => beq_dec _ _
theorem nthR_eq : ∀ (l : List Nat) (i : Nat), nthR l i = l.getD i 0
  | [], _ => rfl
  | _ :: _, 0 => rfl
  | _ :: l, i + 1 => nthR_eq l i
theorem lastsN_at {low : Sym → Sym} (w o : List Sym) (b : Nat) (hb : b ≤ w.length) : (lastsN low w o).getD b 0 = lastC low w o b := by
  unfold lastsN
  rw [List.getD_eq_getElem?_getD, List.getElem?_map, List.getElem?_range (by (first | lia | omega))]; rfl
theorem halvedR_ok : ∀ (n : Nat) (w o : List Sym) (ahead : Nat), halvedR n w o ahead = halvedN low3 n w o ahead
  | 0, _, _, _ => rfl
  | n + 1, w, o, ahead => by
    have e : nthR (lastsR w o) (w.length / 2) = lastC low3 w o (w.length / 2) := by rw [lastsR_ok, nthR_eq, lastsN_at _ _ _ (Nat.div_le_self _ _)]
    unfold halvedN
    show @Bool.rec (fun _ => List Nat) [] ((fun c => halvedR n (w.take (w.length / 2)) (o.take c) ahead ++ (Nat.add ahead c :: halvedR n (w.drop (w.length / 2)) (o.drop c) (Nat.add ahead c))) (nthR (lastsR w o) (w.length / 2))) (Nat.ble 2 w.length) = _
    rw [e]
    dsimp only
    rw [halvedR_ok n, halvedR_ok n]
    by_cases h : w.length < 2
    · have : Nat.ble 2 w.length = false := by
        cases e : Nat.ble 2 w.length with
        | false => rfl
        | true => have := Nat.le_of_ble_eq_true e; (first | lia | omega)
      rw [this, if_pos h]
    · rw [Nat.ble_eq_true_of_le (by (first | lia | omega)), if_neg h, List.append_assoc]; rfl
theorem spentR_ok (o : List Sym) : ∀ (w : List Sym) (ls : List Nat), spentR o w ls = spentGo low3 o w ls
  | [], ls => by unfold spentGo; rfl
  | x :: w, [] => rfl
  | x :: w, [a] => rfl
  | x :: w, a :: b :: ls => by
    unfold spentGo
    rw [← hd2_ok, ← spentR_ok o w (b :: ls)]; rfl
theorem ascR_ok : ∀ (l : List Nat), ascR l = true → (l.map fun (k : Nat) => (k : Int)).Pairwise (· ≤ ·)
  | [], _ => .nil
  | [a], _ => by simp
  | a :: b :: l, h => by
    have h : @Bool.rec (fun _ => Bool) false (ascR (b :: l)) (Nat.ble a b) = true := h
    cases hab : Nat.ble a b with
    | false => rw [hab] at h; cases h
    | true =>
    rw [hab] at h
    have hab := Nat.le_of_ble_eq_true hab
    have ih := ascR_ok (b :: l) h
    rw [List.map_cons, List.pairwise_cons]
    refine ⟨fun z hz => ?_, ih⟩
    rw [List.map_cons] at ih hz
    rcases List.mem_cons.mp hz with q | q
    · subst q; (first | lia | omega)
    · have := List.rel_of_pairwise_cons ih q
      (first | lia | omega)
theorem eqR_ok : ∀ (l m : List Nat), eqR l m = true → l = m
  | [], [], _ => rfl
  | [], _ :: _, h => by cases h
  | _ :: _, [], h => by cases h
  | a :: l, b :: m, h => by
    have h : @Bool.rec (fun _ => Bool) false (eqR l m) (Nat.beq a b) = true := h
    cases hab : Nat.beq a b with
    | false => rw [hab] at h; cases h
    | true =>
      rw [hab] at h
      rw [Nat.eq_of_beq_eq_true hab, eqR_ok l m h]
theorem andR_ok {a b : Bool} (h : andR a b = true) : a = true ∧ b = true := by
  cases a with
  | false => cases h
  | true => exact ⟨rfl, h⟩
structure Facts3 (low : Sym → Sym) (w o : List Sym) : Prop where
  asc : ((lastsN low w o).map fun (k : Nat) => (k : Int)).Pairwise (· ≤ ·)
  last : (lastsN low w o).getD w.length 0 = o.length
  spent : 2 * (lastsN low w o).getD 0 0 + spentGo low o w (lastsN low w o) = dist low w o
  halv : halvedN low 4 w o 0 = (lastsN low w o).tail.dropLast
theorem good3_ok {w o : List Sym} (h : good3 w o = true) : Facts3 low3 w o := by
  unfold good3 at h
  rw [lastsR_ok] at h
  unfold fin3 at h
  obtain ⟨h1, h⟩ := andR_ok h
  obtain ⟨h2, h⟩ := andR_ok h
  obtain ⟨h3, h4⟩ := andR_ok h
  have h3 := Nat.eq_of_beq_eq_true h3
  rw [spentR_ok, hd2_ok] at h3
  have h4 := eqR_ok _ _ h4
  rw [halvedR_ok] at h4
  have h2 := Nat.eq_of_beq_eq_true h2
  rw [nthR_eq] at h2
  refine ⟨ascR_ok _ h1, h2, ?_, h4⟩
  rw [← h3]
  cases lastsN low3 w o <;> rfl
noncomputable def words3R : Nat → List (List Sym) := @Nat.rec (fun _ => List (List Sym)) [[]] fun _ ih => @List.rec (List Sym) (fun _ => List (List Sym)) [] (fun w _ r => (0 :: w) :: (1 :: w) :: (2 :: w) :: r) ih
noncomputable def allR (f : List Sym → Bool) (l : List (List Sym)) : Bool := @List.rec (List Sym) (fun _ => Bool) true (fun a _ ih => @Bool.rec (fun _ => Bool) false ih (f a)) l
theorem allR_mem {f : List Sym → Bool} : ∀ {l : List (List Sym)}, allR f l = true → ∀ x ∈ l, f x = true
  | [], _, _, hx => by cases hx
  | a :: l, h, x, hx => by
    have h : @Bool.rec (fun _ => Bool) false (allR f l) (f a) = true := h
    cases hf : f a with
    | false => rw [hf] at h; cases h
    | true =>
      rw [hf] at h
      rcases List.mem_cons.mp hx with q | q
      · rw [q]; exact hf
      · exact allR_mem h x q
theorem mem_trip {w v : List Sym} {x : Sym} (hx : x = 0 ∨ x = 1 ∨ x = 2) : ∀ {l : List (List Sym)}, w ∈ l → x :: w ∈ (@List.rec (List Sym) (fun _ => List (List Sym)) [] (fun w _ r => (0 :: w) :: (1 :: w) :: (2 :: w) :: r) l : List (List Sym))
  | a :: l, h => by
    show x :: w ∈ (0 :: a) :: (1 :: a) :: (2 :: a) :: (@List.rec (List Sym) (fun _ => List (List Sym)) [] (fun w _ r => (0 :: w) :: (1 :: w) :: (2 :: w) :: r) l : List (List Sym))
    rcases List.mem_cons.mp h with q | q
    · subst q
      rcases hx with h | h | h <;> simp [h]
    · have := mem_trip (v := v) hx q
      simp [this]
theorem mem_words3R (f : Int → Sym) (hf : ∀ x, f x = 0 ∨ f x = 1 ∨ f x = 2) : ∀ (l : List Int), l.map f ∈ words3R l.length
  | [] => by show [] ∈ [[]]; exact List.mem_cons_self
  | x :: l => mem_trip (v := []) (hf x) (mem_words3R f hf l)
end

section
noncomputable def nums3 (ns : List Int) : List Int := ns.take 8 ++ ([0, 0, 0, 2, 2, 1] : List Int).drop (ns.take 8).length
noncomputable def sg3 (x : Int) : Sym := ([0, 1, 2] : List Sym).getD (x.fmod 3).toNat 0
theorem sg3_in (x : Int) : sg3 x = 0 ∨ sg3 x = 1 ∨ sg3 x = 2 := by
  have h1 := Int.fmod_nonneg_of_pos x (b := 3) (by (first | lia | omega))
  have h2 := Int.fmod_lt_of_pos x (b := 3) (by (first | lia | omega))
  unfold sg3
  obtain ⟨k, hk, e⟩ : ∃ k : Nat, k < 3 ∧ (x.fmod 3).toNat = k := ⟨_, by (first | lia | omega), rfl⟩
  rw [e]
  have : ∀ k : Fin 3, ([0, 1, 2] : List Sym).getD k.val 0 = 0 ∨ ([0, 1, 2] : List Sym).getD k.val 0 = 1 ∨ ([0, 1, 2] : List Sym).getD k.val 0 = 2 := by decide
  exact this ⟨k, hk⟩
noncomputable def wrd3 (ns : List Int) : List Sym := (slcX (some 0) none 2 (nums3 ns)).map sg3
noncomputable def oth3 (ns : List Int) : List Sym := (slcX (some 1) none 2 (nums3 ns)).map sg3
theorem nums3_len (ns : List Int) : (nums3 ns).length = 6 ∨ (nums3 ns).length = 7 ∨ (nums3 ns).length = 8 := by
  unfold nums3
  simp only [List.length_append, List.length_drop, List.length_take, List.length_cons, List.length_nil]
  (first | lia | omega)
theorem cut3 (l : List Int) (h : l.length = 6 ∨ l.length = 7 ∨ l.length = 8) : ∃ a b : List Int, slcX (some 0) none 2 l = a ∧ slcX (some 1) none 2 l = b ∧ (a.length = 3 ∨ a.length = 4) ∧ (b.length = 3 ∨ (b.length = 4 ∧ a.length = 4)) := by
  rcases l with _ | ⟨a, _ | ⟨b, _ | ⟨c, _ | ⟨d, _ | ⟨e, _ | ⟨f, _ | ⟨g, _ | ⟨i, _ | ⟨j, l⟩⟩⟩⟩⟩⟩⟩⟩⟩ <;> simp only [List.length_cons, List.length_nil] at h
  all_goals first
    | (exfalso; (first | lia | omega))
    | exact ⟨[a, c, e, g], [b, d, f, i], by kernel_rfl, by kernel_rfl, .inr rfl, .inr ⟨rfl, rfl⟩⟩
    | exact ⟨[a, c, e, g], [b, d, f], by kernel_rfl, by kernel_rfl, .inr rfl, .inl rfl⟩
    | exact ⟨[a, c, e], [b, d, f], by kernel_rfl, by kernel_rfl, .inl rfl, .inl rfl⟩
theorem slcX_back {α : Type} (l : List α) : slcX none none (-1) l = l.reverse := by
  unfold slcX
  rw [picked_rev]
  have key : ∀ n, n ≤ l.length → ((List.range n).map fun k => n - 1 - k).filterMap (l[·]?) = (l.take n).reverse := by
    intro n
    induction n with
    | zero => intro _; rfl
    | succ n ih =>
      intro hn
      rw [List.range_succ_eq_map, List.map_cons, List.map_map, List.filterMap_cons]
      have h0 : l[n + 1 - 1 - 0]? = some l[n] := by simp
      rw [h0]
      have h1 : (List.map ((fun k => n + 1 - 1 - k) ∘ Nat.succ) (List.range n)) = (List.range n).map fun k => n - 1 - k := by
        apply List.map_congr_left; intro k _; simp only [Function.comp]; (first | lia | omega)
      rw [h1, ih (by (first | lia | omega)), List.take_add_one, List.reverse_append]
      simp [List.getElem?_eq_getElem (show n < l.length by (first | lia | omega))]
  have := key l.length (Nat.le_refl _)
  rwa [List.take_length] at this
theorem slc_mid {α : Type} (l : List α) (h : 1 ≤ l.length) : slc (some 1) (some (-1)) l = l.tail.dropLast := by
  unfold slc
  rw [show (1 : Int) = ((1 : Nat) : Int) from rfl]
  simp only [Option.elim, clipAt_nat, clipAt_neg _ 1 (Nat.le_refl _)]
  rw [Nat.min_eq_left h, List.dropLast_eq_take, List.length_tail, List.drop_one]
theorem lastsN_len {low : Sym → Sym} (w o : List Sym) : (lastsN low w o).length = w.length + 1 := by unfold lastsN; rw [List.length_map, List.length_range]
theorem lastsN_get {low : Sym → Sym} (w o : List Sym) (b : Nat) (hb : b ≤ w.length) : (lastsN low w o)[b]? = some ((lastsN low w o).getD b 0) := by
  rw [List.getD_eq_getElem?_getD, List.getElem?_eq_getElem (by rw [lastsN_len]; (first | lia | omega))]; rfl
theorem spentGo_cons {low : Sym → Sym} (o : List Sym) {w : List Sym} {ls : List Nat} {k : Nat} {x : Sym} {a b : Nat} (hx : w[k]? = some x) (ha : ls[k]? = some a) (hb : ls[k + 1]? = some b) :
    spentGo low o (w.drop k) (ls.drop k) = dist low [x] (seg o a b) + spentGo low o (w.drop (k + 1)) (ls.drop (k + 1)) := by
  have e : ∀ {α : Type} {l : List α} {k : Nat} {z : α}, l[k]? = some z → l.drop k = z :: l.drop (k + 1) := fun {α l k z} h => by
    have hk : k < l.length := by
      rcases Nat.lt_or_ge k l.length with q | q
      · exact q
      · rw [List.getElem?_eq_none_iff.mpr q] at h; cases h
    rw [List.getElem?_eq_getElem hk] at h
    cases h
    exact List.drop_eq_getElem_cons hk
  rw [e hx, e ha, e hb]
  rfl
structure Law3In (c : GCtx) (ns : List Int) (w o : List Sym) : Prop where
  w_ : w = wrd3 ns
  o_ : o = oth3 ns
  wl : 1 ≤ w.length ∧ w.length ≤ 4
  ol : o.length ≤ 4
  facts : Facts3 c.low w o
  k0 : (c.κ 0 : Int) = 97 + (ns.take 63).sum.fmod 25
  k1 : (c.κ 1 : Int) = 65 + (ns.take 63).sum.fmod 25
  k2 : (c.κ 2 : Int) = 98 + (ns.take 63).sum.fmod 25
end

theorem pints_len (l : List Nat) : (pints l).length = l.length := by unfold pints; rw [List.length_map]
theorem pints_get {l : List Nat} {k x : Nat} (h : l[k]? = some x) : (pints l)[k]? = some (.int x) := by unfold pints; rw [List.getElem?_map, h]; rfl
theorem pints_rev (l : List Nat) : (pints l).reverse = pints l.reverse := by unfold pints; rw [List.map_reverse]
theorem pints_tail (l : List Nat) : (pints l).tail.dropLast = pints l.tail.dropLast := by unfold pints; rw [List.map_dropLast, List.map_tail]

theorem law3_call {c : GCtx} {mks} (ok : L3 c mks) (n : Nat) (ns : List Int) (hns : ns.length ≤ 63) (w o : List Sym) (H : Law3In c ns w o) :
    CallS c (n + 10) (.glob "law") [.list (ns.map .int)] fun v => v = .bool true := by
  have e : defRec? pw3 "law" = defRec? pw3 "law" := rfl
  conv at e => rhs; whnf
  have okG := ok.toGOk
  have bLen := ok.bLen
  have bRange := ok.bRange
  have bSum := ok.bSum
  have bChr := ok.bChr
  have fn : ∀ x, (defRec? pw3 x).isSome = true → (∃ v, c.mg x = some v) ∧ (c.recs x).isSome = true := fun x h => okG.fnV ok.recs h
  refine CallS.globP okG ok.recs e (ok.no _ (by decide)) rfl (by rfl) (by rfl) ?_
  clear e
  dsimp only
  have h63 : ∀ m : Nat, slc none (some (m : Int)) (ns.map PV.int) = (ns.take m).map PV.int := fun m => by rw [slc_upto, List.map_take]
  repeat walk_at "st"
  rw [show slc none (some 8) (ns.map PV.int) = (ns.take 8).map PV.int from h63 8]
  repeat walk_at "st"
  refine EvE.list (EvL.cons ?_)
  repeat walk_at "st"
  refine ⟨show 6 ≤ big by decide +kernel, ?_⟩
  repeat walk_at "st"
  rw [List.length_map, slc_from]
  have eN : (ns.take 8).map PV.int ++ ([PV.int 0, PV.int 0, PV.int 0, PV.int 2, PV.int 2, PV.int 1] : List PV).drop (ns.take 8).length = (nums3 ns).map PV.int := by
    unfold nums3; rw [List.map_append, List.map_drop]; rfl
  have lN := nums3_len ns
  refine BinS.addL (by rw [eN, List.length_map]; exact big100 (by (first | lia | omega))) ?_
  rw [eN]
  repeat walk_at "st"
  rw [show slc none (some 63) (ns.map PV.int) = (ns.take 63).map PV.int from h63 63]
  refine BltS.sum ?_
  repeat walk_at "st"
  refine BinS.modI (by decide) ?_
  repeat walk_at "st"
  have k0 := H.k0
  have k1 := H.k1
  have k2 := H.k2
  generalize (ns.take 63).sum.fmod 25 = B at k0 k1 k2
  refine BltS.chr (x := 0) k0 (okG.asc 0) ?_
  repeat walk_at "st"
  refine BltS.chr (x := 1) k1 (okG.asc 1) ?_
  refine BinS.addS (show 2 ≤ big by decide +kernel) ?_
  repeat walk_at "st"
  refine BltS.chr (x := 2) k2 (okG.asc 2) ?_
  refine BinS.addS (show 3 ≤ big by decide +kernel) ?_
  rw [show ([0] ++ [1] ++ [2] : List Sym) = [0, 1, 2] from rfl]
  -- the words
  have hsg : ∀ (x : Int) {P : PV → Prop}, P (.str [sg3 x]) → IdxS c (.str [0, 1, 2]) (.int (x.fmod 3)) P := fun x P hp => by
    have h1 := Int.fmod_nonneg_of_pos x (b := 3) (by (first | lia | omega))
    have h2 := Int.fmod_lt_of_pos x (b := 3) (by (first | lia | omega))
    obtain ⟨k, hk3, hx3⟩ : ∃ k : Nat, k < 3 ∧ x.fmod 3 = k := ⟨(x.fmod 3).toNat, by (first | lia | omega), by (first | lia | omega)⟩
    unfold sg3 at hp
    rw [hx3, Int.toNat_natCast] at hp
    rw [hx3]
    exact IdxS.strN (by simp) (by simpa using hk3) (show ([0, 1, 2] : List Sym)[k]? = some (([0, 1, 2] : List Sym).getD k 0) by rw [List.getD_eq_getElem?_getD, List.getElem?_eq_getElem (by simpa using hk3)]; rfl) hp
  have e3 : ∀ l : List Int, (l.filter fun _ => true).map (fun x => PV.str [sg3 x]) = (l.map fun x => [sg3 x]).map PV.str := fun l => by
    rw [List.filter_eq_self.mpr (by simp), List.map_map]; rfl
  have e4 : ∀ l : List Int, (l.map fun x => [sg3 x]).flatten = l.map sg3 := fun l => by
    induction l with
    | nil => rfl
    | cons x l ih => simp only [List.map_cons, List.flatten_cons, ih]; rfl
  have hwl := H.wl
  have hol := H.ol
  have hw_ := H.w_
  have ho_ := H.o_
  unfold wrd3 at hw_
  unfold oth3 at ho_
  have F := H.facts
  clear H eN k0 k1 k2
  repeat walk_at "st"
  refine EvE.method "str.join" PySem.F.slot_str_join (by kernel_rfl) ?_ (by rfl) (by decide) (by rfl) (by intro _; rfl)
  refine EvE.str [] rfl (Nat.zero_le _) ⟨[], rfl, ?_⟩
  walk_at "st"
  refine EvE.comp okG (compOk_of (by rfl) (by kernel_rfl)) ⟨rfl, ⟨_, _, rfl, by rfl, by walk_at "lk", fun _ => trivial⟩, by intros; rfl⟩ ?_
  refine EvE.sliceX (EvE.name (by walk_at "lk") (EvP.some (EvE.int (partI (EvP.none (EvE.int ⟨2, rfl, by decide, SlcXP.list ?_⟩))))))
  rw [← slcX_map]
  have lw : (slcX (some 0) none 2 (nums3 ns)).length ≤ 4 := by have := hwl.2; rwa [hw_, List.length_map] at this
  refine IterP.list (CompI.listIf (slcX (some 0) none 2 (nums3 ns)) PV.int (fun _ => true) (fun x => .str [sg3 x]) (by (first | lia | omega)) ?_ ?_)
  · intro x hx acc hacc K' hK
    dsimp only [tgt]
    walk_at "st"
    rw [if_pos rfl]
    rw [if_pos rfl] at hK
    repeat walk_at "st"
    refine BinS.modI (by decide) ?_
    refine hsg x ?_
    exact ⟨bigSnoc hacc, hK⟩
  walk_at "st"
  rw [e3]
  refine MthS.join (by rw [e4, ← hw_]; exact big100 (by (first | lia | omega))) ?_
  rw [e4, ← hw_]
  repeat walk_at "st"
  refine EvE.method "str.join" PySem.F.slot_str_join (by kernel_rfl) ?_ (by rfl) (by decide) (by rfl) (by intro _; rfl)
  refine EvE.str [] rfl (Nat.zero_le _) ⟨[], rfl, ?_⟩
  walk_at "st"
  refine EvE.comp okG (compOk_of (by rfl) (by kernel_rfl)) ⟨rfl, ⟨_, _, rfl, by rfl, by walk_at "lk", fun _ => trivial⟩, by intros; rfl⟩ ?_
  refine EvE.sliceX (EvE.name (by walk_at "lk") (EvP.some (EvE.int (partI (EvP.none (EvE.int ⟨2, rfl, by decide, SlcXP.list ?_⟩))))))
  rw [← slcX_map]
  have lo : (slcX (some 1) none 2 (nums3 ns)).length ≤ 4 := by have := hol; rwa [ho_, List.length_map] at this
  refine IterP.list (CompI.listIf (slcX (some 1) none 2 (nums3 ns)) PV.int (fun _ => true) (fun x => .str [sg3 x]) (by (first | lia | omega)) ?_ ?_)
  · intro x hx acc hacc K' hK
    dsimp only [tgt]
    walk_at "st"
    rw [if_pos rfl]
    rw [if_pos rfl] at hK
    repeat walk_at "st"
    refine BinS.modI (by decide) ?_
    refine hsg x ?_
    exact ⟨bigSnoc hacc, hK⟩
  walk_at "st"
  rw [e3]
  refine MthS.join (by rw [e4, ← ho_]; exact big100 (by (first | lia | omega))) ?_
  rw [e4, ← ho_]
  clear e3 e4 hw_ ho_ hsg lw lo lN
  -- the price
  repeat walk_at "st"
  refine EvE.call okG (EvE.gfun okG (fn "_law_price" (by rfl)).1 (fn "_law_price" (by rfl)).2 ⟨trivial, ?_⟩ (by rfl)) (by rfl)
  repeat walk_at "st"
  refine CallS.mono (price_call ok (n + 4) 4 w o hwl.2 hwl.2 hol) ?_
  rintro _ rfl
  have hdm := dist_max (low := c.low) w o
  have hD16 : dist c.low w o ≤ 100 := by (first | lia | omega)
  have hsp := F.spent
  generalize hD : dist c.low w o = D at hdm hD16 hsp
  repeat walk_at "st"
  refine EvE.call okG (EvE.gfun okG (fn "_levenshtein_distance" (by rfl)).1 (fn "_levenshtein_distance" (by rfl)).2 ⟨trivial, ?_⟩ (by rfl)) (by rfl)
  repeat walk_at "st"
  refine CallS.mono (lev_call ok.toLevOk (n + 7) w o D (by (first | lia | omega)) (by (first | lia | omega)) (by (first | lia | omega))) ?_
  rintro _ rfl
  have hl := (lev_ok (low := c.low) w o D (by unfold maxsize; (first | lia | omega)) (by (first | lia | omega)) (by (first | lia | omega))).1 (by rw [hD]; exact Int.le_refl _)
  rw [hl, hD]
  clear hl
  repeat walk_at "st"
  rw [if_neg (by simp)]
  walk_at "st"
  refine EvT.val (by intros; with_unfolding_all rfl) (EvE.isBool okG ok.bIsinstance ok.bBool (EvE.name (by walk_at "lk") ⟨_, rfl, ?_⟩) (by rfl) (by rfl) (by rfl))
  repeat walk_at "st"
  rw [if_neg (by simp)]
  walk_at "st"
  rw [if_neg (by simp)]
  walk_at "st"
  dsimp only
  -- the last places
  refine ExSs.cons (ExS.assignG (Or.inl rfl) (EvG.list (EvL.nil ⟨Nat.zero_le _, ?_⟩)) (by intro _; rfl))
  dsimp only
  have hLl := lastsN_len (low := c.low) w o
  refine ExSs.cut (fun σ => hv σ "word" (.str w) ∧ hv σ "other" (.str o) ∧ hv σ "price" (.int D) ∧ ho σ "lasts" (pints (lastsN c.low w o))) (ExS.for_ okG ?_) ?_
  · repeat walk_at "st"
    rw [show ((w.length : Int) + 1) = ((w.length + 1 : Nat) : Int) by (first | lia | omega)]
    refine IterP.forN (fun i σ => hv σ "word" (.str w) ∧ hv σ "other" (.str o) ∧ hv σ "price" (.int D) ∧ ho σ "lasts" (pints ((List.range i).map (lastC c.low w o)))) (by (first | lia | omega)) ⟨?_, ?_, ?_, ?_⟩ ?_ ?_
    · walk_at "lk"
    · walk_at "lk"
    · walk_at "lk"
    · walk_at "lk"
    · exact fun σ h => ⟨rfl, h⟩
    · rintro i σ hi ⟨h1, h2, h3, h4⟩
      refine AsS.name (Or.inl rfl) ?_
      iterate 2 walk_at "st"
      refine EvE.call okG (EvE.gfun okG (fn "_law_crossed" (by rfl)).1 (fn "_law_crossed" (by rfl)).2 ⟨trivial, ?_⟩ (by rfl)) (by rfl)
      repeat walk_at "st"
      refine CallS.mono (crossed_call ok (n + 6) w o i D (by (first | lia | omega)) hwl.2 hol hD.symm hD16) ?_
      rintro _ rfl
      have hne : crossed c.low w o i ≠ [] := crossed_ne (by (first | lia | omega))
      have hcs := crossed_sub (low := c.low) w o i
      have hhd := lastC_head hne
      have hlen := len_subs hcs
      generalize crossed c.low w o i = cr at hne hcs hhd hlen
      repeat walk_at "st"
      refine EvE.call okG (EvE.gfun okG (fn "_law_back" (by rfl)).1 (fn "_law_back" (by rfl)).2 ⟨trivial, ?_⟩ (by rfl)) (by rfl)
      repeat walk_at "st"
      refine CallS.mono (back_call ok (n + 6) o cr hol hcs) ?_
      rintro _ rfl
      repeat walk_at "st"
      refine EvE.list (EvL.nil ⟨Nat.zero_le _, ?_⟩)
      rw [pints_eq]
      refine CmpS.eqLI (ys := []) ?_
      rw [← pints_eq]
      rw [if_neg (by simpa using hne)]
      iterate 3 walk_at "st"
      refine EvE.sliceX (EvE.name (by walk_at "lk") (EvP.none (EvP.none ?_)))
      repeat walk_at "st"
      refine ⟨-1, rfl, by decide, SlcXP.list ?_⟩
      rw [slcX_back, pints_rev, pints_eq]
      refine CmpS.neLI ?_
      rw [← pints_eq]
      rw [if_neg (by simp)]
      repeat walk_at "st"
      rw [if_neg (by simp)]
      walk_at "st"
      dsimp only
      refine ExSs.cons (ExS.append (by walk_at "lk") ?_ (by rfl) (by rfl) (by with_unfolding_all rfl))
      repeat walk_at "st"
      refine IdxS.listN (k := 0) (by rw [pints_len, List.length_reverse]; (first | lia | omega)) (by rw [pints_len, List.length_reverse]; exact List.length_pos_iff.mpr hne) hhd ?_
      refine ⟨big100 (by rw [List.length_append, pints_len, List.length_map, List.length_range]; simp; (first | lia | omega)), ?_⟩
      dsimp only
      repeat walk_at "st"
      refine ⟨?_, ?_, ?_, ?_⟩
      · walk_at "lk"
      · walk_at "lk"
      · walk_at "lk"
      · rw [List.range_succ, List.map_append]
        unfold pints
        rw [List.map_append]
        walk_at "lk"
  have hget := lastsN_get (low := c.low) w o
  have hasc := F.asc
  have hlast := F.last
  have hhalv := F.halv
  clear F
  generalize lastsN c.low w o = ls at hLl hget hasc hlast hhalv hsp
  rintro σ ⟨h1, h2, h3, h4⟩
  refine ExSs.freeze "lasts" _ h4 ?_
  repeat walk_at "st"
  rw [show (-(1 : Int)) = -1 from rfl, slc_mid _ (by rw [pints_len]; (first | lia | omega)), pints_tail]
  refine EvE.call okG (EvE.gfun okG (fn "_law_halved" (by rfl)).1 (fn "_law_halved" (by rfl)).2 ⟨trivial, ?_⟩ (by rfl)) (by rfl)
  repeat walk_at "st"
  refine CallS.mono (halved_call ok n 4 w o 0 hwl.2 hwl.2 hol) ?_
  rintro _ rfl
  rw [hhalv, pints_eq]
  refine CmpS.neLI ?_
  rw [if_neg (by simp)]
  repeat walk_at "st"
  refine IdxS.list (ls.length - 1) (by decide) (by rw [pints_len]; exact seqIndex_neg' 1 _ (Nat.le_refl _) (by (first | lia | omega))) (pints_get (x := o.length) (by rw [hLl, show w.length + 1 - 1 = w.length by (first | lia | omega), hget _ (Nat.le_refl _), hlast])) ?_
  repeat walk_at "st"
  rw [if_neg (by simp)]
  repeat walk_at "st"
  refine EvE.ofG (EvG.callB okG ok.bSorted trivial ?_ (by rfl) (by rfl) (by rfl))
  repeat walk_at "st"
  rw [pints_eq]
  refine BltG.sortedI (by rw [List.length_map]; (first | lia | omega)) hasc ?_
  refine CmpS.neLI ?_
  rw [← pints_eq, if_neg (by simp)]
  repeat walk_at "st"
  rw [if_neg (by simp)]
  repeat walk_at "st"
  have ix : ∀ (k : Nat), k ≤ w.length → ∀ {P : PV → Prop}, P (.int (ls.getD k 0 : Nat)) → IdxS c (.list (pints ls)) (.int k) P := fun k hk P hp => IdxS.listN (by rw [pints_len]; (first | lia | omega)) (by rw [pints_len]; (first | lia | omega)) (pints_get (hget k hk)) hp
  refine ix 0 (Nat.zero_le _) ?_
  refine BinS.mulI (by decide) ?_
  dsimp only
  refine ExSs.cut (fun σ => hv σ "spent" (.int D) ∧ hv σ "price" (.int D)) (ExS.for_ okG ?_) ?_
  · repeat walk_at "st"
    refine IterP.forN (fun k σ => ∃ s : Nat, hv σ "word" (.str w) ∧ hv σ "other" (.str o) ∧ hv σ "price" (.int D) ∧ hv σ "lasts" (.list (pints ls)) ∧ hv σ "spent" (.int s) ∧ s + spentGo c.low o (w.drop k) (ls.drop k) = D) (by (first | lia | omega)) ⟨2 * ls.getD 0 0, ?_, ?_, ?_, ?_, ?_, hsp⟩ ?_ ?_
    · walk_at "lk"
    · walk_at "lk"
    · walk_at "lk"
    · walk_at "lk"
    · rw [show ((2 * ls.getD 0 0 : Nat) : Int) = 2 * ((ls.getD 0 0 : Nat) : Int) by (first | lia | omega)]
      walk_at "lk"
    · rintro σ ⟨s, g1, g2, g3, g4, g5, g6⟩
      rw [List.drop_length] at g6
      have g6 : s = D := by rw [← g6]; unfold spentGo; rfl
      subst g6
      exact ⟨rfl, g5, g3⟩
    · rintro k σ hk ⟨s, g1, g2, g3, g4, g5, g6⟩
      have hx : w[k]? = some w[k] := List.getElem?_eq_getElem hk
      rw [spentGo_cons o hx (hget k (by (first | lia | omega))) (hget (k + 1) (by (first | lia | omega)))] at g6
      generalize w[k] = x at hx g6
      have i1 := fun {P : PV → Prop} => ix k (by (first | lia | omega)) (P := P)
      have i2 := fun {P : PV → Prop} => ix (k + 1) (by (first | lia | omega)) (P := P)
      generalize ls.getD k 0 = a at g6 i1
      generalize ls.getD (k + 1) 0 = b at g6 i2
      refine AsS.name (Or.inl rfl) ?_
      refine ExSs.cons (ExS.aug (v := .int s) (by walk_at "lk") (Or.inl rfl) ?_)
      refine EvE.call okG (EvE.gfun okG (fn "_levenshtein_distance" (by rfl)).1 (fn "_levenshtein_distance" (by rfl)).2 ⟨trivial, ?_⟩ (by rfl)) (by rfl)
      repeat walk_at "st"
      refine IdxS.strN (x := x) (by (first | lia | omega)) hk hx ?_
      repeat walk_at "st"
      refine i1 ?_
      repeat walk_at "st"
      rw [show ((k : Int) + 1) = ((k + 1 : Nat) : Int) by (first | lia | omega)]
      refine i2 ?_
      repeat walk_at "st"
      rw [slc_ab, show (o.drop a).take (b - a) = seg o a b from rfl]
      have hsl : (seg o a b).length ≤ 4 := by unfold seg; rw [List.length_take, List.length_drop]; (first | lia | omega)
      refine CallS.mono (lev_call ok.toLevOk (n + 7) [x] (seg o a b) D (by simp) (by (first | lia | omega)) (by (first | lia | omega))) ?_
      rintro _ rfl
      have hl := (lev_ok (low := c.low) [x] (seg o a b) D (by unfold maxsize; (first | lia | omega)) (by simp) (by (first | lia | omega))).1 (by (first | lia | omega))
      rw [hl]
      clear hl
      repeat walk_at "st"
      refine ⟨s + dist c.low [x] (seg o a b), ?_, ?_, ?_, ?_, ?_, by (first | lia | omega)⟩
      · walk_at "lk"
      · walk_at "lk"
      · walk_at "lk"
      · walk_at "lk"
      · rw [show ((s + dist c.low [x] (seg o a b) : Nat) : Int) = (s : Int) + (dist c.low [x] (seg o a b) : Nat) by (first | lia | omega)]
        walk_at "lk"
  · rintro σ ⟨g1, g2⟩
    repeat walk_at "st"
    simp

section
noncomputable def dropH (h : Heap) (Ps : List Addr) : Heap := ⟨h.objs.mapIdx fun i o => if i ∈ Ps then { o with data := .freed } else o, h.life⟩
theorem dropH_get (h : Heap) (Ps : List Addr) (b : Addr) : (dropH h Ps).get? b = if b ∈ Ps then none else h.get? b := by
  unfold dropH Heap.get?
  simp only [Array.getElem?_mapIdx]
  by_cases hb : b ∈ Ps
  · simp only [hb, if_true]
    cases h.objs[b]? <;> rfl
  · simp only [hb, if_false, Option.map_id']
theorem dropH_of {h : Heap} {Ps : List Addr} {b : Addr} {o : Obj} (e : (dropH h Ps).get? b = some o) : b ∉ Ps ∧ h.get? b = some o := by
  rw [dropH_get] at e
  by_cases hb : b ∈ Ps
  · rw [if_pos hb] at e; cases e
  · rw [if_neg hb] at e; exact ⟨hb, e⟩
theorem dropH_keep {h : Heap} {Ps : List Addr} {b : Addr} {o : Obj} (hP : ∀ P ∈ Ps, h.get? P = some (tabObj #[])) (e : h.get? b = some o) (hn : o ≠ tabObj #[]) : (dropH h Ps).get? b = some o := by
  rw [dropH_get, if_neg (fun hb => ?_)]
  · exact e
  · rw [hP b hb] at e; cases e; exact hn rfl

noncomputable def toRec : Stmt → Option DefRec
  | .FunctionDef n a b _ _ _ sc _ _ pos => some ⟨n, a, b, sc, pos⟩
  | _ => none
theorem recs_link {p view : Program} (h : p.main.body.filterMap toRec = recsOf view) {x : Str} {r : FnRec} (e : defRec? p x = some r) : ∃ d ∈ recsOf view, d.name = x ∧ d.params = r.params ∧ FuncBody.stmts d.body = r.body ∧ d.scope = r.scope := by
  rw [← h]
  unfold defRec? at e
  split at e
  · rename_i n a b d1 d2 d3 sc d4 d5 pos hf
    cases e
    have h1 := List.mem_of_find?_eq_some hf
    have h2 := List.find?_some hf
    exact ⟨⟨n, a, b, sc, pos⟩, List.mem_filterMap.mpr ⟨_, h1, rfl⟩, by simpa using h2, rfl, rfl, rfl⟩
  · cases e

structure LawCtx (p : Program) (w : World) (κ : Sym → Nat) (low : Sym → Sym) (mg mb : Str → Option Value) (makers : List Str) (c : GCtx) (mks : List (Str × Addr)) : Prop where
  prog : c.prog = p
  w : c.w = w
  kap : c.κ = κ
  low : c.low = low
  mg : c.mg = mg
  mb : c.mb = mb
  recs : c.recs = recsP p mks
  some_ : ∀ x ∈ makers, ∃ m, mks.lookup x = some m
  none_ : ∀ x, x ∉ makers → mks.lookup x = none
  ok : GOk c
  bm : BmOk c

theorem maker_tabs {view : Program} {loose mean mg mb} {h : Heap} (T : Top view loose mean mg mb h) : ∀ (makers : List Str), (∀ x ∈ makers, ∃ d ∈ recsOf view, d.name = x) →
    ∃ (mks : List (Str × Addr)) (Ps : List Addr), (∀ x ∈ makers, ∃ m, mks.lookup x = some m) ∧ (∀ x, x ∉ makers → mks.lookup x = none) ∧ (∀ P ∈ Ps, h.get? P = some (tabObj #[]) ∧ ∃ x cd, mks.lookup x = some cd ∧ CodeHd h cd P) ∧
      ∀ x m, mks.lookup x = some m → (∃ P ∈ Ps, CodeHd h m P) ∧ ∃ a o fd, mg x = some (.ref a) ∧ h.get? a = some o ∧ o.data = .func fd ∧ fd.code = .ref m
  | [], _ => ⟨[], [], by simp, by simp, by simp, by simp⟩
  | x :: r, hx => by
    obtain ⟨mks, Ps, h1, h2, h3, h4⟩ := maker_tabs T r (fun y hy => hx y (List.mem_cons_of_mem _ hy))
    obtain ⟨d, hd, rfl⟩ := hx x List.mem_cons_self
    obtain ⟨a, o, fd, cd, P, e1, e2, e3, e4, e5, e6⟩ := T.tab d hd
    have hC := CodeHd.of e5 e6
    by_cases hr : d.name ∈ r
    · exact ⟨mks, Ps, fun y hy => by rcases List.mem_cons.mp hy with q | q; (· rw [q]; exact h1 _ hr); (· exact h1 _ q), fun y hy => h2 y (fun q => hy (List.mem_cons_of_mem _ q)), h3, h4⟩
    refine ⟨(d.name, cd) :: mks, P :: Ps, fun y hy => ?_, fun y hy => ?_, fun Q hQ => ?_, fun y m hy => ?_⟩
    · by_cases q : y = d.name
      · subst q; exact ⟨cd, by simp⟩
      · obtain ⟨m, hm⟩ := h1 y ((List.mem_cons.mp hy).resolve_left q)
        exact ⟨m, by rw [List.lookup_cons, beq_eq_false_iff_ne.mpr q]; exact hm⟩
    · have q : y ≠ d.name := fun q => hy (q ▸ List.mem_cons_self)
      rw [List.lookup_cons, beq_eq_false_iff_ne.mpr q]
      exact h2 y (fun z => hy (List.mem_cons_of_mem _ z))
    · rcases List.mem_cons.mp hQ with q | q
      · subst q; exact ⟨e6.2, d.name, cd, by simp, hC⟩
      · obtain ⟨g1, y, m, g2, g3⟩ := h3 Q q
        have hy : y ≠ d.name := fun z => by subst z; rw [h2 _ hr] at g2; cases g2
        exact ⟨g1, y, m, by rw [List.lookup_cons, beq_eq_false_iff_ne.mpr hy]; exact g2, g3⟩
    · by_cases q : y = d.name
      · subst q
        rw [List.lookup_cons_self] at hy
        cases hy
        exact ⟨⟨P, List.mem_cons_self, hC⟩, a, o, fd, e1, e2, e3, e4⟩
      · rw [List.lookup_cons, beq_eq_false_iff_ne.mpr q] at hy
        obtain ⟨⟨Q, g1, g2⟩, g3⟩ := h4 y m hy
        exact ⟨⟨Q, List.mem_cons_of_mem _ g1, g2⟩, g3⟩

theorem repL_of_ints {c : GCtx} {W : Wd} : ∀ {vs : List Value} {ns : List Int}, IntsAre vs ns → RepL c W vs (ns.map .int)
  | _, _, .nil => .nil
  | _, _, .cons n t h => .cons _ _ _ _ (.int n t) (repL_of_ints h)

theorem codeHd_tab_inj {h h' : Heap} {cd P Q : Addr} (x : CodeHd h cd P) (y : CodeHd h' cd Q) (e : Ext h h') : P = Q := by
  obtain ⟨o, vs, _, _, _, _, _, _, _, e1, e2, e3, e4, _⟩ := x
  obtain ⟨o', vs', _, _, _, _, _, _, _, f1, f2, f3, f4, _⟩ := y
  have := e cd o e1 (fun ps q => by subst q; cases e2)
  rw [this] at f1; cases f1
  rw [e3] at f3; cases f3
  rw [e4] at f4; cases f4; rfl

theorem law_join {p view : Program} {loose mean mg mb} {w : World} {s₁ : Shared} (T : Top view loose mean mg mb s₁.heap) (hrec : p.main.body.filterMap toRec = recsOf view) (κ : Sym → Nat) (low : Sym → Sym)
    (hinj : ∀ x y, κ x = κ y → x = y) (hasc : ∀ x, κ x < 128) (makers : List Str) (hmk : ∀ x ∈ makers, ∃ r, defRec? p x = some r) {fa l : Addr} {vs : List Value} {ns : List Int}
    (hfa : mg "law" = some (.ref fa)) (hlaw : (defRec? p "law").isSome = true) (hL : s₁.heap.IsList l vs.toArray) (hI : IntsAre vs ns) (hn : ns.length ≤ big)
    (N : Nat) (hN : N ≤ 100) (H : ∀ c mks, LawCtx p w κ low mg mb makers c mks → CallS c N (.glob "law") [.list (ns.map .int)] fun v => v = .bool true) {E : Value → Shared → Prop} :
    wpAny (model p w) callerA (call (.ref fa) [.ref l]) (fun v s' => v = .bool true ∧ OldK s₁.heap s'.heap ∧ s'.os = s₁.os ∧ s'.gens = s₁.gens) E s₁ := by
  obtain ⟨mks, Ps, m1, m2, m3, m4⟩ := maker_tabs T makers fun x hx => by
    obtain ⟨r, hr⟩ := hmk x hx
    obtain ⟨d, hd, e, _⟩ := recs_link hrec hr
    exact ⟨d, hd, e⟩
  have hP : ∀ P ∈ Ps, s₁.heap.get? P = some (tabObj #[]) := fun P h => (m3 P h).1
  have base : ∀ b o, (dropH s₁.heap Ps).get? b = some o → s₁.heap.get? b = some o := fun b o e => (dropH_of e).2
  have hsz : (dropH s₁.heap Ps).objs.size = s₁.heap.objs.size := by unfold dropH; simp
  have nsk : ∀ {a : Addr} {m : Str → Option Value}, s₁.heap.Ns a m → (dropH s₁.heap Ps).Ns a m := fun {a m} hns => by
    obtain ⟨o, es, ep, ho, hd, r⟩ := hns
    exact ⟨o, es, ep, dropH_keep hP ho (fun q => by subst q; cases hd), hd, r⟩
  let c : GCtx := ⟨p, w, κ, low, mg, mb, dropH s₁.heap Ps, [], recsP p mks⟩
  have ok : GOk c := by
    refine ⟨nsk T.g, nsk T.b, ?_, hinj, hasc, fun x r mk e => ?_⟩
    · obtain ⟨mc, h1, h2⟩ := T.nolimit
      exact ⟨mc, nsk h1, h2⟩
    · have e' : (defRec? p x).map (fun r => (r, mks.lookup x)) = some (r, mk) := e
      obtain ⟨r', hr', q⟩ := Option.map_eq_some_iff.mp e'
      cases q
      obtain ⟨d, hd, e1, e2, e3, e4⟩ := recs_link hrec hr'
      obtain ⟨a, o, pm, code, doc, g1, g2, g3, g4⟩ := T.fn d hd
      obtain ⟨cd, oc, vc, t, rfl, k2, k3, k4⟩ := g4
      refine ⟨a, o, _, cd, oc, vc, _, t, by rw [← e1]; exact g1, dropH_keep hP g2 (fun q => by subst q; cases g3), trivial, g3, e2, e3, e4, rfl, rfl, rfl, rfl, rfl, rfl, dropH_keep hP k2 (fun q => ?_), k3, k4, fun m hm => ?_⟩
      · subst q; cases k3; simp at k4
      · obtain ⟨_, a', o', fd', z1, z2, z3, z4⟩ := m4 x m hm
        rw [e1] at g1
        rw [g1] at z1; cases z1
        rw [g2] at z2; cases z2
        rw [g3] at z3; cases z3
        cases z4; rfl
  have bm : BmOk c := by
    obtain ⟨b, o, h1, h2, h3, h4, h5, h6⟩ := T.bmain
    exact ⟨b, o, h1, h2, dropH_keep hP h3 (fun q => by subst q; cases h6), h4, h5, h6⟩
  obtain ⟨ol, hol, hcl, nl, hdl⟩ := hL
  let W : Wd := ⟨fun a => if a = l then some ol else none, fun a => ∃ x, mks.lookup x = some a⟩
  have hW : W.H l = some ol := if_pos rfl
  have hlP : l ∉ Ps := fun q => by rw [hP l q] at hol; cases hol; cases hdl
  have I : Inv c W s₁.heap := by
    refine ⟨base, by show (dropH s₁.heap Ps).objs.size ≤ _; rw [hsz]; exact Nat.le_refl _, fun a o e => ?_, fun cd hc => ?_, (fun q hq => absurd hq (List.not_mem_nil)), fun x r m e => ?_⟩
    · by_cases ha : a = l
      · subst ha; rw [hW] at e; cases e; exact hol
      · have : W.H a = none := if_neg ha
        rw [this] at e; cases e
    · obtain ⟨x, hx⟩ := hc
      obtain ⟨⟨P, hPm, hC⟩, _⟩ := m4 x cd hx
      refine ⟨P, #[], hC, hP P hPm, trivial, fun pos cv e => by simp [codeAmong] at e, ?_, if_neg fun q => ?_⟩
      · show (dropH s₁.heap Ps).get? P = none
        rw [dropH_get, if_pos hPm]
      · subst q; exact hlP hPm
    · have e' : (defRec? p x).map (fun r => (r, mks.lookup x)) = some (r, some m) := e
      obtain ⟨r', hr', q⟩ := Option.map_eq_some_iff.mp e'
      exact ⟨x, (Prod.mk.inj q).2⟩
  have R : Rep c W (.ref fa) (.glob "law") := .glob "law" _ hfa (by show ((defRec? p "law").map _).isSome = true; rw [Option.isSome_map]; exact hlaw)
  have RL : RepL c W [.ref l] [.list (ns.map .int)] := .cons _ _ _ _ (.list l ol nl vs _ hW hcl hdl (repL_of_ints hI) (by rw [List.length_map]; exact hn)) .nil
  have ao : AOk N callerA := by
    refine ⟨?_, ?_, rfl⟩
    · show 1 + 300 + N < 1000; (first | lia | omega)
    · show 4 + 16 * N + 100 < 9900; (first | lia | omega)
  refine H c mks ⟨rfl, rfl, rfl, rfl, rfl, rfl, rfl, m1, m2, ok, bm⟩ I ao R RL fun pv v W' s' hp po Rv => ?_
  subst hp
  cases Rv
  refine ⟨rfl, ⟨fun b o e => ?_, fun b o e => ?_⟩, po.os, po.gens⟩
  · by_cases hb : b ∈ Ps
    · obtain ⟨g1, x, cd, g2, g3⟩ := m3 b hb
      rw [g1] at e; cases e
      obtain ⟨P, ps, h1, h2, _⟩ := po.inv.code cd (po.step.le.2 _ ⟨x, g2⟩)
      have := codeHd_tab_inj g3 h1 po.step.ext
      subst this
      exact .inr (.inl ⟨(CodeHd.tab g3 g1).isCodeTable, rfl, #[], ps, rfl, by rw [h2]; simp⟩)
    · exact .inl (po.inv.base b o (by show (dropH s₁.heap Ps).get? b = _; rw [dropH_get, if_neg hb]; exact e))
  · by_cases hb : b ∈ Ps
    · obtain ⟨g1, x, cd, g2, g3⟩ := m3 b hb
      obtain ⟨P, ps, h1, h2, _⟩ := po.inv.code cd (po.step.le.2 _ ⟨x, g2⟩)
      have := codeHd_tab_inj g3 h1 po.step.ext
      subst this
      exact ⟨_, h2⟩
    · exact ⟨o, po.inv.base b o (by show (dropH s₁.heap Ps).get? b = _; rw [dropH_get, if_neg hb]; exact e)⟩
end

section
noncomputable def freeB (view : Program) (loose : List Str) (x : Str) : Bool := decide (x ∉ startupNames) && decide (x ∉ loose) && decide (x ∉ (recsOf view).map (·.name)) && decide (x ∉ (litsOf view).map (·.1)) && decide (x ∉ (clssOf view loose).map (·.name))
theorem topBlt {view : Program} {loose mean mg mb} {h : Heap} (T : Top view loose mean mg mb h) {x : Str} {v : Value} (hx : freeB view loose x = true) (hn : decide (x ≠ ("__name__" : Str)) = true) (hb : bootBuiltins x = some v) : mg x = none ∧ mb x = some v := by
  simp only [freeB, Bool.and_eq_true, decide_eq_true_eq] at hx hn
  exact ⟨T.free x hx.1.1.1.1 hx.1.1.1.2 hx.1.1.2 hx.1.2 hx.2, by rw [T.builtins x hn]; exact hb⟩
theorem topCst {view : Program} {loose mean mg mb} {h : Heap} (T : Top view loose mean mg mb h) {x : Str} {n : Int} (hx : valOf view x = some (.int n)) : ∃ v, mg x = some v ∧ ∀ c W, Rep c W v (.int n) := by
  obtain ⟨v, h1, h2⟩ := T.const x _ hx
  refine ⟨v, h1, fun c W => ?_⟩
  cases h2 h with
  | int _ t => exact .int n t
theorem blt_at {c : GCtx} {mg mb : Str → Option Value} (e1 : c.mg = mg) (e2 : c.mb = mb) {x v} (h : mg x = none ∧ mb x = some v) : Blt c x v := ⟨by rw [e1]; exact h.1, by rw [e2]; exact h.2⟩
end

section
theorem chk33 : allR (fun w => allR (good3 w) (words3R 3)) (words3R 3) = true := by decide +kernel
end

section
theorem chk43_0 : allR (fun w => allR (good3 (0 :: w)) (words3R 3)) (words3R 3) = true := by decide +kernel
theorem chk43_1 : allR (fun w => allR (good3 (1 :: w)) (words3R 3)) (words3R 3) = true := by decide +kernel
theorem chk43_2 : allR (fun w => allR (good3 (2 :: w)) (words3R 3)) (words3R 3) = true := by decide +kernel
end

section
theorem chk44_00 : allR (fun w => allR (good3 (0 :: 0 :: w)) (words3R 4)) (words3R 2) = true := by decide +kernel
theorem chk44_01 : allR (fun w => allR (good3 (0 :: 1 :: w)) (words3R 4)) (words3R 2) = true := by decide +kernel
theorem chk44_02 : allR (fun w => allR (good3 (0 :: 2 :: w)) (words3R 4)) (words3R 2) = true := by decide +kernel
theorem chk44_10 : allR (fun w => allR (good3 (1 :: 0 :: w)) (words3R 4)) (words3R 2) = true := by decide +kernel
theorem chk44_11 : allR (fun w => allR (good3 (1 :: 1 :: w)) (words3R 4)) (words3R 2) = true := by decide +kernel
theorem chk44_12 : allR (fun w => allR (good3 (1 :: 2 :: w)) (words3R 4)) (words3R 2) = true := by decide +kernel
theorem chk44_20 : allR (fun w => allR (good3 (2 :: 0 :: w)) (words3R 4)) (words3R 2) = true := by decide +kernel
theorem chk44_21 : allR (fun w => allR (good3 (2 :: 1 :: w)) (words3R 4)) (words3R 2) = true := by decide +kernel
theorem chk44_22 : allR (fun w => allR (good3 (2 :: 2 :: w)) (words3R 4)) (words3R 2) = true := by decide +kernel
end

section
noncomputable def kap3 (t : Nat) (x : Sym) : Nat := if x = 0 then 97 + t else if x = 1 then 65 + t else if x = 2 then 98 + t else 0
theorem kap3_inj (t : Nat) (ht : t < 25) : ∀ x y, kap3 t x = kap3 t y → x = y := by
  have : ∀ (t : Fin 25) (x y : Sym), kap3 t.val x = kap3 t.val y → x = y := by decide +kernel
  exact this ⟨t, ht⟩
theorem kap3_asc (t : Nat) (ht : t < 25) : ∀ x, kap3 t x < 128 := by
  have : ∀ (t : Fin 25) (x : Sym), kap3 t.val x < 128 := by decide +kernel
  exact this ⟨t, ht⟩
theorem kap3_low (t : Nat) (ht : t < 25) : ∀ x, Txt.lower (mkS (kap3 t) [x]) = mkS (kap3 t) [low3 x] := by
  have : ∀ (t : Fin 25) (x : Sym), Txt.lower (mkS (kap3 t.val) [x]) = mkS (kap3 t.val) [low3 x] := by decide +kernel
  exact this ⟨t, ht⟩
theorem words3_ok (ns : List Int) : good3 (wrd3 ns) (oth3 ns) = true ∧ (1 ≤ (wrd3 ns).length ∧ (wrd3 ns).length ≤ 4) ∧ (oth3 ns).length ≤ 4 := by
  obtain ⟨a, b, ea, eb, la, lb⟩ := cut3 (nums3 ns) (nums3_len ns)
  have hw : wrd3 ns = a.map sg3 := by unfold wrd3; rw [ea]
  have ho : oth3 ns = b.map sg3 := by unfold oth3; rw [eb]
  have ma := mem_words3R sg3 sg3_in a
  have mb := mem_words3R sg3 sg3_in b
  rw [hw, ho, List.length_map, List.length_map]
  refine ⟨?_, by (first | lia | omega), by (first | lia | omega)⟩
  rcases la with h | h
  · rcases lb with h2 | ⟨h2, h3⟩
    · rw [h] at ma; rw [h2] at mb; exact allR_mem (allR_mem chk33 _ ma) _ mb
    · (first | lia | omega)
  rcases a with _ | ⟨x, _ | ⟨y, r⟩⟩
  · cases h
  · cases h
  have mr := mem_words3R sg3 sg3_in r
  have mr1 := mem_words3R sg3 sg3_in (y :: r)
  have hr : r.length = 2 := by simpa using h
  have hr1 : (y :: r).length = 3 := by simpa using h
  rw [hr] at mr
  rw [hr1] at mr1
  show good3 (sg3 x :: sg3 y :: r.map sg3) _ = true
  change sg3 y :: r.map sg3 ∈ _ at mr1
  rcases lb with h2 | ⟨h2, h3⟩ <;> rw [h2] at mb
  · rcases sg3_in x with q | q | q <;> rw [q]
    · exact allR_mem (allR_mem chk43_0 _ mr1) _ mb
    · exact allR_mem (allR_mem chk43_1 _ mr1) _ mb
    · exact allR_mem (allR_mem chk43_2 _ mr1) _ mb
  · rcases sg3_in x with q | q | q <;> rw [q] <;> rcases sg3_in y with q | q | q <;> rw [q]
    · exact allR_mem (allR_mem chk44_00 _ mr) _ mb
    · exact allR_mem (allR_mem chk44_01 _ mr) _ mb
    · exact allR_mem (allR_mem chk44_02 _ mr) _ mb
    · exact allR_mem (allR_mem chk44_10 _ mr) _ mb
    · exact allR_mem (allR_mem chk44_11 _ mr) _ mb
    · exact allR_mem (allR_mem chk44_12 _ mr) _ mb
    · exact allR_mem (allR_mem chk44_20 _ mr) _ mb
    · exact allR_mem (allR_mem chk44_21 _ mr) _ mb
    · exact allR_mem (allR_mem chk44_22 _ mr) _ mb
theorem law3_in {c : GCtx} (ns : List Int) (t : Nat) (ht : (ns.take 63).sum.fmod 25 = (t : Int)) (hk : c.κ = kap3 t) (hlow : c.low = low3) : Law3In c ns (wrd3 ns) (oth3 ns) := by
  obtain ⟨h1, h2, h3⟩ := words3_ok ns
  refine ⟨rfl, rfl, h2, h3, by rw [hlow]; exact good3_ok h1, ?_, ?_, ?_⟩
  · rw [hk, ht]; rfl
  · rw [hk, ht]; rfl
  · rw [hk, ht]; rfl
end

end Mine

open PySem PySem.W PyProof.Rows
namespace Mine3
end Mine3

open PySem PySem.W PyProof.Rows
open Mine in
theorem PySem.Challenge.cw_pg0095_03_holds : PySem.Challenge.rw_pg0095_03.Holds := by
  w_on
  refine holds_law (by decide +kernel) fun said => ?_
  o_head Hook.none
  case hw => w_witness2
  intro w s₀ s₁ mg mb G Y fa o pm cd doc dV kV ho hd hcd hD hmg hg args vals as hpre hlay hrd hwl hlo
  refine Ground.open G ?_
  intro T B D TE TW
  wrow_args hpre hlay hrd hwl hlo
  rename_i ns _ _ _ _ _ _ _ l vs _ hL _ _ _ hI _ hlen _
  clear B D TE TW Y hd hcd hD ho
  have hns : ns.length ≤ 63 := by (first | lia | omega)
  have htot : (ns.take 63).sum.fmod 25 = (((ns.take 63).sum.fmod 25).toNat : Int) ∧ ((ns.take 63).sum.fmod 25).toNat < 25 := by
    have h1 := Int.fmod_nonneg_of_pos (ns.take 63).sum (b := 25) (by (first | lia | omega))
    have h2 := Int.fmod_lt_of_pos (ns.take 63).sum (b := 25) (by (first | lia | omega))
    (first | lia | omega)
  generalize ht : ((ns.take 63).sum.fmod 25).toNat = t at htot
  have bLen := topBlt T (x := "len") (v := .builtin "len") (by kernel_rfl) (by kernel_rfl) (by kernel_rfl)
  have bMin := topBlt T (x := "min") (v := .builtin "min") (by kernel_rfl) (by kernel_rfl) (by kernel_rfl)
  have bRange := topBlt T (x := "range") (v := .type "range") (by kernel_rfl) (by kernel_rfl) (by kernel_rfl)
  have bList := topBlt T (x := "list") (v := .type "list") (by kernel_rfl) (by kernel_rfl) (by kernel_rfl)
  have bSum := topBlt T (x := "sum") (v := .builtin "sum") (by kernel_rfl) (by kernel_rfl) (by kernel_rfl)
  have bChr := topBlt T (x := "chr") (v := .builtin "chr") (by kernel_rfl) (by kernel_rfl) (by kernel_rfl)
  have bMax := topBlt T (x := "max") (v := .builtin "max") (by kernel_rfl) (by kernel_rfl) (by kernel_rfl)
  have bIs := topBlt T (x := "isinstance") (v := .builtin "isinstance") (by kernel_rfl) (by kernel_rfl) (by kernel_rfl)
  have bBool := topBlt T (x := "bool") (v := .type "bool") (by kernel_rfl) (by kernel_rfl) (by kernel_rfl)
  have bSorted := topBlt T (x := "sorted") (v := .builtin "sorted") (by kernel_rfl) (by kernel_rfl) (by kernel_rfl)
  have k1 := topCst T (x := "_MOVE_COST") (n := 2) (by kernel_rfl)
  have k2 := topCst T (x := "_CASE_COST") (n := 1) (by kernel_rfl)
  have k3 := topCst T (x := "_MAX_STRING_SIZE") (n := 40) (by kernel_rfl)
  refine wpAny_mono (Mine.law_join (E := fun _ _ => False) (p := PySem.Challenge.pw_pg0095_03) T (by kernel_rfl) (kap3 t) low3 (kap3_inj t htot.2) (kap3_asc t htot.2) ["_law_finder"] ?_ hmg (by kernel_rfl) hL hI ?_ 20 (by decide) ?_) ?_ ?_
  · intro x hx
    simp only [List.mem_cons, List.not_mem_nil, or_false] at hx
    subst hx
    exact Option.isSome_iff_exists.mp (by kernel_rfl)
  · show ns.length ≤ 1048576
    (first | lia | omega)
  · intro c mks hc
    have cst : ∀ {x : Str} {n : Int}, (∃ v, mg x = some v ∧ ∀ c W, Rep c W v (.int n)) → ∃ v, c.mg x = some v ∧ ∀ W, Rep c W v (.int n) := fun ⟨v, a, b⟩ => ⟨v, by rw [hc.mg]; exact a, b c⟩
    have no : ∀ x : Str, x ≠ "_law_finder" → mks.lookup x = none := fun x h => hc.none_ x (by simp [h])
    have ok : L3 c mks := {
      toGOk := hc.ok
      recs := hc.recs
      move := cst k1
      case_ := cst k2
      maxs := cst k3
      bLen := blt_at hc.mg hc.mb bLen
      bMin := blt_at hc.mg hc.mb bMin
      bRange := blt_at hc.mg hc.mb bRange
      bList := blt_at hc.mg hc.mb bList
      lower := fun x => by rw [hc.kap, hc.low]; exact kap3_low t htot.2 x
      mks0 := no _ (by decide +kernel)
      mks1 := no _ (by decide +kernel)
      subV := (hc.ok.fnV hc.recs (by kernel_rfl)).1
      levV := (hc.ok.fnV hc.recs (by kernel_rfl)).1
      bm := hc.bm
      bSum := blt_at hc.mg hc.mb bSum
      bChr := blt_at hc.mg hc.mb bChr
      bMax := blt_at hc.mg hc.mb bMax
      bIsinstance := blt_at hc.mg hc.mb bIs
      bBool := blt_at hc.mg hc.mb bBool
      bSorted := blt_at hc.mg hc.mb bSorted
      someF := hc.some_ _ (by simp)
      none_ := no }
    exact law3_call ok 10 ns hns (wrd3 ns) (oth3 ns) (law3_in ns t htot.1 hc.kap hc.low)
  · rintro v s' ⟨rfl, h1, h2, h3⟩
    exact ⟨.inl ⟨.bool true, .bool true, [], rfl, raisesW_false (by wrow_none_raised), .bool true, postW_of (by wrow_shape) (by wtm_val) (by w_fin), unshared_nil⟩, h1, h2, .of_eq (h3.trans hg)⟩
  · intro e s' h
    exact h.elim
