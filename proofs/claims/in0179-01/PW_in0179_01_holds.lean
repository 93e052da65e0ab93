import PyProof.Rows.All
import Wide.All
import OpenK.AllK
import Wide.FinOn
import PySem.Challenge.RW_in0179_01
set_option Elab.async false
section
open PySem PySem.W PyProof.Rows
namespace Mine

noncomputable abbrev PW : Program := PySem.Challenge.pw_in0179_01
noncomputable abbrev PT : Addr := 64

/-- deep data -/
inductive D where
  | none
  | bool (b : Bool)
  | int (i : Int)
  | str (x : Str)
  | bytes (b : Array UInt8)
  | list (xs : List D)
  | rng (a b : Int)
  | obj (o : Obj)
  | raw (v : Value)
  | any

/-- addresses that may turn -/
noncomputable abbrev XS := Addr → Prop

/-- a record that never turns -/
noncomputable def Rec (o : Obj) : Prop := ∃ T fs, o.cls = .type T ∧ o.data = .fields fs
noncomputable def Keepable (o : Obj) : Prop := (o.cls = .type "list" ∧ ∃ its k, o.data = .seq its k) ∨ Rec o

mutual
/-- v stands for d: its lists lie outside X -/
inductive Rd (X : XS) (h : Heap) : Value → D → Prop where
  | none : Rd X h .none .none
  | bool (b : Bool) : Rd X h (.bool b) (.bool b)
  | int (i : Int) (t : Tok) : Rd X h (.int i t) (.int i)
  | str (x : Str) (t : Tok) : Rd X h (.str x t) (.str x)
  | bytes (b : Array UInt8) (t : Tok) : Rd X h (.bytes b t) (.bytes b)
  | list {a : Addr} {vs : List Value} {ds : List D} : h.IsList a vs.toArray → ¬ X a → Rds X h vs ds → Rd X h (.ref a) (.list ds)
  | rng {r : Addr} {a b : Int} {t u v : Tok} : IsRange h r a b 1 t u v → ¬ X r → Rd X h (.ref r) (.rng a b)
  | obj {r : Addr} {o : Obj} : h.get? r = some o → ¬ X r → Rec o → Rd X h (.ref r) (.obj o)
  | raw (v : Value) : Rd X h v (.raw v)
  | any (a : Addr) : Rd X h (.ref a) .any
inductive Rds (X : XS) (h : Heap) : List Value → List D → Prop where
  | nil : Rds X h [] []
  | cons {v : Value} {d : D} {vs : List Value} {ds : List D} : Rd X h v d → Rds X h vs ds → Rds X h (v :: vs) (d :: ds)
end

/-- lists and records outside X stay -/
noncomputable def LK (X : XS) (h h' : Heap) : Prop := ∀ b o, ¬ X b → Keepable o → h.get? b = some o → h'.get? b = some o
theorem LK.list {X : XS} {h h' : Heap} (k : LK X h h') {a its} (n : ¬ X a) (x : h.IsList a its) : h'.IsList a its :=
  let ⟨o, e, c, q, d⟩ := x
  ⟨o, k a o n (.inl ⟨c, its, q, d⟩) e, c, q, d⟩
theorem LK.rng {X : XS} {h h' : Heap} (k : LK X h h') {r a b c t u v} (n : ¬ X r) (x : IsRange h r a b c t u v) : IsRange h' r a b c t u v :=
  k r _ n (.inr ⟨_, _, rfl, rfl⟩) x

mutual
theorem Rd.mono {X : XS} {h h' : Heap} (k : LK X h h') : ∀ {v : Value} {d : D}, Rd X h v d → Rd X h' v d
  | _, _, .none => .none
  | _, _, .bool b => .bool b
  | _, _, .int i t => .int i t
  | _, _, .str x t => .str x t
  | _, _, .bytes b t => .bytes b t
  | _, _, .list hl nx hr => .list (k.list nx hl) nx (Rds.mono k hr)
  | _, _, .rng hl nx => .rng (k.rng nx hl) nx
  | _, _, .obj e nx r => .obj (k _ _ nx (.inr r) e) nx r
  | _, _, .raw v => .raw v
  | _, _, .any a => .any a
theorem Rds.mono {X : XS} {h h' : Heap} (k : LK X h h') : ∀ {vs : List Value} {ds : List D}, Rds X h vs ds → Rds X h' vs ds
  | _, _, .nil => .nil
  | _, _, .cons a b => .cons (Rd.mono k a) (Rds.mono k b)
end
mutual
/-- fewer addresses -/
theorem Rd.less {X Y : XS} {h : Heap} (k : ∀ a, (∃ o, h.get? a = some o) → Y a → X a) : ∀ {v : Value} {d : D}, Rd X h v d → Rd Y h v d
  | _, _, .none => .none
  | _, _, .bool b => .bool b
  | _, _, .int i t => .int i t
  | _, _, .str x t => .str x t
  | _, _, .bytes b t => .bytes b t
  | _, _, .list hl nx hr => .list hl (fun y => nx (k _ (let ⟨o, e, _⟩ := hl; ⟨o, e⟩) y)) (Rds.less k hr)
  | _, _, .rng hl nx => .rng hl (fun y => nx (k _ ⟨_, hl⟩ y))
  | _, _, .obj e nx r => .obj e (fun y => nx (k _ ⟨_, e⟩ y)) r
  | _, _, .raw v => .raw v
  | _, _, .any a => .any a
theorem Rds.less {X Y : XS} {h : Heap} (k : ∀ a, (∃ o, h.get? a = some o) → Y a → X a) : ∀ {vs : List Value} {ds : List D}, Rds X h vs ds → Rds Y h vs ds
  | _, _, .nil => .nil
  | _, _, .cons a b => .cons (Rd.less k a) (Rds.less k b)
end

theorem Rds.length {X : XS} {h : Heap} : ∀ {vs : List Value} {ds : List D}, Rds X h vs ds → vs.length = ds.length
  | _, _, .nil => rfl
  | _, _, .cons _ b => congrArg (· + 1) (Rds.length b)

theorem Rds.get {X : XS} {h : Heap} : ∀ {vs : List Value} {ds : List D}, Rds X h vs ds → ∀ (i : Nat) (d : D), ds[i]? = some d → ∃ v, vs[i]? = some v ∧ Rd X h v d
  | _, _, .nil, i, d, e => by simp at e
  | _, _, .cons a b, 0, d, e => by
    simp only [List.getElem?_cons_zero, Option.some.injEq] at e
    subst e
    exact ⟨_, rfl, a⟩
  | _, _, .cons a b, i + 1, d, e => by
    simp only [List.getElem?_cons_succ] at e ⊢
    exact Rds.get b i d e

theorem Rds.append {X : XS} {h : Heap} : ∀ {vs : List Value} {ds : List D} {vs' : List Value} {ds' : List D}, Rds X h vs ds → Rds X h vs' ds' → Rds X h (vs ++ vs') (ds ++ ds')
  | _, _, _, _, .nil, y => y
  | _, _, _, _, .cons a b, y => .cons a (Rds.append b y)

theorem LK.refl (X : XS) (h : Heap) : LK X h h := fun _ _ _ _ x => x
theorem LK.trans {X : XS} {a b c : Heap} (x : LK X a b) (y : LK X b c) : LK X a c := fun p o n q z => y p o n q (x p o n q z)
theorem LK.of_keep {X : XS} {h h' : Heap} (k : ∀ b o, ¬ X b → h.get? b = some o → h'.get? b = some o) : LK X h h' := fun b o n _ e => k b o n e
/-- a bears no list and no record -/
noncomputable def NoTy (h : Heap) (a : Addr) : Prop := ∀ o, h.get? a = some o → ¬ Keepable o
theorem LK.of_same {X : XS} {h h' : Heap} {a : Addr} (k : Heap.SameBut a h h') (n : NoTy h a) : LK X h h' := fun b o _ q e => by
  have nb : b ≠ a := fun z => n o (z ▸ e) q
  exact (k.2 b nb).trans e
theorem LK.of_same_x {X : XS} {h h' : Heap} {a : Addr} (k : Heap.SameBut a h h') (x : X a) : LK X h h' := fun b o n _ e => by
  have nb : b ≠ a := fun z => n (z ▸ x)
  exact (k.2 b nb).trans e

theorem ns_no_list {h : Heap} {a : Addr} {m : Str → Option Value} (x : h.Ns a m) : NoTy h a := by
  obtain ⟨o', es, ep, e', d', _⟩ := x
  rintro o e (⟨_, _, _, d⟩ | ⟨_, _, _, d⟩)
  all_goals
    rw [e] at e'
    cases e'
    rw [d] at d'
    cases d'
theorem cell_no_list {h : Heap} {a : Addr} {v : Option Value} (x : h.IsCell a v) : NoTy h a := by
  obtain ⟨o', e', d'⟩ := x
  rintro o e (⟨_, _, _, d⟩ | ⟨_, _, _, d⟩)
  all_goals
    rw [e] at e'
    cases e'
    rw [d] at d'
    cases d'
theorem ns_no_cell {h : Heap} {a : Addr} {m : Str → Option Value} (x : h.Ns a m) {v : Option Value} : ¬ h.IsCell a v := by
  rintro ⟨o, e, d⟩
  obtain ⟨o', es, ep, e', d', _⟩ := x
  rw [e] at e'
  cases e'
  rw [d] at d'
  cases d'

/-- the lambda's place -/
noncomputable def lamPos : Pos := ⟨66, 39, 66, 76⟩

noncomputable def TabOk (h : Heap) : Prop := ∃ ps : Array Value, h.get? PT = some (tabObj ps) ∧ TriplesOk ps.toList

structure Ext (h h' : Heap) : Prop where
  keep : ∀ a o, a ≠ PT → h.get? a = some o → h'.get? a = some o
  tab : TabOk h → TabOk h'

theorem tab_no_list {ps : Array Value} (h : Heap) (e : h.get? PT = some (tabObj ps)) : NoTy h PT := by
  rintro o e' (⟨c, _⟩ | ⟨_, _, c, _⟩)
  all_goals
    rw [e] at e'
    cases e'
    cases c
theorem Ext.refl (h : Heap) : Ext h h := ⟨fun _ _ _ e => e, fun x => x⟩
theorem Ext.trans {a b c : Heap} (x : Ext a b) (y : Ext b c) : Ext a c := ⟨fun p o n e => y.keep p o n (x.keep p o n e), fun t => y.tab (x.tab t)⟩
theorem TabOk.keep {h h' : Heap} (k : ∀ b o, h.get? b = some o → h'.get? b = some o) (t : TabOk h) : TabOk h' := by
  obtain ⟨ps, e, tr⟩ := t
  exact ⟨ps, k _ _ e, tr⟩
theorem Ext.of_keep {h h' : Heap} (k : ∀ b o, h.get? b = some o → h'.get? b = some o) : Ext h h' :=
  ⟨fun a o _ e => k a o e, TabOk.keep k⟩
theorem Ext.push (h : Heap) (o : Obj) : Ext h (h.push o) := .of_keep (fun _ _ e => Heap.get?_push_of_some o e)
theorem Ext.ns {h h' : Heap} (x : Ext h h') (t : TabOk h) {a : Addr} {m : Str → Option Value} (y : h.Ns a m) : h'.Ns a m := by
  obtain ⟨o, es, ep, e, d, r⟩ := y
  refine ⟨o, es, ep, x.keep a o ?_ e, d, r⟩
  rintro rfl
  obtain ⟨ps, e', _⟩ := t
  rw [e] at e'
  cases e'
  cases d
theorem Ext.cell {h h' : Heap} (x : Ext h h') (t : TabOk h) {a : Addr} {v : Option Value} (y : h.IsCell a v) : h'.IsCell a v := by
  obtain ⟨o, e, d⟩ := y
  refine ⟨o, x.keep a o ?_ e, d⟩
  rintro rfl
  obtain ⟨ps, e', _⟩ := t
  rw [e] at e'
  cases e'
  cases d
theorem Ext.lk {X : XS} {h h' : Heap} (x : Ext h h') (t : TabOk h) : LK X h h' := by
  obtain ⟨ps, e', _⟩ := t
  intro b o _ q e
  exact x.keep b o (fun z => tab_no_list h e' o (z ▸ e) q) e

/-- the i-th def of the text -/
noncomputable def theFn (i : Nat) : Str × Arguments × List Stmt × Scope := match PW.main.body[i]? with
  | some (.FunctionDef n a b _ _ _ s _ _ _) => (n, a, b, s)
  | _ => ("", default, [], default)

noncomputable abbrev fdOf (i : Nat) (dV kV pm cdv ct : Value) : FuncData :=
  { name := (theFn i).1, qualname := (theFn i).1, params := (theFn i).2.1, body := .stmts (theFn i).2.2.1, scope := (theFn i).2.2.2, globals := mainGlobals, closure := [],
    defaults := dV, kwdefaults := kV, doc := .none, pyModule := pm, annotations := none, code := cdv, closureTuple := ct, builtins := builtinsNs }

/-- the i-th def stands at a -/
noncomputable def FnAt (h : Heap) (a : Addr) (i : Nat) (dV kV cdv : Value) : Prop := ∃ oc od osl pm ct, h.get? a = some ⟨oc, od, .func (fdOf i dV kV pm cdv ct), osl⟩ ∧ h.CodeRec cdv (theFn i).1

/-- base64's signs -/
noncomputable def B64 : Array UInt8 := #[65, 66, 67, 68, 69, 70, 71, 72, 73, 74, 75, 76, 77, 78, 79, 80, 81, 82, 83, 84, 85, 86, 87, 88, 89, 90, 97, 98, 99, 100, 101, 102, 103, 104, 105, 106, 107, 108, 109, 110, 111, 112, 113, 114, 115, 116, 117, 118, 119, 120, 121, 122, 48, 49, 50, 51, 52, 53, 54, 55, 56, 57, 43, 47]
/-- signs that escape turns -/
noncomputable def spec : List Nat := [40, 41, 91, 93, 123, 125, 63, 42, 43, 45, 124, 94, 36, 92, 46, 38, 126, 35, 32, 9, 10, 13, 11, 12]
noncomputable def o52 : Obj := { cls := .type "dict", data := .dict (spec.zipIdx.map fun (c, i) => { hash := c, key := .int c (341 + 6 * i), val := .str ⟨#[92, c]⟩ (345 + 6 * i) }).toArray 24 }
noncomputable def o42 : Obj := { cls := .type "tuple", data := .seq ([14, 14, 4, 1, 1, 9, 0, 64, 0, 1342177280, 0, 0, 0, 0, 0, 17, 0, 13, 11, 9, 0, 64, 0, 1342177280, 0, 0, 0, 0, 0, 17, 1, 1].map fun (i : Int) => Value.int i 0).toArray 0 }
noncomputable def o43 : Obj := { cls := .type "re.Pattern", data := .fields #[.str "([&~|])" 292, .int 32 327, .int 1 0, .none, .none, .ref 42, .int 0 0] }
noncomputable def o91 : Obj := { cls := .type "dict", data := .dict #[{ hash := 0, key := .str "newline" 547, val := .bool true }] 1 }
noncomputable def o99 : Obj := { cls := .type "tuple", data := .seq #[.none] 0 }
noncomputable def oTab : List (Addr × Obj) := [(42, o42), (43, o43), (52, o52), (99, o99)]

/-- addresses of the defs -/
noncomputable def gtab : List (String × Option Value) := [("translate", some (Value.ref 50)), ("_special_chars_map", some (Value.ref 52)), ("escape", some (Value.ref 62)), ("_translate", some (Value.ref 69)), ("_join_translated_parts", some (Value.ref 76)),
  ("_buffer", some (Value.ref 83)), ("_truth", some (Value.ref 90)), ("b2a_base64", some (Value.ref 98)), ("b64encode", some (Value.ref 106)), ("_parse_varint", some (Value.ref 113)), ("_law_alphabet", some (Value.ref 120)),
  ("_law_digits", some (Value.ref 125)), ("_law_rows", some (Value.ref 130)), ("_law_pattern", some (Value.ref 135)), ("_law_fits", some (Value.ref 142)), ("_law_read", some (Value.ref 147)), ("_twin_re_1", some (Value.ref 43)), ("_B64", some (Value.bytes B64 545)),
  ("len", none), ("range", none), ("sorted", none), ("chr", none), ("bytes", none), ("bytearray", none), ("type", none), ("iter", none), ("next", none), ("object", none), ("isinstance", none), ("str", none),
  ("bool", none), ("int", none), ("float", none), ("complex", none), ("list", none), ("tuple", none), ("dict", none), ("set", none), ("frozenset", none)]
noncomputable def btab : List (String × Value) := [("len", Value.builtin "len"), ("range", Value.type "range"), ("sorted", Value.builtin "sorted"), ("chr", Value.builtin "chr"), ("bytes", Value.type "bytes"), ("bytearray", Value.type "bytearray"), ("type", Value.type "type"),
  ("iter", Value.builtin "iter"), ("next", Value.builtin "next"), ("object", Value.type "object"), ("isinstance", Value.builtin "isinstance"), ("str", Value.type "str"), ("bool", Value.type "bool"), ("int", Value.type "int"), ("float", Value.type "float"), ("complex", Value.type "complex"),
  ("list", Value.type "list"), ("tuple", Value.type "tuple"), ("dict", Value.type "dict"), ("set", Value.type "set"), ("frozenset", Value.type "frozenset")]

/-- where the defs stand: address, place in the text, defaults, keyword defaults, code -/
noncomputable def fnTab : List (Addr × Nat × Value × Value × Value) := [(50, 4, .none, .none, .ref 49), (62, 7, .none, .none, .ref 61), (69, 9, .none, .none, .ref 68), (76, 10, .none, .none, .ref 75), (83, 12, .none, .none, .ref 82), (90, 13, .none, .none, .ref 89),
  (98, 15, .none, .ref 91, .ref 97), (106, 17, .ref 99, .none, .ref 105), (113, 19, .none, .none, .ref 112), (120, 21, .none, .none, .ref 119), (125, 22, .none, .none, .ref 124), (130, 23, .none, .none, .ref 129), (135, 24, .none, .none, .ref 134), (142, 25, .none, .none, .ref 141), (147, 26, .none, .none, .ref 146), (152, 27, .none, .none, .ref 151)]

/-- what stands of the top -/
structure Sta (X : XS) (h : Heap) : Prop where
  low : ∀ b, X b → b ≠ PT ∧ ∃ o, h.get? b = some o
  ns : ∃ mg, h.Ns mainGlobals mg ∧ (∀ p ∈ gtab, mg (Str.ofString p.1) = p.2) ∧ h.BuiltinsAt mg PT
  bn : ∃ mb, h.Ns builtinsNs mb ∧ ∀ p ∈ btab, mb (Str.ofString p.1) = some p.2
  lim : h.NoLimit
  tab : TabOk h
  fns : ∀ p ∈ fnTab, FnAt h p.1 p.2.1 p.2.2.1 p.2.2.2.1 p.2.2.2.2
  obs : ∀ p ∈ oTab, h.get? p.1 = some p.2
  cod : CodeHd h 68 PT

theorem noq (ps : Array Value) (tr : TriplesOk ps.toList) {q : Str} {t : Tok} (e : ps[1]? = some (.str q t)) : False := by
  rw [← Array.getElem?_toList] at e
  generalize ps.toList = l at tr e
  match l, tr, e with
  | [], _, e => simp at e
  | .int _ _ :: .int _ _ :: _ :: rest, _, e => simp at e
theorem code_keep {h h' : Heap} (x : Ext h h') (t : TabOk h) {cd : Value} {q : Str} (r : h.CodeRec cd q) : h'.CodeRec cd q := by
  obtain ⟨c, o, vs, tk, e1, e2, e3, e4⟩ := r
  by_cases hc : c = PT
  · subst hc
    obtain ⟨ps, e', tr⟩ := t
    rw [e2] at e'
    cases e'
    cases e3
    exact (noq _ tr e4).elim
  · exact ⟨c, o, vs, tk, e1, x.keep c o hc e2, e3, e4⟩
theorem FnAt.keep {h h' : Heap} (x : Ext h h') (t : TabOk h) {a i dV kV cdv} (f : FnAt h a i dV kV cdv) : FnAt h' a i dV kV cdv := by
  obtain ⟨oc, od, osl, pm, ct, e, r⟩ := f
  refine ⟨oc, od, osl, pm, ct, x.keep a _ ?_ e, code_keep x t r⟩
  rintro rfl
  obtain ⟨ps, e', _⟩ := t
  rw [e] at e'
  cases e'
theorem Sta.less {X Y : XS} {h : Heap} (s : Sta X h) (k : ∀ b, Y b → b ≠ PT ∧ ∃ o, h.get? b = some o) : Sta Y h := ⟨k, s.ns, s.bn, s.lim, s.tab, s.fns, s.obs, s.cod⟩
theorem Sta.mono {X : XS} {h h' : Heap} (x : Ext h h') (s : Sta X h) : Sta X h' where
  low := fun b y => let ⟨n, o, e⟩ := s.low b y; ⟨n, o, x.keep b o n e⟩
  ns := let ⟨m, a, b, d⟩ := s.ns; ⟨m, x.ns s.tab a, b, let ⟨bm, o, e1, e2, e3, e4, e5, e6⟩ := d; ⟨bm, o, e1, e2, e3, e4, x.keep _ _ e4 e5, e6⟩⟩
  bn := let ⟨m, a, b⟩ := s.bn; ⟨m, x.ns s.tab a, b⟩
  lim := let ⟨m, a, b⟩ := s.lim; ⟨m, x.ns s.tab a, b⟩
  tab := x.tab s.tab
  fns := fun p hp => (s.fns p hp).keep x s.tab
  obs := fun p hp => x.keep _ _ (by revert p hp; decide) (s.obs p hp)
  cod := let ⟨o, vs, file, tf, flags, tg, inF, text, tt, e, r⟩ := s.cod; ⟨o, vs, file, tf, flags, tg, inF, text, tt, x.keep _ _ (by decide) e, r⟩

theorem fresh_x {X : XS} {h : Heap} (s : Sta X h) : ¬ X h.objs.size := fun y => let ⟨_, _, e⟩ := s.low _ y; Nat.lt_irrefl _ (Heap.lt_size e)
noncomputable abbrev No : XS := fun _ => False
theorem get_size (h : Heap) : h.get? h.objs.size = none := by
  cases e : h.get? h.objs.size with
  | none => rfl
  | some o => exact absurd (Heap.lt_size e) (Nat.lt_irrefl _)
theorem get_above {h : Heap} {a : Addr} (l : h.objs.size ≤ a) : h.get? a = none := by
  cases e : h.get? a with
  | none => rfl
  | some o => exact absurd (Heap.lt_size e) (Nat.not_lt.mpr l)
theorem ne_of_get {h : Heap} {a b : Addr} {o : Obj} (x : h.get? a = none) (y : h.get? b = some o) : b ≠ a := by
  rintro rfl
  rw [x] at y
  cases y
/-- from s to s': nothing that stood has turned -/
structure Go (s s' : Shared) : Prop where
  gens : s'.gens = s.gens
  drawn : s'.drawn = s.drawn
  os : s'.os = s.os
  ext : Ext s.heap s'.heap
theorem Go.refl (s : Shared) : Go s s := ⟨rfl, rfl, rfl, .refl _⟩
theorem Go.trans {a b c : Shared} (x : Go a b) (y : Go b c) : Go a c := ⟨y.gens.trans x.gens, y.drawn.trans x.drawn, y.os.trans x.os, x.ext.trans y.ext⟩
theorem Go.mk' {s : Shared} {h : Heap} {t : Nat} (x : Ext s.heap h) : Go s { s with heap := h, toks := t } := ⟨rfl, rfl, rfl, x⟩
theorem Go.tok (s : Shared) (t : Nat) : Go s { s with toks := t } := ⟨rfl, rfl, rfl, .refl _⟩
theorem Go.push (s : Shared) (o : Obj) (t : Nat) : Go s { s with heap := s.heap.push o, toks := t } := ⟨rfl, rfl, rfl, .push _ _⟩
section
variable {X : XS}
theorem Go.sta {a b : Shared} (x : Go a b) (y : Sta X a.heap) : Sta X b.heap := y.mono x.ext
theorem Go.rd {a b : Shared} (x : Go a b) (y : Sta X a.heap) {v d} (r : Rd X a.heap v d) : Rd X b.heap v d := r.mono (x.ext.lk y.tab)
theorem Go.rds {a b : Shared} (x : Go a b) (y : Sta X a.heap) {v d} (r : Rds X a.heap v d) : Rds X b.heap v d := r.mono (x.ext.lk y.tab)
end

/-- room for n more calls -/
structure GA (n : Nat) (A : Around) : Prop where
  handled : A.handled = none
  depth : A.depth + n ≤ 900
  units : A.units + 20 * n ≤ 9000
theorem GA.room {n A} (g : GA n A) : A.depth < recursionLimit := by have := g.depth; unfold recursionLimit; omega
theorem GA.unit {n A} (g : GA n A) : A.units < cLine := by have := g.units; unfold cLine; omega
theorem GA.le {n k A} (g : GA n A) (h : k ≤ n) : GA k A := ⟨g.handled, by have := g.depth; omega, by have := g.units; omega⟩
theorem GA.deeper {n A} (g : GA (n + 1) A) (env : Env) : GA n (A.deeper env) := ⟨g.handled, by have := g.depth; show A.depth + 1 + n ≤ 900; omega, by have := g.units; show A.units + 3 + 20 * n ≤ 9000; omega⟩
theorem GA.in1 {n A} (g : GA (n + 1) A) : GA n A.in1 := ⟨g.handled, by have := g.depth; show A.depth + n ≤ 900; omega, by have := g.units; show A.units + 1 + 20 * n ≤ 9000; omega⟩

noncomputable abbrev Rho := List (Str × D)
noncomputable def put (x : Str) (d : D) : Rho → Rho
  | [] => [(x, d)]
  | p :: r => if p.1 == x then (x, d) :: r else p :: put x d r

theorem put_lookup (x : Str) (d : D) : ∀ (ρ : Rho) (y : Str), (put x d ρ).lookup y = if y = x then some d else ρ.lookup y
  | [], y => by
    simp only [put, List.lookup]
    by_cases h : y = x
    · subst h; simp
    · have : (y == x) = false := by simpa using h
      simp [this, h]
  | p :: r, y => by
    obtain ⟨z, e⟩ := p
    unfold put
    by_cases hz : z = x
    · subst hz
      simp only [beq_self_eq_true, if_true, List.lookup]
      by_cases h : y = z
      · subst h; simp
      · have : (y == z) = false := by simpa using h
        simp [this, h]
    · have e1 : (z == x) = false := by simpa using hz
      simp only [e1, Bool.false_eq_true, if_false, List.lookup]
      by_cases h : y = z
      · subst h
        simp [hz]
      · have : (y == z) = false := by simpa using h
        simp only [this]
        exact put_lookup x d r y

/-- a frame of the text's: what its names hold -/
structure Fm (X : XS) (env : Env) (h : Heap) (ρ : Rho) : Prop where
  loc : ∃ m, h.Ns env.locals m ∧ ∀ x d, ρ.lookup x = some d → env.kindOf x = some .local → ∃ v, m x = some v ∧ Rd X h v d
  cel : ∀ x d, ρ.lookup x = some d → (env.kindOf x = some .cell ∨ env.kindOf x = some .free) → ∃ c v, env.cells.lookup x = some c ∧ h.IsCell c (some v) ∧ Rd X h v d
  cex : ∀ x k, env.cells.lookup x = some k → ∃ v, h.IsCell k v

theorem Fm.mono {X : XS} {env h h' ρ} (f : Fm X env h ρ) (x : Ext h h') (t : TabOk h) : Fm X env h' ρ := by
  obtain ⟨⟨m, hm, hl⟩, hc, hx⟩ := f
  refine ⟨⟨m, x.ns t hm, fun y d e k => ?_⟩, fun y d e k => ?_, fun y k e => let ⟨v, a⟩ := hx y k e; ⟨v, x.cell t a⟩⟩
  · obtain ⟨v, a, b⟩ := hl y d e k
    exact ⟨v, a, b.mono (x.lk t)⟩
  · obtain ⟨c, v, a, b, r⟩ := hc y d e k
    exact ⟨c, v, a, x.cell t b, r.mono (x.lk t)⟩

structure EnvOk (env : Env) : Prop where
  kind : env.scope.kind = .function
  globals : env.globals = mainGlobals
  builtins : env.builtins = builtinsNs

structure IE (X : XS) (env : Env) (ρ : Rho) (s : Shared) : Prop where
  ok : EnvOk env
  sta : Sta X s.heap
  fm : Fm X env s.heap ρ
theorem IE.mono {X : XS} {env ρ s s'} (i : IE X env ρ s) (g : Go s s') : IE X env ρ s' := ⟨i.ok, g.sta i.sta, i.fm.mono g.ext i.sta.tab⟩

structure EV (w : World) (n : Nat) (env : Env) (ρ : Rho) (e : PySem.Expr) (d : D) : Prop where
  run : ∀ (X : XS) (A : Around) (s : Shared) (Q : Value → Shared → Prop) (E : Value → Shared → Prop), GA n A → IE X env ρ s → (∀ v s', Go s s' → Rd X s'.heap v d → Q v s') → wpAny (model PW w) A (eval e env) Q E s
structure ET (w : World) (n : Nat) (env : Env) (ρ : Rho) (e : PySem.Expr) (b : Bool) : Prop where
  run : ∀ (X : XS) (A : Around) (s : Shared) (Q : Bool → Shared → Prop) (E : Value → Shared → Prop), GA n A → IE X env ρ s → (∀ s', Go s s' → Q b s') → wpAny (model PW w) A (PySem.isTrue e env (eval e env)) Q E s

section
variable {w : World} {n : Nat} {env : Env} {ρ : Rho}
theorem ev_int {i : Int} {k : Nat} {pos : Pos} : EV w n env ρ (.Constant (.int i) k pos) (.int i) := ⟨fun _ _ _ _ _ _ _ q => wpAny_Constant_int (q _ _ (Go.tok _ _) (.int _ _))⟩
theorem ev_str {x : Str} {k : Nat} {pos : Pos} : EV w n env ρ (.Constant (.str x) k pos) (.str x) := ⟨fun _ _ _ _ _ _ _ q => wpAny_Constant_str (q _ _ (Go.tok _ _) (.str _ _))⟩
theorem ev_bool {b : Bool} {k : Nat} {pos : Pos} : EV w n env ρ (.Constant (.bool b) k pos) (.bool b) := ⟨fun _ _ _ _ _ _ _ q => wpAny_Constant_bool (q _ _ (Go.refl _) (.bool _))⟩
theorem ev_none {k : Nat} {pos : Pos} : EV w n env ρ (.Constant .none k pos) .none := ⟨fun _ _ _ _ _ _ _ q => wpAny_Constant_none (q _ _ (Go.refl _) .none)⟩
theorem ev_name {x : Str} {pos : Pos} {d : D} (e : ρ.lookup x = some d) (k : env.kindOf x = some .local ∨ env.kindOf x = some .cell ∨ (env.kindOf x = some .free ∧ (x == ("__classdict__" : Str)) = false)) (hd : (x == ("__debug__" : Str)) = false := by decide) : EV w n env ρ (.Name x pos) d := by
  refine ⟨?_⟩
  intro X A s Q E _ I q
  refine wpAny_Name ?_ hd
  rcases k with k | k | ⟨k, nc⟩
  · obtain ⟨m, hm, hl⟩ := I.fm.loc
    obtain ⟨v, hv, r⟩ := hl x d e k
    exact wpAny_loadName_local I.ok.kind k hm hv (q _ _ (Go.refl _) r)
  · obtain ⟨c, v, hc, hv, r⟩ := I.fm.cel x d e (.inl k)
    exact wpAny_loadName_cell I.ok.kind k hc hv (q _ _ (Go.refl _) r)
  · obtain ⟨c, v, hc, hv, r⟩ := I.fm.cel x d e (.inr k)
    exact wpAny_loadName_free I.ok.kind k hc hv (q _ _ (Go.refl _) r) nc
end
end Mine
end
section
open PySem PySem.W PyProof.Rows PySem.Calls PySem.Spec
namespace Mine
section
variable {w : World} {n : Nat} {env : Env} {ρ : Rho}

theorem ev_global {x : String} {pos : Pos} {v : Value} (k : env.kindOf (Str.ofString x) = some .globalImplicit) (e : gtab.find? (·.1 == x) = some (x, some v)) (hd : ((Str.ofString x) == ("__debug__" : Str)) = false := by decide) :
    EV w n env ρ (.Name (Str.ofString x) pos) (.raw v) := by
  refine ⟨?_⟩
  intro X A s Q E _ I q
  refine wpAny_Name ?_ hd
  obtain ⟨mg, hm, ht, _⟩ := I.sta.ns
  have hv : mg (Str.ofString x) = some v := ht (x, some v) (List.mem_of_find?_eq_some e)
  unfold loadName
  simp only [Env.blockKind, I.ok.kind, k, ScopeKind.isAnnotationScope, Bool.false_and, Bool.false_eq_true, if_false]
  unfold loadGlobal
  rw [I.ok.globals]
  refine wpAny_bind (wpAny_nsGet hm ?_)
  rw [hv]
  exact wpAny_pure (q _ _ (Go.refl _) (.raw _))
theorem ev_builtin {x : String} {pos : Pos} {v : Value} (k : env.kindOf (Str.ofString x) = some .globalImplicit) (e : gtab.find? (·.1 == x) = some (x, none)) (e' : btab.find? (·.1 == x) = some (x, v)) (hd : ((Str.ofString x) == ("__debug__" : Str)) = false := by decide) :
    EV w n env ρ (.Name (Str.ofString x) pos) (.raw v) := by
  refine ⟨?_⟩
  intro X A s Q E _ I q
  refine wpAny_Name ?_ hd
  obtain ⟨mg, hm, ht, _⟩ := I.sta.ns
  obtain ⟨mb, hb, hu⟩ := I.sta.bn
  have hv : mg (Str.ofString x) = none := ht (x, none) (List.mem_of_find?_eq_some e)
  have hv' : mb (Str.ofString x) = some v := hu (x, v) (List.mem_of_find?_eq_some e')
  unfold loadName
  simp only [Env.blockKind, I.ok.kind, k, ScopeKind.isAnnotationScope, Bool.false_and, Bool.false_eq_true, if_false]
  unfold loadGlobal
  rw [I.ok.globals, I.ok.builtins]
  refine wpAny_bind (wpAny_nsGet hm ?_)
  rw [hv]
  refine wpAny_bind (wpAny_nsGet hb ?_)
  rw [hv']
  exact wpAny_pure (q _ _ (Go.refl _) (.raw _))

/-- an operation on deep data -/
structure OP (w : World) (n : Nat) (op : Operator) (a b d : D) : Prop where
  run : ∀ (X : XS) (A : Around) (s : Shared) (Q : Value → Shared → Prop) (E : Value → Shared → Prop) (u v : Value), GA n A → Sta X s.heap → Rd X s.heap u a → Rd X s.heap v b → (∀ v s', Go s s' → Rd X s'.heap v d → Q v s') → wpAny (model PW w) A (binaryOp op u v) Q E s
structure CO (w : World) (n : Nat) (op : CmpOp) (a b : D) (r : Bool) : Prop where
  run : ∀ (X : XS) (A : Around) (s : Shared) (Q : Value → Shared → Prop) (E : Value → Shared → Prop) (u v : Value), GA n A → Sta X s.heap → Rd X s.heap u a → Rd X s.heap v b → (∀ s', Go s s' → Q (.bool r) s') → wpAny (model PW w) A (compareOp op u v) Q E s

theorem ev_bin {l r : PySem.Expr} {op : Operator} {pos : Pos} {a b d : D} (hl : EV w n env ρ l a) (hr : EV w n env ρ r b) (ho : OP w n op a b d) : EV w n env ρ (.BinOp l op r pos) d := by
  refine ⟨?_⟩
  intro X A s Q E g I q
  refine wpAny_BinOp (hl.run X A s _ _ g I fun u s₁ g₁ r₁ => ?_)
  have I₁ := I.mono g₁
  refine hr.run X A s₁ _ _ g I₁ fun v s₂ g₂ r₂ => ?_
  have I₂ := I₁.mono g₂
  exact ho.run X A s₂ _ _ u v g I₂.sta (g₂.rd I₁.sta r₁) r₂ fun v s' g' r' => q v s' ((g₁.trans g₂).trans g') r'

theorem ev_eq {e : PySem.Expr} {d d' : D} (h : EV w n env ρ e d) (q : d = d') : EV w n env ρ e d' := q ▸ h
theorem op_add {a b : Int} : OP w n .Add (.int a) (.int b) (.int (a + b)) := by
  refine ⟨?_⟩
  rintro X A s Q E u v g S ⟨⟩ ⟨⟩ q; exact add_int (q _ _ (Go.tok _ _) (.int _ _))
theorem op_sub {a b : Int} : OP w n .Sub (.int a) (.int b) (.int (a - b)) := by
  refine ⟨?_⟩
  rintro X A s Q E u v g S ⟨⟩ ⟨⟩ q; exact sub_int (q _ _ (Go.tok _ _) (.int _ _))
theorem op_mul {a b : Int} (h : IntMulOk a b) : OP w n .Mult (.int a) (.int b) (.int (a * b)) := by
  refine ⟨?_⟩
  rintro X A s Q E u v g S ⟨⟩ ⟨⟩ q; exact mul_int (q _ _ (Go.tok _ _) (.int _ _)) h
theorem op_mod {a b : Int} (h : 0 < b) : OP w n .Mod (.int a) (.int b) (.int (a % b)) := by
  refine ⟨?_⟩
  rintro X A s Q E u v g S ⟨⟩ ⟨⟩ q; exact mod_int' (by omega) (q _ _ (Go.tok _ _) (by rw [Int.fmod_eq_emod_of_nonneg _ (by omega)]; exact .int _ _))
theorem op_div {a b : Int} (h : 0 < b) (h' : Builtin.divisionGoesByPylong a b = false) : OP w n .FloorDiv (.int a) (.int b) (.int (a / b)) := by
  refine ⟨?_⟩
  rintro X A s Q E u v g S ⟨⟩ ⟨⟩ q; exact floordiv_int (by omega) (q _ _ (Go.tok _ _) (by rw [Int.fdiv_eq_ediv_of_nonneg _ (by omega)]; exact .int _ _)) (.inl h')
theorem op_pow {a b : Int} (h : 0 ≤ b) (h' : ((Builtin.Int.intBits a : Nat) : Int) * b ≤ 2 ^ 27) : OP w n .Pow (.int a) (.int b) (.int (a ^ b.toNat)) := by
  refine ⟨?_⟩
  rintro X A s Q E u v g S ⟨⟩ ⟨⟩ q; exact pow_int h h' (q _ _ (Go.tok _ _) (.int _ _))
theorem op_and {a b : Int} : OP w n .BitAnd (.int a) (.int b) (.int (Builtin.bitAnd a b)) := by
  refine ⟨?_⟩
  rintro X A s Q E u v g S ⟨⟩ ⟨⟩ q; exact and_int (q _ _ (Go.tok _ _) (.int _ _))
theorem op_or {a b : Int} : OP w n .BitOr (.int a) (.int b) (.int (Builtin.bitOr a b)) := by
  refine ⟨?_⟩
  rintro X A s Q E u v g S ⟨⟩ ⟨⟩ q; exact or_int (q _ _ (Go.tok _ _) (.int _ _))
theorem op_shl {a b : Int} (h : 0 ≤ b) (h1 : b ≤ 1000000) (h2 : a.natAbs < 2 ^ 64) : OP w n .LShift (.int a) (.int b) (.int (a * 2 ^ b.toNat)) := by
  refine ⟨?_⟩
  rintro X A s Q E u v g S ⟨⟩ ⟨⟩ q; exact lshift_int_small h h1 h2 (q _ _ (Go.tok _ _) (.int _ _))
theorem op_shr {a b : Int} (h : 0 ≤ b) : OP w n .RShift (.int a) (.int b) (.int (a.fdiv (2 ^ b.toNat))) := by
  refine ⟨?_⟩
  rintro X A s Q E u v g S ⟨⟩ ⟨⟩ q; exact rshift_int h (q _ _ (Go.tok _ _) (.int _ _))
theorem op_cat {a b : Str} (h : a.length + b.length ≤ sizeLine) : OP w n .Add (.str a) (.str b) (.str (a ++ b)) := by
  refine ⟨?_⟩
  rintro X A s Q E u v g S ⟨⟩ ⟨⟩ q; exact add_str (fun _ _ => q _ _ (Go.tok _ _) (.str _ _)) h
theorem op_times {a : Str} {b : Int} (h : MulOk a b) : OP w n .Mult (.str a) (.int b) (.str (Txt.mul a b)) := by
  refine ⟨?_⟩
  rintro X A s Q E u v g S ⟨⟩ ⟨⟩ q; exact SB.mul h (fun _ _ => q _ _ (Go.tok _ _) (.str _ _))
theorem op_lists {a b : List D} (h : a.length + b.length ≤ sizeLine) : OP w n .Add (.list a) (.list b) (.list (a ++ b)) := by
  refine ⟨?_⟩
  rintro X A s Q E u v g S (⟨⟩ | ⟨⟩) rb q
  rename_i l vs hl hx ha
  cases rb
  rename_i b' ws hb hy hb'
  have e : vs.toArray ++ ws.toArray = (vs ++ ws).toArray := by simp
  have hsz : vs.length + ws.length ≤ sizeLine := by rw [ha.length, hb'.length]; exact h
  have hl' := hl
  have hbb := hb
  obtain ⟨⟨cls, dd, data, sl⟩, ho, hc, k, hd⟩ := hl
  obtain ⟨⟨cls2, dd2, data2, sl2⟩, ho2, hc2, k2, hd2⟩ := hb
  simp only at hc hd hc2 hd2
  subst hc hd hc2 hd2
  refine concat_meets ⟨_, ho, rfl⟩ ⟨_, ho2, rfl⟩ noFill_list_add seq_list_add PySem.F.slot_list_add PySem.F.entry_list_add (PySem.F.args_list_add_2 _ _) (list_addW _ _ vs.toArray ws.toArray k k2 dd dd2 sl sl2 (by simpa using hsz)) ⟨ho, ho2, ?_⟩
  rw [e]
  have G : Go s { s with heap := s.heap.push { cls := .type "list", data := .seq (vs ++ ws).toArray } } := Go.push _ _ _
  exact q _ _ G (.list ⟨_, Heap.get?_push_size _ rfl, rfl, 0, rfl⟩ (fresh_x S) ((G.rds S ha).append (G.rds S hb')))

theorem co_lt {a b : Int} : CO w n .Lt (.int a) (.int b) (decide (a < b)) := by
  refine ⟨?_⟩
  rintro X A s Q E u v g S ⟨⟩ ⟨⟩ q; exact lt_int (q _ (Go.refl _))
theorem co_le {a b : Int} : CO w n .LtE (.int a) (.int b) (decide (a ≤ b)) := by
  refine ⟨?_⟩
  rintro X A s Q E u v g S ⟨⟩ ⟨⟩ q; exact le_int (q _ (Go.refl _))
theorem co_gt {a b : Int} : CO w n .Gt (.int a) (.int b) (decide (a > b)) := by
  refine ⟨?_⟩
  rintro X A s Q E u v g S ⟨⟩ ⟨⟩ q; exact gt_int (q _ (Go.refl _))
theorem co_ge {a b : Int} : CO w n .GtE (.int a) (.int b) (decide (a ≥ b)) := by
  refine ⟨?_⟩
  rintro X A s Q E u v g S ⟨⟩ ⟨⟩ q; exact ge_int (q _ (Go.refl _))
theorem co_eq {a b : Int} : CO w n .Eq (.int a) (.int b) (a == b) := by
  refine ⟨?_⟩
  rintro X A s Q E u v g S ⟨⟩ ⟨⟩ q; exact eq_int (q _ (Go.refl _))
theorem co_ne {a b : Int} : CO w n .NotEq (.int a) (.int b) (a != b) := by
  refine ⟨?_⟩
  rintro X A s Q E u v g S ⟨⟩ ⟨⟩ q; exact ne_int (q _ (Go.refl _))
theorem co_eqs {a b : Str} : CO w n .Eq (.str a) (.str b) (a == b) := by
  refine ⟨?_⟩
  rintro X A s Q E u v g S ⟨⟩ ⟨⟩ q; exact eq_str (q _ (Go.refl _))
theorem co_nes {a b : Str} : CO w n .NotEq (.str a) (.str b) (a != b) := by
  refine ⟨?_⟩
  rintro X A s Q E u v g S ⟨⟩ ⟨⟩ q; exact ne_str (q _ (Go.refl _))

theorem ev_cmp {l r : PySem.Expr} {op : CmpOp} {pos : Pos} {a b : D} {c : Bool} (hl : EV w n env ρ l a) (hr : EV w n env ρ r b) (ho : CO w n op a b c) (hm : behindInMarks op r = false := by rfl) : EV w n env ρ (.Compare l [op] [r] pos) (.bool c) := by
  refine ⟨?_⟩
  intro X A s Q E g I q
  refine wpAny_Compare1 (hl.run X A s _ _ g I fun u s₁ g₁ r₁ => ?_) hm
  have I₁ := I.mono g₁
  refine hr.run X A s₁ _ _ g I₁ fun v s₂ g₂ r₂ => ?_
  have I₂ := I₁.mono g₂
  exact ho.run X A s₂ _ _ u v g I₂.sta (g₂.rd I₁.sta r₁) r₂ fun s' g' => q _ s' ((g₁.trans g₂).trans g') (.bool _)
theorem et_cmp {l r : PySem.Expr} {op : CmpOp} {pos : Pos} {a b : D} {c : Bool} (hl : EV w n env ρ l a) (hr : EV w n env ρ r b) (ho : CO w n op a b c) (hm : behindInMarks op r = false := by rfl) : ET w n env ρ (.Compare l [op] [r] pos) c := by
  refine ⟨?_⟩
  intro X A s Q E g I q
  refine wpAny_isTrue_Compare1 (hl.run X A s _ _ g I fun u s₁ g₁ r₁ => ?_) hm
  have I₁ := I.mono g₁
  refine hr.run X A s₁ _ _ g I₁ fun v s₂ g₂ r₂ => ?_
  have I₂ := I₁.mono g₂
  exact ho.run X A s₂ _ _ u v g I₂.sta (g₂.rd I₁.sta r₁) r₂ fun s' g' => wpAny_truthy_bool (q s' ((g₁.trans g₂).trans g'))
theorem et_not {x : PySem.Expr} {pos : Pos} {b : Bool} (h : ET w n env ρ x b) : ET w n env ρ (.UnaryOp .Not x pos) (!b) := by
  refine ⟨?_⟩
  intro X A s Q E g I q
  exact wpAny_isTrue_Not (h.run X A s _ _ g I fun s' g' => q s' g')

/-- and, or: looked at in order -/
structure EA (w : World) (n : Nat) (env : Env) (ρ : Rho) (op : BoolOp) (es : List PySem.Expr) (b : Bool) : Prop where
  run : ∀ (X : XS) (A : Around) (s : Shared) (Q : Bool → Shared → Prop) (E : Value → Shared → Prop), GA n A → IE X env ρ s → (∀ s', Go s s' → Q b s') → wpAny (model PW w) A (allTrue op es env) Q E s
theorem ea_and_nil : EA w n env ρ .And [] true := ⟨fun _ _ _ _ _ _ _ q => wpAny_allTrue_And_nil (q _ (Go.refl _))⟩
theorem ea_or_nil : EA w n env ρ .Or [] false := ⟨fun _ _ _ _ _ _ _ q => wpAny_allTrue_Or_nil (q _ (Go.refl _))⟩
theorem ea_and {e : PySem.Expr} {es : List PySem.Expr} {b c : Bool} (h : ET w n env ρ e b) (k : b = true → EA w n env ρ .And es c) : EA w n env ρ .And (e :: es) (b && c) := by
  refine ⟨?_⟩
  intro X A s Q E g I q
  refine wpAny_allTrue_And_cons (h.run X A s _ _ g I fun s' g' => ?_)
  cases b with
  | true => exact (k rfl).run X A s' _ _ g (I.mono g') fun s'' g'' => q s'' (g'.trans g'')
  | false => exact q s' g'
theorem ea_or {e : PySem.Expr} {es : List PySem.Expr} {b c : Bool} (h : ET w n env ρ e b) (k : b = false → EA w n env ρ .Or es c) : EA w n env ρ .Or (e :: es) (b || c) := by
  refine ⟨?_⟩
  intro X A s Q E g I q
  refine wpAny_allTrue_Or_cons (h.run X A s _ _ g I fun s' g' => ?_)
  cases b with
  | false => exact (k rfl).run X A s' _ _ g (I.mono g') fun s'' g'' => q s'' (g'.trans g'')
  | true => exact q s' g'
theorem et_bool {op : BoolOp} {es : List PySem.Expr} {pos : Pos} {b : Bool} (h : EA w n env ρ op es b) : ET w n env ρ (.BoolOp op es pos) b := ⟨fun X A s Q E g I q => wpAny_isTrue_BoolOp (h.run X A s Q E g I q)⟩
theorem ev_if {t a b : PySem.Expr} {pos : Pos} {c : Bool} {d : D} (h : ET w n env ρ t c) (ha : c = true → EV w n env ρ a d) (hb : c = false → EV w n env ρ b d) : EV w n env ρ (.IfExp t a b pos) d := by
  refine ⟨?_⟩
  intro X A s Q E g I q
  refine wpAny_IfExp (h.run X A s _ _ g I fun s' g' => ?_)
  cases c with
  | true => exact (ha rfl).run X A s' _ _ g (I.mono g') fun v s'' g'' r => q v s'' (g'.trans g'') r
  | false => exact (hb rfl).run X A s' _ _ g (I.mono g') fun v s'' g'' r => q v s'' (g'.trans g'') r

/-- several, in order -/
structure EVs (w : World) (n : Nat) (env : Env) (ρ : Rho) (p : Pos) (es : List PySem.Expr) (ds : List D) : Prop where
  run : ∀ (X : XS) (A : Around) (s : Shared) (Q : List Value → Shared → Prop) (E : Value → Shared → Prop), GA n A → IE X env ρ s → (∀ vs s', Go s s' → Rds X s'.heap vs ds → Q vs s') → wpAny (model PW w) A (spliced (backTo p (starEach es env))) Q E s
end
end Mine
end
section
open PySem PySem.W PyProof.Rows PySem.Calls PySem.Spec
namespace Mine
section
variable {w : World} {n : Nat} {env : Env} {ρ : Rho}

theorem evs_nil {p : Pos} : EVs w n env ρ p [] [] := ⟨fun _ _ _ _ _ _ _ q => wpAny_items_nil (q _ _ (Go.refl _) .nil)⟩
theorem evs_cons {p : Pos} {e : PySem.Expr} {es : List PySem.Expr} {d : D} {ds : List D} (h : EV w n env ρ e d) (hs : EVs w n env ρ p es ds) (he : starEach (e :: es) env = (false, eval e env) :: starEach es env := by rfl) : EVs w n env ρ p (e :: es) (d :: ds) := by
  refine ⟨?_⟩
  intro X A s Q E g I q
  refine wpAny_items_cons (h.run X A s _ _ g I fun v s₁ g₁ r₁ => ?_) he
  have I₁ := I.mono g₁
  exact hs.run X A s₁ _ _ g I₁ fun vs s₂ g₂ r₂ => q _ s₂ (g₁.trans g₂) (.cons (g₂.rd I₁.sta r₁) r₂)
theorem ev_list {es : List PySem.Expr} {p : Pos} {ds : List D} (h : EVs w n env ρ p es ds) (hl : ds.length ≤ sizeLine := by decide) : EV w n env ρ (.List es p) (.list ds) := by
  refine ⟨?_⟩
  intro X A s Q E g I q
  refine wpAny_List (h.run X A s _ _ g I fun vs s₁ g₁ r₁ => ⟨by rw [r₁.length]; exact hl, ?_⟩)
  have I₁ := I.mono g₁
  have G := Go.push s₁ { cls := .type "list", data := .seq vs.toArray } s₁.toks
  exact q _ _ (g₁.trans G) (.list ⟨_, Heap.get?_push_size _ rfl, rfl, 0, rfl⟩ (fresh_x I₁.sta) (G.rds I₁.sta r₁))

/-- a call on deep data -/
structure CALL (w : World) (n : Nat) (f : Value) (ds : List D) (d : D) : Prop where
  run : ∀ (X : XS) (A : Around) (s : Shared) (Q : Value → Shared → Prop) (E : Value → Shared → Prop) (vs : List Value), GA n A → Sta X s.heap → Rds X s.heap vs ds → (∀ v s', Go s s' → Rd X s'.heap v d → Q v s') → wpAny (model PW w) A (call f vs []) Q E s

theorem evalArgs_of {M : Model} {A : Around} {E : Value → Shared → Prop} {s : Shared} {f : Value} {l : List (Bool × Sem Value)} {Q : Args → Shared → Prop} (hn : l.any (·.1) = false)
    (h : wpAny M A (spliced l) (fun vs s' => Q ⟨vs, []⟩ s') E s) : wpAny M A (evalArgs f true l []) Q E s := by
  match l, hn with
  | [], _ =>
    unfold evalArgs
    show wpAny M A (spliced [] >>= _) Q E s
    refine wpAny_bind (wpAny_mono h (fun vs s' h' => ?_) fun _ _ x => x)
    exact wpAny_holding (wpAny_bind (wpAny_pure (wpAny_bind (wpAny_pure (wpAny_pure h')))))
  | (false, x) :: rest, _ => exact evalArgs_plain h

theorem ev_call_fn {x : Str} {np pos : Pos} {es : List PySem.Expr} {a i : Nat} {dV kV cdv : Value} {ds : List D} {d : D} (hf : EV w n env ρ (.Name x np) (.raw (.ref a))) (mem : (a, i, dV, kV, cdv) ∈ fnTab)
    (he : EVs w n env ρ pos es ds) (hc : CALL w n (.ref a) ds d) (hn : (backTo pos (starEach es env)).any (·.1) = false := by rfl) : EV w n env ρ (.Call (.Name x np) es [] pos) d := by
  refine ⟨?_⟩
  intro X A s Q E g I q
  refine wpAny_Call_ofName (hf.run X A s _ _ g I fun f s₁ g₁ r₁ => ?_)
  cases r₁
  have I₁ := I.mono g₁
  obtain ⟨oc, od, osl, pm, ct, e, r⟩ := I₁.sta.fns _ mem
  have hap : a ≠ PT := by
    rintro rfl
    obtain ⟨ps, e', _⟩ := I₁.sta.tab
    rw [e] at e'
    cases e'
  refine callWith_function (o := ⟨oc, od, .func (fdOf i dV kV pm cdv ct), osl⟩) (fd := fdOf i dV kV pm cdv ct) ?_
  refine evalArgs_of hn (he.run X A s₁ _ _ g I₁ fun vs s₂ g₂ r₂ => ?_)
  have I₂ := I₁.mono g₂
  refine ⟨⟨g₂.ext.keep _ _ hap e, rfl⟩, ?_⟩
  exact hc.run X A s₂ _ _ vs g I₂.sta r₂ fun v s' g' r' => q v s' ((g₁.trans g₂).trans g') r'
theorem ev_call_bi {x : Str} {np pos : Pos} {es : List PySem.Expr} {id : String} {ds : List D} {d : D} (hf : EV w n env ρ (.Name x np) (.raw (.builtin id)))
    (he : EVs w n env ρ pos es ds) (hc : CALL w n (.builtin id) ds d) (hn : (backTo pos (starEach es env)).any (·.1) = false := by rfl) : EV w n env ρ (.Call (.Name x np) es [] pos) d := by
  refine ⟨?_⟩
  intro X A s Q E g I q
  refine wpAny_Call_ofName (hf.run X A s _ _ g I fun f s₁ g₁ r₁ => ?_)
  cases r₁
  have I₁ := I.mono g₁
  refine callWith_builtin hn (evalArgs_of hn (he.run X A s₁ _ _ g I₁ fun vs s₂ g₂ r₂ => ?_))
  exact hc.run X A s₂ _ _ vs g (I₁.mono g₂).sta r₂ fun v s' g' r' => q v s' ((g₁.trans g₂).trans g') r'
theorem ev_call_ty {x : Str} {np pos : Pos} {es : List PySem.Expr} {T : String} {ds : List D} {d : D} (hf : EV w n env ρ (.Name x np) (.raw (.type T)))
    (he : EVs w n env ρ pos es ds) (hc : CALL w n (.type T) ds d) (hn : (backTo pos (starEach es env)).any (·.1) = false := by rfl) : EV w n env ρ (.Call (.Name x np) es [] pos) d := by
  refine ⟨?_⟩
  intro X A s Q E g I q
  refine wpAny_Call_ofName (hf.run X A s _ _ g I fun f s₁ g₁ r₁ => ?_)
  cases r₁
  have I₁ := I.mono g₁
  refine PySem.callWith_type hn (evalArgs_of hn (he.run X A s₁ _ _ g I₁ fun vs s₂ g₂ r₂ => ?_))
  exact hc.run X A s₂ _ _ vs g (I₁.mono g₂).sta r₂ fun v s' g' r' => q v s' ((g₁.trans g₂).trans g') r'
/-- a method of a type that is built in -/
theorem ev_meth {o : PySem.Expr} {name : Str} {apos pos : Pos} {es : List PySem.Expr} {T id : String} {a d : D} {ds : List D} (ho : EV w n env ρ o a) (hT : ∀ (X : XS) (s : Shared) (v : Value), Rd X s.heap v a → s.TypeIs v T ∧ ∀ b, v = .ref b → ∃ ob, s.heap.get? b = some ob ∧ ob.dict = none)
    (he : EVs w n env ρ pos es ds) (hc : CALL w n (.builtin id) (a :: ds) d)
    (h1 : attributeBase o name env (eval o env) = eval o env) (h2 : ((((backTo pos (starEach es env)).all fun x => !x.fst) && (backToKw pos (keywordEach [] env)).all fun x => x.fst.isSome) && decide ((es.length + ([] : List Keyword).length + if ([] : List Keyword).isEmpty = true then 0 else 1) < 30)) = true)
    (h3 : (apos.endLine == pos.line) = true) (h4 : PlainAttrs T) (h5 : Slot T name id) (h6 : typeOf (Value.builtin id) = pure (Value.type "method_descriptor")) (hn : (backTo pos (starEach es env)).any (·.1) = false := by rfl) :
    EV w n env ρ (.Call (.Attribute o name apos) es [] pos) d := by
  refine ⟨?_⟩
  intro X A s Q E g I q
  refine wpAny_Call_method h1 h2 h3 h4 h5 h6 (ho.run X A s _ _ g I fun v s₁ g₁ r₁ => ⟨(hT X s₁ v r₁).1, (hT X s₁ v r₁).2, ?_⟩)
  have I₁ := I.mono g₁
  refine callWith_builtin hn (evalArgs_of hn (he.run X A s₁ _ _ g I₁ fun vs s₂ g₂ r₂ => ?_))
  exact hc.run X A s₂ _ _ (v :: vs) g (I₁.mono g₂).sta (.cons (g₂.rd I₁.sta r₁) r₂) fun v' s' g' r' => q v' s' ((g₁.trans g₂).trans g') r'
end
end Mine
end
section
open PySem PySem.W PyProof.Rows PySem.Calls PySem.Spec
namespace Mine

/-- a def's body: its frame, the state at its call, what the caller may turn, its own lists that grow -/
structure Cx where
  env : Env
  s₀ : Shared
  X : XS
  grow : List (Str × Addr) := []
  own : Str → Bool := fun _ => true
  hold : List (Addr × Obj) := []
noncomputable def Cx.cur (c : Cx) : XS := fun b => c.X b ∨ ∃ p ∈ c.grow, p.2 = b

/-- within a def's body -/
structure IX (c : Cx) (ρ : Rho) (s : Shared) : Prop where
  ie : IE c.cur c.env ρ s
  go : Go c.s₀ s
  st0 : Sta No c.s₀.heap
  lo : c.s₀.heap.get? c.env.locals = none
  ce : ∀ x, c.env.kindOf x = some .cell → c.own x = true → ∃ k v₀, c.env.cells.lookup x = some k ∧ s.heap.IsCell k v₀ ∧ c.s₀.heap.get? k = none
  inj : ∀ x y k, c.own x = true → c.env.kindOf x = some .cell → c.env.cells.lookup x = some k → c.env.cells.lookup y = some k → x = y
  mu : ∀ p ∈ c.grow, c.s₀.heap.get? p.2 = none ∧ c.env.kindOf p.1 = none ∧ ∃ vs ds, ρ.lookup p.1 = some (.list ds) ∧ PlainL s.heap p.2 vs.toArray ∧ Rds c.cur s.heap vs ds
  mn : (c.grow.map (·.1)).Nodup ∧ (c.grow.map (·.2)).Nodup
  ke : ∀ p ∈ c.hold, s.heap.get? p.1 = some p.2 ∧ Keepable p.2 ∧ p.1 ≠ PT ∧ ∀ q ∈ c.grow, q.2 ≠ p.1

theorem mut_list {X : XS} {h h' : Heap} (x : Ext h h') (t : TabOk h) {a : Addr} {its} (y : PlainL h a its) : PlainL h' a its := by
  obtain ⟨ps, e', _⟩ := t
  obtain ⟨o, k, e, c, dn, d⟩ := y
  exact ⟨o, k, x.keep a o (fun z => tab_no_list h e' o (z ▸ e) (.inl ⟨c, _, _, d⟩)) e, c, dn, d⟩

theorem IX.mono {c ρ s s'} (I : IX c ρ s) (g : Go s s') : IX c ρ s' :=
  ⟨I.ie.mono g, I.go.trans g, I.st0, I.lo, fun x k ow => let ⟨a, b, e, f, l⟩ := I.ce x k ow; ⟨a, b, e, g.ext.cell I.ie.sta.tab f, l⟩, I.inj,
    fun p hp => let ⟨a, b, vs, ds, e, f, r⟩ := I.mu p hp; ⟨a, b, vs, ds, e, mut_list (X := c.X) g.ext I.ie.sta.tab f, g.rds I.ie.sta r⟩, I.mn, fun p hp => let ⟨a, b, e, f⟩ := I.ke p hp; ⟨g.ext.keep _ _ e a, b, e, f⟩⟩

theorem tab_same {h h' : Heap} {a : Addr} (t : TabOk h) (np : PT ≠ a) (hs : Heap.SameBut a h h') : TabOk h' := by
  obtain ⟨ps, e, tr⟩ := t
  exact ⟨ps, (hs.2 _ np).trans e, tr⟩
theorem go_but {X : XS} {s₀ s s' : Shared} {wr : List Addr} (g : Go s₀ s) (S : Sta X s₀.heap) (lo : ∀ b ∈ wr, s₀.heap.get? b = none) (e1 : s'.gens = s.gens) (e2 : s'.drawn = s.drawn) (e3 : s'.os = s.os)
    (hs : ∀ b o, b ∉ wr → s.heap.get? b = some o → s'.heap.get? b = some o) : Go s₀ s' := by
  refine ⟨e1.trans g.gens, e2.trans g.drawn, e3.trans g.os, ⟨fun b o nb e => ?_, fun t => ?_⟩⟩
  · exact hs b o (fun hb => ne_of_get (lo b hb) e rfl) (g.ext.keep b o nb e)
  · obtain ⟨ps, e, tr⟩ := g.ext.tab t
    obtain ⟨ps', e', _⟩ := t
    exact ⟨ps, hs _ _ (fun hb => ne_of_get (lo _ hb) e' rfl) e, tr⟩
theorem go_same {X : XS} {s₀ s : Shared} {h' : Heap} {tk : Nat} {a : Addr} (g : Go s₀ s) (S : Sta X s₀.heap) (lo : s₀.heap.get? a = none) (hs : Heap.SameBut a s.heap h') : Go s₀ { s with heap := h', toks := tk } :=
  go_but (wr := [a]) g S (fun b hb => by rw [List.mem_singleton.mp hb]; exact lo) rfl rfl rfl fun b o nb e => (hs.2 b (fun z => nb (z ▸ .head _))).trans e
theorem sta_same {X Y : XS} {s₀ s : Shared} (g : Go s₀ s) (S : Sta X s₀.heap) (k : ∀ b, Y b → b ≠ PT ∧ ∃ o, s.heap.get? b = some o) : Sta Y s.heap := (g.sta S).less k
theorem low_same {X : XS} {h h' : Heap} {a : Addr} (S : Sta X h) (hs : Heap.SameBut a h h') (ha : X a → ∃ o, h'.get? a = some o) : ∀ b, X b → b ≠ PT ∧ ∃ o, h'.get? b = some o := fun b y => by
  obtain ⟨n, o, e⟩ := S.low b y
  refine ⟨n, ?_⟩
  by_cases hb : b = a
  · subst hb; exact ha y
  · exact ⟨o, (hs.2 b hb).trans e⟩

theorem lookup_put_ne {x y : Str} {d : D} {ρ : Rho} {e : D} (h : (put x d ρ).lookup y = some e) (n : y ≠ x) : ρ.lookup y = some e := by
  rw [put_lookup, if_neg n] at h
  exact h
theorem lookup_put_self {x : Str} {d : D} {ρ : Rho} {e : D} (h : (put x d ρ).lookup x = some e) : d = e := by
  rw [put_lookup, if_pos rfl] at h
  exact Option.some.inj h

theorem ix_store {M : Model} {A : Around} {E : Value → Shared → Prop} {c : Cx} {ρ : Rho} {s : Shared} {x : Str} {v : Value} {d : D} {Q : Unit → Shared → Prop} (I : IX c ρ s) (k : c.env.kindOf x = some .local ∨ c.env.kindOf x = some .cell) (ow : c.own x = true) (r : Rd c.cur s.heap v d)
    (q : ∀ s' a, IX c (put x d ρ) s' → (a = c.env.locals ∨ (c.env.kindOf x = some .cell ∧ c.env.cells.lookup x = some a)) → (∀ b o, b ≠ a → s.heap.get? b = some o → s'.heap.get? b = some o) → Q () s') : wpAny M A (storeName c.env x v) Q E s := by
  have nm : ∀ p ∈ c.grow, p.1 ≠ x := fun p hp e => by
    have z := (I.mu p hp).2.1
    rw [e] at z
    rcases k with k | k <;> rw [k] at z <;> cases z
  have mu' : ∀ {h' : Heap} {a : Addr}, Heap.SameBut a s.heap h' → NoTy s.heap a → ∀ p ∈ c.grow, c.s₀.heap.get? p.2 = none ∧ c.env.kindOf p.1 = none ∧ ∃ vs ds, (put x d ρ).lookup p.1 = some (.list ds) ∧ PlainL h' p.2 vs.toArray ∧ Rds c.cur h' vs ds := by
    intro h' a hs ht p hp
    obtain ⟨e1, e2, vs, ds, e3, e4, e5⟩ := I.mu p hp
    refine ⟨e1, e2, vs, ds, by rw [put_lookup, if_neg (nm p hp)]; exact e3, ?_, e5.mono (LK.of_same hs ht)⟩
    obtain ⟨o, f3, f1, f2, f5, f4⟩ := e4
    exact ⟨o, f3, (hs.2 _ (fun z => ht o (z ▸ f1) (.inl ⟨f2, _, _, f4⟩))).trans f1, f2, f5, f4⟩
  rcases k with k | k
  · obtain ⟨m, hm, hl⟩ := I.ie.fm.loc
    refine wpAny_storeName_local k hm (fun h' hn hs => q _ _ ?_ (.inl rfl) fun b o nb e => (hs.2 b nb).trans e) (by rw [I.ie.ok.kind]; rfl)
    have ex' : ∃ o, h'.get? c.env.locals = some o := let ⟨o, _, _, e, _⟩ := hn; ⟨o, e⟩
    have lk : LK c.cur s.heap h' := LK.of_same hs (ns_no_list hm)
    have G : Go c.s₀ { s with heap := h', toks := s.toks + 1 } := go_same I.go I.st0 I.lo hs
    have cellsame : ∀ b v, s.heap.IsCell b v → h'.IsCell b v := by
      intro b v x
      have nb : b ≠ c.env.locals := by
        rintro rfl
        exact ns_no_cell hm x
      obtain ⟨o, e, dd⟩ := x
      exact ⟨o, (hs.2 b nb).trans e, dd⟩
    refine ⟨⟨I.ie.ok, sta_same G I.st0 (low_same I.ie.sta hs (fun _ => ex')), ⟨⟨_, hn, fun y e he hk => ?_⟩, fun y e he hk => ?_, fun y k e => let ⟨v, a⟩ := I.ie.fm.cex y k e; ⟨v, cellsame _ _ a⟩⟩⟩, G, I.st0, I.lo, fun y hk how => ?_, I.inj, mu' hs (ns_no_list hm), I.mn, fun p hp => let ⟨a, b, e, f⟩ := I.ke p hp; ⟨(hs.2 _ fun z => ns_no_list hm _ (z ▸ a) b).trans a, b, e, f⟩⟩
    · by_cases hy : y = x
      · subst hy
        refine ⟨v, by simp, ?_⟩
        rw [← lookup_put_self he]
        exact r.mono lk
      · obtain ⟨v', a, b⟩ := hl y e (lookup_put_ne he hy) hk
        exact ⟨v', by simp [hy, a], b.mono lk⟩
    · have hy : y ≠ x := by
        rintro rfl
        rcases hk with hk | hk <;> rw [k] at hk <;> cases hk
      obtain ⟨cc, v', a, b, r'⟩ := I.ie.fm.cel y e (lookup_put_ne he hy) hk
      exact ⟨cc, v', a, cellsame _ _ b, r'.mono lk⟩
    · obtain ⟨a, b, e, f, l⟩ := I.ce y hk how
      exact ⟨a, b, e, cellsame _ _ f, l⟩
  · obtain ⟨a, v₀, ea, ha, la⟩ := I.ce x k ow
    refine wpAny_storeName_cell I.ie.ok.kind k ea ha (fun h' hc hs => q _ _ ?_ (.inr ⟨k, ea⟩) fun b o nb e => (hs.2 b nb).trans e)
    have ex' : ∃ o, h'.get? a = some o := let ⟨o, e, _⟩ := hc; ⟨o, e⟩
    have lk : LK c.cur s.heap h' := LK.of_same hs (cell_no_list ha)
    have G : Go c.s₀ { s with heap := h' } := go_same I.go I.st0 la hs
    refine ⟨⟨I.ie.ok, sta_same G I.st0 (low_same I.ie.sta hs (fun _ => ex')), ⟨?_, fun y e he hk => ?_, fun y k' e => ?_⟩⟩, G, I.st0, I.lo, fun y hk how => ?_, I.inj, mu' hs (cell_no_list ha), I.mn, fun p hp => let ⟨a, b, e, f⟩ := I.ke p hp; ⟨(hs.2 _ fun z => cell_no_list ha _ (z ▸ a) b).trans a, b, e, f⟩⟩
    · obtain ⟨m, hm, hl⟩ := I.ie.fm.loc
      have nl : c.env.locals ≠ a := fun z => ns_no_cell hm (z ▸ ha)
      refine ⟨m, hm.sameBut hs nl, fun y e he hk => ?_⟩
      have hy : y ≠ x := by rintro rfl; rw [k] at hk; cases hk
      obtain ⟨v', a, b⟩ := hl y e (lookup_put_ne he hy) hk
      exact ⟨v', a, b.mono lk⟩
    · by_cases hy : y = x
      · subst hy
        refine ⟨a, v, ea, hc, ?_⟩
        rw [← lookup_put_self he]
        exact r.mono lk
      · obtain ⟨cc, v', e1, ⟨o, e2, e3⟩, r'⟩ := I.ie.fm.cel y e (lookup_put_ne he hy) hk
        have nc : cc ≠ a := fun z => hy (I.inj x y a ow k ea (z ▸ e1)).symm
        exact ⟨cc, v', e1, ⟨o, (hs.2 _ nc).trans e2, e3⟩, r'.mono lk⟩
    · obtain ⟨v', o, e2, e3⟩ := I.ie.fm.cex y k' e
      by_cases hka : k' = a
      · subst hka; exact ⟨_, hc⟩
      · exact ⟨v', o, (hs.2 _ hka).trans e2, e3⟩
    · by_cases hy : y = x
      · subst hy
        exact ⟨a, some v, ea, hc, la⟩
      · obtain ⟨b, v', e1, ⟨o, e2, e3⟩, l⟩ := I.ce y hk how
        have nc : b ≠ a := fun z => hy (I.inj x y a ow k ea (z ▸ e1)).symm
        exact ⟨b, v', e1, ⟨o, (hs.2 _ nc).trans e2, e3⟩, l⟩

inductive Fl where
  | next | brk | cont
  | ret (d : D)

noncomputable def Post (c : Cx) (Φ : Fl → Rho → Prop) : Flow → Shared → Prop
  | .next, s => ∃ ρ, IX c ρ s ∧ Φ .next ρ
  | .brk, s => ∃ ρ, IX c ρ s ∧ Φ .brk ρ
  | .cont, s => ∃ ρ, IX c ρ s ∧ Φ .cont ρ
  | .ret v, s => ∃ d ρ, Rd c.X s.heap v d ∧ Go c.s₀ s ∧ Φ (.ret d) ρ
theorem Post.mono {c : Cx} {Φ Φ' : Fl → Rho → Prop} (k : ∀ f ρ, Φ f ρ → Φ' f ρ) : ∀ {f : Flow} {s : Shared}, Post c Φ f s → Post c Φ' f s
  | .next, _, ⟨ρ, a, b⟩ => ⟨ρ, a, k _ _ b⟩
  | .brk, _, ⟨ρ, a, b⟩ => ⟨ρ, a, k _ _ b⟩
  | .cont, _, ⟨ρ, a, b⟩ => ⟨ρ, a, k _ _ b⟩
  | .ret _, _, ⟨d, ρ, a, b, e⟩ => ⟨d, ρ, a, b, k _ _ e⟩

structure EX (w : World) (n : Nat) (c : Cx) (ρ : Rho) (ss : List Stmt) (Φ : Fl → Rho → Prop) : Prop where
  run : ∀ (A : Around) (s : Shared), GA n A → IX c ρ s → wpAny (model PW w) A (execs ss c.env) (Post c Φ) (fun _ _ => False) s
/-- one statement -/
structure ES (w : World) (n : Nat) (c : Cx) (ρ : Rho) (st : Stmt) (Φ : Fl → Rho → Prop) : Prop where
  run : ∀ (A : Around) (s : Shared), GA n A → IX c ρ s → wpAny (model PW w) A (exec st c.env) (Post c Φ) (fun _ _ => False) s
/-- and then the rest -/
noncomputable def sq (w : World) (n : Nat) (c : Cx) (rest : List Stmt) (Φ : Fl → Rho → Prop) : Fl → Rho → Prop
  | .next, ρ => EX w n c ρ rest Φ
  | f, ρ => Φ f ρ

section
variable {w : World} {n : Nat} {c : Cx} {ρ : Rho} {Φ : Fl → Rho → Prop}
theorem ES.mono {st : Stmt} {Φ' : Fl → Rho → Prop} (h : ES w n c ρ st Φ') (k : ∀ f ρ', Φ' f ρ' → Φ f ρ') : ES w n c ρ st Φ := ⟨fun A s g I =>
  wpAny_mono (h.run A s g I) (fun _ _ x => x.mono k) fun _ _ e => e⟩
theorem EX.mono {st : List Stmt} {Φ' : Fl → Rho → Prop} (h : EX w n c ρ st Φ') (k : ∀ f ρ', Φ' f ρ' → Φ f ρ') : EX w n c ρ st Φ := ⟨fun A s g I =>
  wpAny_mono (h.run A s g I) (fun _ _ x => x.mono k) fun _ _ e => e⟩
theorem ex_nil (h : Φ .next ρ) : EX w n c ρ [] Φ := ⟨fun _ _ _ I => wpAny_execs_nil ⟨ρ, I, h⟩⟩
theorem ex_cons {st : Stmt} {rest : List Stmt} (h : ES w n c ρ st (sq w n c rest Φ)) : EX w n c ρ (st :: rest) Φ := ⟨fun A s g I =>
  wpAny_execs_cons (wpAny_mono (h.run A s g I) (fun fl s' x => by
    match fl, x with
    | .next, ⟨ρ', a, b⟩ => exact b.run A s' g a
    | .brk, x => exact x
    | .cont, x => exact x
    | .ret v, x => exact x) fun _ _ e => e)⟩
theorem less_cur {h : Heap} {v : Value} {d : D} (r : Rd c.cur h v d) : Rd c.X h v d := r.less fun _ _ y => .inl y
theorem es_assign {x : Str} {p' p : Pos} {e : PySem.Expr} {d : D} (h : EV w n c.env ρ e d) (k : c.env.kindOf x = some .local ∨ c.env.kindOf x = some .cell) (q : Φ .next (put x d ρ)) (ow : c.own x = true := by rfl) (hs : swapsWith e (some (.Name x p')) p.line c.env = pure false := by rfl) : ES w n c ρ (.Assign [.Name x p'] e p) Φ := ⟨fun A s g I =>
  wpAny_Assign_Name (h.run c.cur A s _ _ g I.ie fun _ _ g' r => ix_store (I.mono g') k ow r fun _ _ I' _ _ => ⟨_, I', q⟩) hs⟩
theorem es_aug {x : Str} {p' p : Pos} {op : Operator} {e : PySem.Expr} {d₀ d d' : D} (hx : ρ.lookup x = some d₀) (h : EV w n c.env ρ e d) (ho : OP w n op d₀ d d') (hin : ∀ M A Q E s u v, Rd c.cur s.heap u d₀ → Rd c.cur s.heap v d → wpAny M A (binaryOp op u v) Q E s → wpAny M A (inplaceOp op u v) Q E s)
    (k : c.env.kindOf x = some .local ∨ c.env.kindOf x = some .cell) (q : Φ .next (put x d' ρ)) (ow : c.own x = true := by rfl) : ES w n c ρ (.AugAssign (.Name x p') op e p) Φ := by
  refine ⟨?_⟩
  intro A s g I
  refine wpAny_AugAssign_Name ?_
  have load : ∀ (Q : Value → Shared → Prop), (∀ v, Rd c.cur s.heap v d₀ → Q v s) → wpAny (model PW w) A (loadName c.env x) Q (fun _ _ => False) s := by
    intro Q hq
    rcases k with k | k
    · obtain ⟨m, hm, hl⟩ := I.ie.fm.loc
      obtain ⟨v, hv, r⟩ := hl x d₀ hx k
      exact wpAny_loadName_local I.ie.ok.kind k hm hv (hq _ r)
    · obtain ⟨cc, v, hc, hv, r⟩ := I.ie.fm.cel x d₀ hx (.inl k)
      exact wpAny_loadName_cell I.ie.ok.kind k hc hv (hq _ r)
  refine load _ fun u ru => ?_
  refine h.run c.cur A s _ _ g I.ie fun v s₁ g₁ rv => ?_
  have I₁ := I.mono g₁
  have ru' := g₁.rd I.ie.sta ru
  refine hin _ _ _ _ _ _ _ ru' rv ?_
  exact ho.run c.cur A s₁ _ _ u v g I₁.ie.sta ru' rv fun r s₂ g₂ rr => ix_store (I₁.mono g₂) k ow rr fun _ _ I' _ _ => ⟨_, I', q⟩
theorem es_ret {p : Pos} {e : PySem.Expr} {d : D} (h : EV w n c.env ρ e d) (q : Φ (.ret d) ρ) : ES w n c ρ (.Return (some e) p) Φ := ⟨fun A s g I =>
  wpAny_Return_some (h.run c.cur A s _ _ g I.ie fun _ _ g' r => ⟨d, ρ, less_cur r, (I.mono g').go, q⟩)⟩
theorem es_if {p : Pos} {t : PySem.Expr} {a b : List Stmt} {r : Bool} (h : ET w n c.env ρ t r) (ha : r = true → EX w n c ρ a Φ) (hb : r = false → EX w n c ρ b Φ) : ES w n c ρ (.If t a b p) Φ := ⟨fun A s g I =>
  wpAny_If (h.run c.cur A s _ _ g I.ie fun s' g' => by
    cases r with
    | true => exact (ha rfl).run A s' g (I.mono g')
    | false => exact (hb rfl).run A s' g (I.mono g'))⟩
theorem es_brk {p : Pos} (q : Φ .brk ρ) : ES w n c ρ (.Break p) Φ := ⟨fun _ _ _ I => wpAny_Break ⟨ρ, I, q⟩⟩
theorem es_assert {p : Pos} {t : PySem.Expr} {m : Option PySem.Expr} (h : ET w n c.env ρ t true) (q : Φ .next ρ) : ES w n c ρ (.Assert t m p) Φ := ⟨fun A s g I =>
  wpAny_Assert_holds (h.run c.cur A s _ _ g I.ie fun _ g' => ⟨rfl, ρ, I.mono g', q⟩)⟩

theorem es_while {p : Pos} {t : PySem.Expr} {body : List Stmt} (J : Nat → Rho → Prop) (m : Nat) (h0 : J m ρ)
    (turn : ∀ k ρ', J k ρ' → ∃ b, ET w n c.env ρ' t b ∧ (b = true → EX w n c ρ' body (fun f ρ'' => match f with
        | .next | .cont => ∃ j, j < k ∧ J j ρ''
        | .brk => Φ .next ρ''
        | .ret d => Φ (.ret d) ρ'')) ∧ (b = false → Φ .next ρ')) : ES w n c ρ (.While t body [] p) Φ := by
  refine ⟨?_⟩
  intro A s g I
  refine wpAny_While (codeAny_whileLoop (fun k s' => ∃ ρ', IX c ρ' s' ∧ J k ρ') (fun k s' hs => ?_) m ⟨ρ, I, h0⟩)
  obtain ⟨ρ', I', hj⟩ := hs
  obtain ⟨b, ht, h1, h2⟩ := turn k ρ' hj
  refine ht.run c.cur A s' _ _ g I'.ie fun s₂ g₂ => ?_
  have I₂ := I'.mono g₂
  cases b with
  | true =>
    rw [if_pos rfl]
    refine wpAny_mono ((h1 rfl).run A s₂ g I₂) (fun fl s₃ x => ?_) fun _ _ e => e.elim
    match fl, x with
    | .next, ⟨ρ'', a, j, b, e⟩ => exact ⟨j, b, ρ'', a, e⟩
    | .cont, ⟨ρ'', a, j, b, e⟩ => exact ⟨j, b, ρ'', a, e⟩
    | .brk, ⟨ρ'', a, b⟩ => exact ⟨ρ'', a, b⟩
    | .ret v, ⟨d, ρ'', a, b, e⟩ => exact ⟨d, ρ'', a, b, e⟩
  | false =>
    rw [if_neg (by simp)]
    exact wpAny_execs_nil ⟨ρ', I₂, h2 rfl⟩
theorem ex_assign {x : Str} {p' p : Pos} {e : PySem.Expr} {d : D} {rest : List Stmt} (h : EV w n c.env ρ e d) (k : c.env.kindOf x = some .local ∨ c.env.kindOf x = some .cell) (q : EX w n c (put x d ρ) rest Φ) (ow : c.own x = true := by rfl) (hs : swapsWith e (some (.Name x p')) p.line c.env = pure false := by rfl) :
    EX w n c ρ (.Assign [.Name x p'] e p :: rest) Φ := ex_cons (es_assign h k q ow hs)
theorem ex_ret {p : Pos} {e : PySem.Expr} {d : D} {rest : List Stmt} (h : EV w n c.env ρ e d) (q : Φ (.ret d) ρ) : EX w n c ρ (.Return (some e) p :: rest) Φ := ex_cons (es_ret h q)
theorem ex_done {rest : List Stmt} (h : EX w n c ρ rest Φ) : EX w n c ρ [] (sq w n c rest Φ) := ex_nil h
theorem ex_if {p : Pos} {t : PySem.Expr} {a b rest : List Stmt} {r : Bool} (h : ET w n c.env ρ t r) (ha : r = true → EX w n c ρ a (sq w n c rest Φ)) (hb : r = false → EX w n c ρ b (sq w n c rest Φ)) : EX w n c ρ (.If t a b p :: rest) Φ := ex_cons (es_if h ha hb)
theorem ex_assert {p : Pos} {t : PySem.Expr} {m : Option PySem.Expr} {rest : List Stmt} (h : ET w n c.env ρ t true) (q : EX w n c ρ rest Φ) : EX w n c ρ (.Assert t m p :: rest) Φ := ex_cons (es_assert h q)
theorem ex_aug {x : Str} {p' p : Pos} {op : Operator} {e : PySem.Expr} {d₀ d d' : D} {rest : List Stmt} (hx : ρ.lookup x = some d₀) (h : EV w n c.env ρ e d) (ho : OP w n op d₀ d d') (hin : ∀ M A Q E s u v, Rd c.cur s.heap u d₀ → Rd c.cur s.heap v d → wpAny M A (binaryOp op u v) Q E s → wpAny M A (inplaceOp op u v) Q E s)
    (k : c.env.kindOf x = some .local ∨ c.env.kindOf x = some .cell) (q : EX w n c (put x d' ρ) rest Φ) (ow : c.own x = true := by rfl) : EX w n c ρ (.AugAssign (.Name x p') op e p :: rest) Φ := ex_cons (es_aug hx h ho hin k q ow)
end
end Mine
end
section
open PySem PySem.W PyProof.Rows PySem.Calls PySem.Spec
namespace Mine

theorem bindL_out (k : Str → Option NameKind) : ∀ (bs : List (Str × Value)) (m : Str → Option Value) (x : Str), x ∉ bs.map (·.1) → bindL k bs m x = m x
  | [], _, _, _ => rfl
  | (y, v) :: r, m, x, h => by
    simp only [List.map_cons, List.mem_cons, not_or] at h
    rw [bindL, bindL_out k r _ x h.2]
    split
    · show (if x = y then some v else m x) = m x; rw [if_neg h.1]
    · rfl
theorem bindL_in (k : Str → Option NameKind) : ∀ (bs : List (Str × Value)) (m : Str → Option Value) (x : Str) (v : Value), (bs.map (·.1)).Nodup → (x, v) ∈ bs → k x = some .local → bindL k bs m x = some v
  | (y, u) :: r, m, x, v, hn, hm, hk => by
    simp only [List.map_cons, List.nodup_cons] at hn
    rw [bindL]
    rcases List.mem_cons.mp hm with e | hm
    · cases e
      rw [bindL_out k r _ _ hn.1, if_pos hk, if_pos rfl]
    · exact bindL_in k r _ x v hn.2 hm hk
theorem bindC_out (k : Str → Option NameKind) : ∀ (bs : List (Str × Value)) (m : Str → Option Value) (x : Str), x ∉ bs.map (·.1) → bindC k bs m x = m x
  | [], _, _, _ => rfl
  | (y, v) :: r, m, x, h => by
    simp only [List.map_cons, List.mem_cons, not_or] at h
    rw [bindC, bindC_out k r _ x h.2]
    split
    · rfl
    · show (if x = y then some v else m x) = m x; rw [if_neg h.1]
theorem bindC_in (k : Str → Option NameKind) : ∀ (bs : List (Str × Value)) (m : Str → Option Value) (x : Str) (v : Value), (bs.map (·.1)).Nodup → (x, v) ∈ bs → k x ≠ some .local → bindC k bs m x = some v
  | (y, u) :: r, m, x, v, hn, hm, hk => by
    simp only [List.map_cons, List.nodup_cons] at hn
    rw [bindC]
    rcases List.mem_cons.mp hm with e | hm
    · cases e
      rw [bindC_out k r _ _ hn.1, if_neg hk, if_pos rfl]
    · exact bindC_in k r _ x v hn.2 hm hk
theorem zip_in {X : XS} {h : Heap} : ∀ (names : List Str) {vs : List Value} {ds : List D}, Rds X h vs ds → ∀ x d, (names.zip ds).lookup x = some d → ∃ v, (x, v) ∈ names.zip vs ∧ Rd X h v d
  | [], _, _, _, x, d, e => by simp at e
  | y :: names, _, _, .nil, x, d, e => by simp at e
  | y :: names, _, _, .cons a b, x, d, e => by
    simp only [List.zip_cons_cons, List.lookup] at e
    by_cases h : x = y
    · subst h
      simp only [beq_self_eq_true, Option.some.injEq] at e
      subst e
      exact ⟨_, .head _, a⟩
    · have : (x == y) = false := by simpa using h
      rw [this] at e
      obtain ⟨v, m, r⟩ := zip_in names b x d e
      exact ⟨v, .tail _ m, r⟩
theorem lookup_mem : ∀ {l : List (Str × Addr)} {x : Str} {k : Addr}, l.lookup x = some k → (x, k) ∈ l
  | (y, v) :: r, x, k, e => by
    simp only [List.lookup] at e
    by_cases h : x = y
    · subst h
      simp only [beq_self_eq_true, Option.some.injEq] at e
      subst e
      exact .head _
    · have : (x == y) = false := by simpa using h
      rw [this] at e
      exact .tail _ (lookup_mem e)
theorem apart_inj : ∀ {l : List (Str × Addr)}, l.Pairwise (fun x y => x.2 ≠ y.2) → ∀ {x y : Str} {k : Addr}, (x, k) ∈ l → (y, k) ∈ l → x = y
  | p :: r, h, x, y, k, hx, hy => by
    rw [List.pairwise_cons] at h
    rcases List.mem_cons.mp hx with ex | hx <;> rcases List.mem_cons.mp hy with ey | hy
    · rw [← ex] at ey; exact (congrArg Prod.fst ey).symm
    · exact absurd (by rw [← ex]) (h.1 _ hy)
    · exact absurd (by rw [← ey]) (h.1 _ hx)
    · exact apart_inj h.2 hx hy

/-- the frame of the i-th def -/
noncomputable abbrev envFn (i a L : Nat) (cd : Value) : Env := newEnv (theFn i).2.2.2 L mainGlobals (cellsFrom (L + 1) (theFn i).2.2.2.names []) ((theFn i).1 ++ ".<locals>.") (some a) cd none builtinsNs

theorem call_gen {w : World} {n : Nat} {a i : Nat} {dV kV cd : Value} {ds ds' : List D} {d : D} (mem : (a, i, dV, kV, cd) ∈ fnTab) (names : List Str) (sp : List Value → Args)
    (hb : ∀ (X : XS) (s : Shared) (vs : List Value), Sta X s.heap → Rds X s.heap vs ds → ∀ pm ct, ∃ us, BindsTo s (fdOf i dV kV pm cd ct) (sp vs) (names.zip us) ∧ Rds X s.heap us ds') (hlen : ds'.length = names.length)
    (hk : (theFn i).2.2.2.kind = .function) (hco : (theFn i).2.2.2.isCoroutine = false) (hge : (theFn i).2.2.2.isGenerator = false)
    (hkinds : ∀ x ∈ names, (theFn i).2.2.2.names.lookup x = some .local ∨ (theFn i).2.2.2.names.lookup x = some .cell) (hnd : names.Nodup)
    (body : ∀ L s₀ (X : XS), (∀ b, X b → ∃ o, s₀.heap.get? b = some o) → EX w n { env := envFn i a L cd, s₀ := s₀, X := X } (names.zip ds') (theFn i).2.2.1 (fun f _ => f = .ret d))
    (X : XS) (A : Around) (s : Shared) (Q : Value → Shared → Prop) (E : Value → Shared → Prop) (vs₀ : List Value) (g : GA (n + 1) A) (S : Sta X s.heap) (R₀ : Rds X s.heap vs₀ ds) (q : ∀ v s', Go s s' → Rd X s'.heap v d → Q v s') : wpAny (model PW w) A (call (.ref a) (sp vs₀).pos (sp vs₀).kw) Q E s := by
  obtain ⟨oc, od, osl, pm, ct, e, r⟩ := S.fns _ mem
  obtain ⟨vs, bt, R⟩ := hb X s vs₀ S R₀ pm ct
  have hl : vs.length = names.length := R.length.trans hlen
  refine wpAny_call (codeAny_call_function g.room e rfl hco hge rfl r (bt _ _ _ _ ?_))
  have fst : (names.zip vs).map (·.1) = names := by rw [List.map_fst_zip (by omega)]
  have inn : ∀ x ∈ names.zip vs, x.1 ∈ names := fun x hx => by rw [← fst]; exact List.mem_map_of_mem hx
  refine wpAny_newFunctionEnv_cells hk (fun x hx => (hkinds x.1 (inn x hx)).imp id fun z => ⟨z, cellsFrom_some _ _ _ (.inl z)⟩) fun env he s' C => ?_
  subst he
  have G : Go s s' := by
    obtain ⟨h', tk, rfl⟩ := C.toInCall.same
    exact ⟨rfl, rfl, rfl, .of_keep C.toInCall.keep⟩
  have S' := G.sta S
  refine ⟨S'.lim, codeAny_func ?_⟩
  have key := (body s.heap.objs.size s X fun b y => (S.low b y).2).run (A.deeper _) s' (g.deeper (newEnv (theFn i).2.2.2 s.heap.objs.size mainGlobals (cellsFrom (s.heap.objs.size + 1) (theFn i).2.2.2.names []) ((theFn i).1 ++ ".<locals>.") (some a) cd none builtinsNs)) ?_
  · refine wpAny_mono key (fun f s'' x => ?_) fun _ _ e => e.elim
    match f, x with
    | .next, ⟨_, _, h⟩ => cases h
    | .brk, ⟨_, _, h⟩ => cases h
    | .cont, ⟨_, _, h⟩ => cases h
    | .ret v, ⟨d', _, r', g', h⟩ =>
      cases h
      exact q v s'' g' r'
  · have R' := G.rds S R
    have cur : ∀ b, Cx.cur { env := envFn i a s.heap.objs.size cd, s₀ := s, X := X } b → X b := fun b y => y.elim id fun ⟨p, hp, _⟩ => (nomatch hp)
    refine ⟨⟨⟨hk, rfl, rfl⟩, S'.less fun b y => S'.low b (cur b y), ⟨⟨_, C.toInCall.ns, fun x d' e' k' => ?_⟩, fun x d' e' k' => ?_, fun x k e => ⟨_, C.cell x k e⟩⟩⟩, G, S.less (fun _ y => y.elim), get_size _, fun x k' _ => ?_, fun x y k' _ _ ex ey => ?_, fun p hp => (nomatch hp), ⟨List.nodup_nil, List.nodup_nil⟩, fun p hp => (nomatch hp)⟩
    · obtain ⟨v, m, rr⟩ := zip_in names R' x d' e'
      exact ⟨v, bindL_in _ _ _ x v (by rw [fst]; exact hnd) m k', rr.less fun b _ y => cur b y⟩
    · obtain ⟨v, m, rr⟩ := zip_in names R' x d' e'
      have hx := hkinds x (inn _ m)
      have kc : (newEnv (theFn i).2.2.2 s.heap.objs.size mainGlobals (cellsFrom (s.heap.objs.size + 1) (theFn i).2.2.2.names []) ((theFn i).1 ++ ".<locals>.") (some a) cd none builtinsNs).kindOf x = some .cell := by
        rcases k' with k' | k'
        · exact k'
        · rcases hx with hx | hx
          · have : some NameKind.free = some NameKind.local := k'.symm.trans hx
            cases this
          · exact hx
      have some' : ((cellsFrom (s.heap.objs.size + 1) (theFn i).2.2.2.names []).lookup x).isSome = true := cellsFrom_some _ _ _ (.inl kc)
      obtain ⟨cc, hcc⟩ := Option.isSome_iff_exists.mp some'
      refine ⟨cc, v, hcc, ?_, rr.less fun b _ y => cur b y⟩
      have z := C.cell x cc hcc
      rw [bindC_in _ _ _ x v (by rw [fst]; exact hnd) m (by rw [kc]; simp)] at z
      exact z
    · have some' : ((cellsFrom (s.heap.objs.size + 1) (theFn i).2.2.2.names []).lookup x).isSome = true := cellsFrom_some _ _ _ (.inl k')
      obtain ⟨cc, hcc⟩ := Option.isSome_iff_exists.mp some'
      exact ⟨cc, _, hcc, C.cell x cc hcc, get_above (Nat.le_of_lt (C.above x cc (lookup_mem hcc)))⟩
    · exact apart_inj C.apart (lookup_mem ex) (lookup_mem ey)
theorem call_of' {w : World} {n : Nat} {a i : Nat} {dV kV cd : Value} {ds : List D} {d : D} (mem : (a, i, dV, kV, cd) ∈ fnTab) (names : List Str)
    (hb : ∀ vs : List Value, vs.length = names.length → ∀ s pm ct, BindsTo s (fdOf i dV kV pm cd ct) ⟨vs, []⟩ (names.zip vs)) (hlen : ds.length = names.length)
    (hk : (theFn i).2.2.2.kind = .function) (hco : (theFn i).2.2.2.isCoroutine = false) (hge : (theFn i).2.2.2.isGenerator = false)
    (hkinds : ∀ x ∈ names, (theFn i).2.2.2.names.lookup x = some .local ∨ (theFn i).2.2.2.names.lookup x = some .cell) (hnd : names.Nodup)
    (body : ∀ L s₀ (X : XS), (∀ b, X b → ∃ o, s₀.heap.get? b = some o) → EX w n { env := envFn i a L cd, s₀ := s₀, X := X } (names.zip ds) (theFn i).2.2.1 (fun f _ => f = .ret d)) : CALL w (n + 1) (.ref a) ds d :=
  ⟨fun X A s Q E vs g S R q => call_gen mem names (fun vs => ⟨vs, []⟩) (fun X s vs S R pm ct => ⟨vs, hb vs (R.length.trans hlen) s pm ct, R⟩) hlen hk hco hge hkinds hnd body X A s Q E vs g S R q⟩
theorem call_of {w : World} {n : Nat} {a i : Nat} {dV kV cd : Value} {ds : List D} {d : D} (mem : (a, i, dV, kV, cd) ∈ fnTab) (names : List Str)
    (hb : ∀ vs : List Value, vs.length = names.length → ∀ s pm ct, BindsTo s (fdOf i dV kV pm cd ct) ⟨vs, []⟩ (names.zip vs)) (hlen : ds.length = names.length)
    (hk : (theFn i).2.2.2.kind = .function) (hco : (theFn i).2.2.2.isCoroutine = false) (hge : (theFn i).2.2.2.isGenerator = false)
    (hkinds : ∀ x ∈ names, (theFn i).2.2.2.names.lookup x = some .local ∨ (theFn i).2.2.2.names.lookup x = some .cell) (hnd : names.Nodup)
    (body : ∀ L s₀ X, EX w n { env := envFn i a L cd, s₀ := s₀, X := X } (names.zip ds) (theFn i).2.2.1 (fun f _ => f = .ret d)) : CALL w (n + 1) (.ref a) ds d :=
  call_of' mem names hb hlen hk hco hge hkinds hnd fun L s₀ X _ => body L s₀ X
end Mine
end
section
open PySem PySem.W PyProof.Rows PySem.Calls PySem.Spec
namespace Mine

theorem nodup_inj {α β : Type} (f : α → β) : ∀ {l : List α}, (l.map f).Nodup → ∀ {p q : α}, p ∈ l → q ∈ l → f p = f q → p = q
  | x :: r, h, p, q, hp, hq, e => by
    rw [List.map_cons, List.nodup_cons] at h
    rcases List.mem_cons.mp hp with ep | hp <;> rcases List.mem_cons.mp hq with eq | hq
    · rw [ep, eq]
    · exact absurd (by rw [← ep, e]; exact List.mem_map_of_mem hq) h.1
    · exact absurd (by rw [← eq, ← e]; exact List.mem_map_of_mem hp) h.1
    · exact nodup_inj f h.2 hp hq e

/-- fewer names -/
theorem Fm.sub {X : XS} {env h ρ ρ'} (f : Fm X env h ρ) (k : ∀ y d, ρ'.lookup y = some d → ρ.lookup y = some d) : Fm X env h ρ' := by
  obtain ⟨⟨m, hm, hl⟩, hc, hx⟩ := f
  exact ⟨⟨m, hm, fun y d e q => hl y d (k y d e) q⟩, fun y d e q => hc y d (k y d e) q, hx⟩
theorem IE.sub {X : XS} {env ρ ρ' s} (i : IE X env ρ s) (k : ∀ y d, ρ'.lookup y = some d → ρ.lookup y = some d) : IE X env ρ' s := ⟨i.ok, i.sta, i.fm.sub k⟩
theorem IX.sub {c ρ ρ' s} (I : IX c ρ s) (k : ∀ y d, ρ'.lookup y = some d → ρ.lookup y = some d) (km : ∀ p ∈ c.grow, ρ'.lookup p.1 = ρ.lookup p.1) : IX c ρ' s :=
  ⟨I.ie.sub k, I.go, I.st0, I.lo, I.ce, I.inj, fun p hp => let ⟨a, b, vs, ds, e, r⟩ := I.mu p hp; ⟨a, b, vs, ds, (km p hp).trans e, r⟩, I.mn, I.ke⟩

theorem ix_grown {c : Cx} {ρ : Rho} {s : Shared} {x : Str} {a : Addr} {v : Value} {d : D} {ds : List D} (I : IX c ρ s) (hm : (x, a) ∈ c.grow) (hx : ρ.lookup x = some (.list ds)) (r : Rd c.cur s.heap v d) :
    ∃ vs : List Value, PlainL s.heap a vs.toArray ∧ vs.length = ds.length ∧ ∀ h', PlainL h' a (vs.toArray.push v) → Heap.SameBut a s.heap h' → IX c (put x (.list (ds ++ [d])) ρ) { s with heap := h' } := by
  obtain ⟨na, kx, vs, ds', e, hL, R⟩ := I.mu _ hm
  dsimp only at na kx e hL
  rw [hx] at e
  cases e
  refine ⟨vs, hL, R.length, fun h' hL' hs => ?_⟩
  have xa : c.cur a := .inr ⟨_, hm, rfl⟩
  have lk : LK c.cur s.heap h' := LK.of_same_x hs xa
  have G : Go c.s₀ { s with heap := h' } := go_same I.go I.st0 na hs
  have ne1 : ∀ {b m}, s.heap.Ns b m → b ≠ a := fun y z => by
    subst z
    obtain ⟨o, k, f1, f2, _, f3⟩ := hL
    obtain ⟨o', es, ep, e1, e2, _⟩ := y
    rw [f1] at e1; cases e1; rw [f3] at e2; cases e2
  have ne2 : ∀ {b m}, s.heap.IsCell b m → b ≠ a := fun y z => by
    subst z
    obtain ⟨o, k, f1, f2, _, f3⟩ := hL
    obtain ⟨o', e1, e2⟩ := y
    rw [f1] at e1; cases e1; rw [f3] at e2; cases e2
  have cellsame : ∀ b v, s.heap.IsCell b v → h'.IsCell b v := fun b v y => by
    have nb := ne2 y
    obtain ⟨o, e, dd⟩ := y
    exact ⟨o, (hs.2 b nb).trans e, dd⟩
  have kn : ∀ y k, c.env.kindOf y = some k → y ≠ x := fun y k e z => by subst z; rw [kx] at e; cases e
  have pu : vs.toArray.push v = (vs ++ [v]).toArray := by simp
  refine ⟨⟨I.ie.ok, sta_same G I.st0 (low_same I.ie.sta hs (fun _ => let ⟨o, _, e, _⟩ := hL'; ⟨o, e⟩)), ⟨?_, fun y e he hk => ?_, fun y k e => let ⟨v, a⟩ := I.ie.fm.cex y k e; ⟨v, cellsame _ _ a⟩⟩⟩, G, I.st0, I.lo, fun y hk how => ?_, I.inj, fun p hp => ?_, I.mn, fun p hp => let ⟨b1, b2, b3, b4⟩ := I.ke p hp; ⟨(hs.2 _ fun z => b4 _ hm z.symm).trans b1, b2, b3, b4⟩⟩
  · obtain ⟨m, hm', hl'⟩ := I.ie.fm.loc
    refine ⟨m, hm'.sameBut hs (ne1 hm'), fun y e he hk => ?_⟩
    obtain ⟨v', b1, b2⟩ := hl' y e (lookup_put_ne he (kn y _ hk)) hk
    exact ⟨v', b1, b2.mono lk⟩
  · have ny : y ≠ x := by rcases hk with hk | hk <;> exact kn y _ hk
    obtain ⟨cc, v', b1, b2, b3⟩ := I.ie.fm.cel y e (lookup_put_ne he ny) hk
    exact ⟨cc, v', b1, cellsame _ _ b2, b3.mono lk⟩
  · obtain ⟨b, v', e1, e2, l⟩ := I.ce y hk how
    exact ⟨b, v', e1, cellsame _ _ e2, l⟩
  · obtain ⟨n1, n2, us, es, f1, f2, f3⟩ := I.mu p hp
    by_cases hpx : p.1 = x
    · have hpp : p = (x, a) := by
        exact nodup_inj _ I.mn.1 hp hm hpx
      subst hpp
      exact ⟨n1, n2, vs ++ [v], ds ++ [d], by rw [put_lookup, if_pos rfl], by rw [← pu]; exact hL', (R.mono lk).append (.cons (r.mono lk) .nil)⟩
    · have hpa : p.2 ≠ a := fun z => hpx (congrArg Prod.fst (nodup_inj (·.2) I.mn.2 hp hm z))
      refine ⟨n1, n2, us, es, by rw [put_lookup, if_neg hpx]; exact f1, ?_, f3.mono lk⟩
      obtain ⟨o, k, g1, g2, g4, g3⟩ := f2
      exact ⟨o, k, (hs.2 _ hpa).trans g1, g2, g4, g3⟩

theorem ix_append {w : World} {A : Around} {E : Value → Shared → Prop} {c : Cx} {ρ : Rho} {s : Shared} {x : Str} {a : Addr} {v : Value} {d : D} {ds : List D} {Q : Value → Shared → Prop} (I : IX c ρ s) (hm : (x, a) ∈ c.grow) (hx : ρ.lookup x = some (.list ds)) (r : Rd c.cur s.heap v d) (hl : ds.length ≤ sizeLine)
    (q : ∀ s', IX c (put x (.list (ds ++ [d])) ρ) s' → (∀ b o, b ≠ a → s.heap.get? b = some o → s'.heap.get? b = some o) → Q .none s') : wpAny (model PW w) A (call (.builtin "list.append") [.ref a, v]) Q E s := by
  obtain ⟨vs, hL, len, k⟩ := ix_grown I hm hx r
  exact list_append_plainL hL (fun h' hL' hs => q _ (k h' hL' hs) fun b o nb e => (hs.2 b nb).trans e) (by simp only [List.size_toArray]; omega)

/-- some few addresses turn that are none of ours -/
theorem ix_wr {c : Cx} {ρ : Rho} {s : Shared} {h' : Heap} {tk : Nat} {wr : List Addr} (I : IX c ρ s) (hx : ∀ b ∈ wr, c.X b) (h0 : ∀ b ∈ wr, c.s₀.heap.get? b = none) (hl : c.env.locals ∉ wr) (hc : ∀ y k, c.env.cells.lookup y = some k → k ∉ wr) (hg : ∀ p ∈ c.grow, p.2 ∉ wr)
    (hh : ∀ p ∈ c.hold, p.1 ∉ wr) (hex : ∀ b ∈ wr, ∃ o, h'.get? b = some o) (hs : ∀ b o, b ∉ wr → s.heap.get? b = some o → h'.get? b = some o) : IX c ρ { s with heap := h', toks := tk } := by
  have lk : LK c.cur s.heap h' := LK.of_keep fun b o n e => hs b o (fun z => n (.inl (hx b z))) e
  have G : Go c.s₀ { s with heap := h', toks := tk } := go_but I.go I.st0 h0 rfl rfl rfl hs
  refine ⟨⟨I.ie.ok, sta_same G I.st0 (fun b y => ?_), ⟨?_, fun y e he hk => ?_, fun y k e => let ⟨v, o, a, b⟩ := I.ie.fm.cex y k e; ⟨v, o, hs _ _ (hc _ _ e) a, b⟩⟩⟩, G, I.st0, I.lo, fun y hk how => ?_, I.inj, fun p hp => ?_, I.mn, fun p hp => let ⟨b1, b2⟩ := I.ke p hp; ⟨hs _ _ (hh p hp) b1, b2⟩⟩
  · obtain ⟨n, o, e⟩ := I.ie.sta.low b y
    by_cases hb : b ∈ wr
    · exact ⟨n, hex b hb⟩
    · exact ⟨n, o, hs b o hb e⟩
  · obtain ⟨m, ⟨o, es, ep, e, r⟩, hl'⟩ := I.ie.fm.loc
    refine ⟨m, ⟨o, es, ep, hs _ _ hl e, r⟩, fun y e he hk => ?_⟩
    obtain ⟨v', b1, b2⟩ := hl' y e he hk
    exact ⟨v', b1, b2.mono lk⟩
  · obtain ⟨cc, v', b1, ⟨o, b2, b2'⟩, b3⟩ := I.ie.fm.cel y e he hk
    exact ⟨cc, v', b1, ⟨o, hs _ _ (hc _ _ b1) b2, b2'⟩, b3.mono lk⟩
  · obtain ⟨b, v', e1, ⟨o, b2, b2'⟩, l⟩ := I.ce y hk how
    exact ⟨b, v', e1, ⟨o, hs _ _ (hc _ _ e1) b2, b2'⟩, l⟩
  · obtain ⟨n1, n2, us, es, f1, ⟨o, k, g1, g2, g4, g3⟩, f3⟩ := I.mu p hp
    exact ⟨n1, n2, us, es, f1, ⟨o, k, hs _ _ (hg p hp) g1, g2, g4, g3⟩, f3.mono lk⟩

/-- what a walk over src gives -/
structure ITER (w : World) (n : Nat) (src : D) (ds : List D) : Prop where
  run : ∀ (X : XS) (A : Around) (s : Shared) (Q : Value → Shared → Prop) (E : Value → Shared → Prop) (v : Value), GA n A → Sta X s.heap → Rd X s.heap v src →
    (∀ I s' fp wr P St, Go s s' → Walks PW w A I fp wr ds.length P St → St 0 s'.heap → (∀ b ∈ fp, b ≠ PT ∧ ∃ o, s'.heap.get? b = some o) → (∀ b ∈ wr, s.heap.get? b = none) → (∀ i h, St i h → ∀ b ∈ wr, ∃ o, h.get? b = some o) → (∀ b ∈ fp, ¬ X b) → (∀ i h, St i h → ∀ b ∈ fp, ∃ o, h.get? b = some o ∧ Keepable o) →
      (∀ i v d, ds[i]? = some d → P i v → Rd X s.heap v d) → Q (.ref I) s') → wpAny (model PW w) A (pyIter v) Q E s

/-- the tests of a comprehension -/
structure EI (w : World) (n : Nat) (env : Env) (ρ : Rho) (ifs : List PySem.Expr) (b : Bool) : Prop where
  run : ∀ (X : XS) (A : Around) (s : Shared) (Q : Bool → Shared → Prop) (E : Value → Shared → Prop), GA n A → IE X env ρ s → (∀ s', Go s s' → Q b s') →
    wpAny (model PW w) A (forIn ifs true fun c r => if r = true then do let ok ← PySem.isTrue c env (eval c env); pure (ForInStep.yield ok) else pure (ForInStep.yield r)) Q E s
theorem ei_nil {w n env ρ} : EI w n env ρ [] true := ⟨fun _ _ _ _ _ _ _ q => wpAny_tests_nil (q _ (Go.refl _))⟩
theorem ei_one {w n env ρ t b} (h : ET w n env ρ t b) : EI w n env ρ [t] b := ⟨fun X A s Q E g I q => wpAny_tests_one (h.run X A s Q E g I q)⟩

noncomputable abbrev accN : Str := "$acc"

/-- the turns of a comprehension -/
theorem comp_core {w : World} {n : Nat} {A : Around} {c : Cx} {ρ : Rho} {elt iter : PySem.Expr} {x : Str} {px pos : Pos} {ifs : List PySem.Expr} {sc : Scope} {I D₀ : Addr} {fp wr : List Addr} {P : Nat → Value → Prop} {St : Nat → Heap → Prop} {ds : List D} {R : Result → Shared → Prop}
    (f : D → Bool) (g : D → D) (ga : GA n A) (W : Walks PW w A I fp wr ds.length P St) (hgrow : c.grow = [(accN, D₀)]) (hhold : c.hold = []) (hxw : ∀ b ∈ wr, c.X b) (h0 : ∀ b ∈ wr, c.s₀.heap.get? b = none) (hl : c.env.locals ∉ fp) (hc : ∀ y k, c.env.cells.lookup y = some k → k ∉ wr) (hown : ∀ k, c.env.kindOf x = some .cell → c.env.cells.lookup x = some k → k ∉ fp) (hD : D₀ ∉ fp) (hpt : ∀ b ∈ fp, b ≠ PT)
    (hst : ∀ i h, St i h → ∀ b ∈ wr, ∃ o, h.get? b = some o) (hP : ∀ (s : Shared), Go c.s₀ s → ∀ i v d, ds[i]? = some d → P i v → Rd c.cur s.heap v d)
    (k : c.env.kindOf x = some .local ∨ c.env.kindOf x = some .cell) (ow : c.own x = true) (hxa : x ≠ accN) (hra : ρ.lookup accN = none) (hrx : ρ.lookup x = none) (hlen : ds.length ≤ sizeLine)
    (tests : ∀ d ∈ ds, EI w n c.env (put x d ρ) ifs (f d)) (body : ∀ d ∈ ds, f d = true → EV w n c.env (put x d ρ) elt (g d))
    (fin : ∀ s', IX c (put accN (.list ((ds.filter f).map g)) ρ) s' → ∀ h' tk, (∀ b o, b ∉ wr → s'.heap.get? b = some o → h'.get? b = some o) → R (.ok .next) { s' with heap := h', toks := tk }) :
    ∀ (s : Shared), IX c (put accN (.list []) ρ) s → St 0 s.heap → codeAny (model PW w) A (.compLoop (.ListComp elt [⟨.Name x px, iter, ifs, 0⟩] sc pos) 0 (.ref I) (.ref D₀) c.env) R s := by
  intro s IX₀ st₀
  have hmem : (accN, D₀) ∈ c.grow := by rw [hgrow]; exact .head _
  have nacc : ∀ (r : D) (ρ' : Rho), (put accN r ρ').lookup accN = some r := fun r ρ' => by rw [put_lookup, if_pos rfl]
  have keepSt : ∀ {i h h'}, St i h → (∀ b ∈ fp, ∀ o, h.get? b = some o → h'.get? b = some o) → St i h' := fun st kk => W.frame _ _ _ st kk
  have sub1 : ∀ (d : D) (r : D) y e, (put x d ρ).lookup y = some e → (put x d (put accN r ρ)).lookup y = some e := fun d r y e he => by
    rw [put_lookup] at he ⊢
    by_cases hy : y = x
    · rw [if_pos hy] at he ⊢; exact he
    · rw [if_neg hy] at he ⊢
      rw [put_lookup, if_neg (fun z => by subst z; rw [hra] at he; cases he)]
      exact he
  let J : Nat → Shared → Prop := fun m s => ∃ i, i + m = ds.length ∧ IX c (put accN (.list (((ds.take i).filter f).map g)) ρ) s ∧ St i s.heap
  refine codeAny_compLoop_tests J (fun m s hJ => ?_) ds.length ⟨0, by omega, by simpa using IX₀, st₀⟩
  obtain ⟨i, hi, I₁, st⟩ := hJ
  by_cases hlt : i < ds.length
  · refine W.item i s _ _ hlt st fun v h' tk pv st' hs => ?_
    have hd : ds[i]? = some ds[i] := by simp [hlt]
    have I₂ : IX c (put accN (.list (((ds.take i).filter f).map g)) ρ) { s with heap := h', toks := tk } :=
      ix_wr I₁ hxw h0 (fun z => hl (W.sub _ z)) hc (fun p hp => by rw [hgrow] at hp; rw [List.mem_singleton.mp hp]; exact fun z => hD (W.sub _ z)) (fun p hp => by rw [hhold] at hp; cases hp) (hst _ _ st') hs
    have rv := hP _ I₂.go i v _ hd pv
    show wpAny _ A (assign (.Name x px) c.env v) _ _ _
    refine wpAny_assign_Name ?_
    refine ix_store I₂ k ow rv (fun s₃ a I₃ ha ks => ?_)
    have na : a ∉ fp := by
      rcases ha with ha | ⟨hk, ha⟩
      · rw [ha]; exact hl
      · exact hown a hk ha
    have st₃ : St (i + 1) s₃.heap := keepSt st' fun b hb o e => ks b o (fun z => na (z ▸ hb)) e
    have I₃e : IE c.cur c.env (put x ds[i] ρ) s₃ := I₃.ie.sub (sub1 _ _)
    refine (tests _ (List.getElem_mem hlt)).run c.cur A s₃ _ _ ga I₃e fun s₄ g₄ => ?_
    have I₄ := I₃.mono g₄
    have st₄ : St (i + 1) s₄.heap := keepSt st₃ fun b hb o e => g₄.ext.keep b o (hpt b hb) e
    have nextT : ds.take (i + 1) = ds.take i ++ [ds[i]] := by rw [List.take_add_one, hd]; rfl
    have back : ∀ (r : D) y e, (put accN r ρ).lookup y = some e → (put x ds[i] (put accN r ρ)).lookup y = some e := fun r y e he => by
      rw [put_lookup]
      by_cases hy : y = x
      · subst hy
        rw [put_lookup, if_neg hxa, hrx] at he
        cases he
      · rw [if_neg hy]; exact he
    have accx : ∀ (r : D), (put x ds[i] (put accN r ρ)).lookup accN = some r := fun r => by rw [put_lookup, if_neg (Ne.symm hxa), nacc]
    cases hf : f ds[i] with
    | false =>
      rw [if_neg (by simp)]
      refine ⟨ds.length - (i + 1), by omega, i + 1, by omega, ?_, st₄⟩
      have e1 : ((ds.take (i + 1)).filter f).map g = ((ds.take i).filter f).map g := by
        rw [nextT, List.filter_append]
        simp [hf]
      rw [e1]
      refine I₄.sub (back _) fun p hp => ?_
      rw [hgrow] at hp
      rw [List.mem_singleton.mp hp, nacc, accx]
    | true =>
      rw [if_pos rfl]
      have I₄e : IE c.cur c.env (put x ds[i] ρ) s₄ := I₄.ie.sub (sub1 _ _)
      refine (body _ (List.getElem_mem hlt) hf).run c.cur A s₄ _ _ ga I₄e fun y s₅ g₅ ry => ?_
      have I₅ := I₄.mono g₅
      have st₅ : St (i + 1) s₅.heap := keepSt st₄ fun b hb o e => g₅.ext.keep b o (hpt b hb) e
      refine ix_append I₅ hmem (accx _) ry ?_ fun s₆ I₆ k₆ => ?_
      · rw [List.length_map]
        refine Nat.le_trans (List.length_filter_le _ _) (Nat.le_trans (List.length_take_le _ _) ?_)
        omega
      refine ⟨ds.length - (i + 1), by omega, i + 1, by omega, ?_, keepSt st₅ fun b hb o e => k₆ b o (fun z => hD (z ▸ hb)) e⟩
      have e1 : ((ds.take (i + 1)).filter f).map g = ((ds.take i).filter f).map g ++ [g ds[i]] := by
        rw [nextT, List.filter_append]
        simp [hf]
      rw [e1]
      refine I₆.sub (fun y e he => ?_) fun p hp => ?_
      · rw [put_lookup] at he ⊢
        by_cases hy : y = accN
        · rw [if_pos hy] at he ⊢; exact he
        · rw [if_neg hy] at he ⊢
          refine back (.list (((ds.take i).filter f).map g)) y e ?_
          rw [put_lookup, if_neg hy]; exact he
      · rw [hgrow] at hp
        rw [List.mem_singleton.mp hp, nacc, nacc]
  · have hn : i = ds.length := by omega
    subst hn
    refine W.done s _ _ st fun h' tk hs => ?_
    rw [List.take_length] at I₁
    exact fin s I₁ h' tk hs
end Mine
end
section
open PySem PySem.W PyProof.Rows PySem.Calls PySem.Spec
namespace Mine

theorem filter_key (q : Str → Bool) : ∀ (ρ : Rho) (y : Str), (ρ.filter fun p => q p.1).lookup y = if q y = true then ρ.lookup y else none
  | [], y => by simp
  | (z, d) :: r, y => by
    have ih := filter_key q r y
    simp only [List.filter_cons]
    by_cases h : y = z
    · subst h
      by_cases hq : q y = true
      · simp [hq, List.lookup]
      · simp only [hq] at ih ⊢
        simpa using ih
    · have e : (y == z) = false := by simpa using h
      by_cases hq : q z = true
      · simp only [hq, if_true, List.lookup, e]
        exact ih
      · simp only [hq, List.lookup, e]
        simpa using ih

/-- the outer names that a comprehension sees -/
noncomputable def seen (cl : List (Str × Addr)) (ρ : Rho) : Rho := ρ.filter fun p => (cl.lookup p.1).isSome

theorem seen_lookup (cl : List (Str × Addr)) (ρ : Rho) (y : Str) : (seen cl ρ).lookup y = if (cl.lookup y).isSome = true then ρ.lookup y else none := filter_key (fun y => (cl.lookup y).isSome) ρ y

section
variable {w : World} {n : Nat} {env : Env} {ρ : Rho}

/-- what a comprehension's frame needs of its closure -/
structure ClOk (env : Env) (sc : Scope) (cl : List (Str × Addr)) (x : Str) : Prop where
  clos : closureFor sc env = pure cl
  kind : sc.kind = .function
  names : ∀ y ∈ sc.names, y.2 = .local → sc.names.lookup y.1 = some .local
  outer : ∀ p ∈ cl, env.cells.lookup p.1 = some p.2 ∧ (env.kindOf p.1 = some .cell ∨ env.kindOf p.1 = some .free) ∧ (relabel sc env).names.lookup p.1 ≠ some .local
  acc : cl.lookup accN = none ∧ (relabel sc env).names.lookup accN = none
  tgt : cl.lookup x = none
  ne : x ≠ accN

theorem seen_sub {cl : List (Str × Addr)} {y : Str} {d : D} (h : (seen cl ρ).lookup y = some d) : ρ.lookup y = some d ∧ ∃ k, (y, k) ∈ cl := by
  rw [seen_lookup] at h
  split at h
  · rename_i hq
    obtain ⟨k, hk⟩ := Option.isSome_iff_exists.mp hq
    exact ⟨h, k, lookup_mem hk⟩
  · cases h

/-- the frame at its start -/
theorem comp_frame {X : XS} {s₁ s₂ : Shared} {h₃ : Heap} {tk : Nat} {sc : Scope} {cl ocl : List (Str × Addr)} {x : Str} {C : Addr} {wr : List Addr} (K : ClOk env sc cl x) (I : IE X env ρ s₁) (g : Go s₁ s₂) (hD : s₂.heap.get? C = none)
    (hwr : ∀ b ∈ wr, s₁.heap.get? b = none) (hwe : ∀ b ∈ wr, ∃ o, s₂.heap.get? b = some o) (D₀ : Addr) (hDs : s₁.heap.get? D₀ = none) (hDl : PlainL h₃ D₀ #[]) (hn : ∃ m, h₃.Ns C m)
    (hk : ∀ b o, s₂.heap.get? b = some o → h₃.get? b = some o)
    (ho : ∀ y k, ocl.lookup y = some k → y = x) (hoc : ∀ k, (ocl ++ cl).lookup x = some k → ∃ v, h₃.IsCell k v) (how : (relabel sc env).names.lookup x = some .cell → ∃ k v₀, ocl.lookup x = some k ∧ h₃.IsCell k v₀ ∧ s₁.heap.get? k = none) :
    IX { env := { compEnvC sc cl C env with cells := ocl ++ cl }, s₀ := s₁, X := fun b => X b ∨ b ∈ wr, grow := [(accN, D₀)], own := fun y => y == x } (put accN (.list []) (seen cl ρ)) { s₂ with heap := h₃, toks := tk } := by
  have G : Go s₁ { s₂ with heap := h₃, toks := tk } := g.trans ⟨rfl, rfl, rfl, .of_keep hk⟩
  have S := G.sta I.sta
  have hpt : ∃ o, s₁.heap.get? PT = some o := let ⟨ps, e, _⟩ := I.sta.tab; ⟨_, e⟩
  have lkc : ∀ y, y ≠ x → (ocl ++ cl).lookup y = cl.lookup y := fun y hy => by
    rw [List.lookup_append]
    cases e : ocl.lookup y with
    | none => simp
    | some k => exact absurd (ho y k e) hy
  have hcur : ∀ {v d}, Rd X s₁.heap v d → Rd (Cx.cur { env := { compEnvC sc cl C env with cells := ocl ++ cl }, s₀ := s₁, X := fun b => X b ∨ b ∈ wr, grow := [(accN, D₀)], own := fun y => y == x }) h₃ v d := fun r => by
    have r₁ := r.less (Y := Cx.cur { env := { compEnvC sc cl C env with cells := ocl ++ cl }, s₀ := s₁, X := fun b => X b ∨ b ∈ wr, grow := [(accN, D₀)], own := fun y => y == x }) fun a ⟨o, e⟩ y => by
      rcases y with (y | y) | ⟨p, hp, rfl⟩
      · exact y
      · exact absurd rfl (ne_of_get (hwr a y) e)
      · rw [List.mem_singleton.mp hp] at e
        exact absurd rfl (ne_of_get hDs e)
    exact r₁.mono (G.ext.lk I.sta.tab)
  refine ⟨⟨⟨K.kind, I.ok.globals, I.ok.builtins⟩, S.less fun b y => ?_, ⟨?_, fun y e he hk' => ?_, fun y k e => ?_⟩⟩, G, I.sta.less fun _ y => y.elim, ?_, fun y hk' hy => ?_, fun y z k hy hk' e1 e2 => ?_, fun p hp => ?_, ⟨by simp, by simp⟩, fun p hp => (nomatch hp)⟩
  · rcases y with (y | y) | ⟨p, hp, rfl⟩
    · exact S.low b y
    · obtain ⟨o, e⟩ := hwe b y
      exact ⟨fun z => let ⟨o', e'⟩ := hpt; ne_of_get (hwr b y) e' z.symm, o, hk _ _ e⟩
    · rw [List.mem_singleton.mp hp]
      obtain ⟨o, _, e, _⟩ := hDl
      exact ⟨fun z => let ⟨o', e'⟩ := hpt; ne_of_get hDs e' z.symm, o, e⟩
  · obtain ⟨m, hm⟩ := hn
    refine ⟨m, hm, fun y e he hk' => ?_⟩
    exfalso
    rw [put_lookup] at he
    by_cases hy : y = accN
    · subst hy
      have : (relabel sc env).names.lookup accN = some .local := hk'
      rw [K.acc.2] at this; cases this
    · rw [if_neg hy] at he
      obtain ⟨_, k, hkm⟩ := seen_sub he
      exact (K.outer _ hkm).2.2 hk'
  · rw [put_lookup] at he
    by_cases hy : y = accN
    · subst hy
      have : (relabel sc env).names.lookup accN = none := K.acc.2
      rcases hk' with hk' | hk' <;> (have z : (relabel sc env).names.lookup accN = _ := hk'; rw [this] at z; cases z)
    · rw [if_neg hy] at he
      obtain ⟨h1, k, hkm⟩ := seen_sub he
      obtain ⟨o1, o2, _⟩ := K.outer _ hkm
      obtain ⟨cc, v, c1, c2, c3⟩ := I.fm.cel y e h1 o2
      have hyx : y ≠ x := by
        rintro rfl
        have := K.tgt
        rw [seen_lookup] at he
        rw [this] at he
        cases he
      refine ⟨cc, v, ?_, ?_, hcur c3⟩
      · show (ocl ++ cl).lookup y = some cc
        rw [lkc y hyx]
        rw [seen_lookup] at he
        split at he
        · rename_i hq
          obtain ⟨k', hk''⟩ := Option.isSome_iff_exists.mp hq
          rw [hk'']
          have := (K.outer _ (lookup_mem hk'')).1
          exact this.symm.trans c1
        · cases he
      · exact G.ext.cell I.sta.tab c2
  · have e' : (ocl ++ cl).lookup y = some k := e
    by_cases hy : y = x
    · subst hy
      exact hoc k e'
    · rw [lkc y hy] at e'
      obtain ⟨v, c2⟩ := I.fm.cex y k (K.outer _ (lookup_mem e')).1
      exact ⟨v, G.ext.cell I.sta.tab c2⟩
  · show s₁.heap.get? C = none
    cases e : s₁.heap.get? C with
    | none => rfl
    | some o =>
      by_cases hc : C = PT
      · subst hc
        obtain ⟨ps, e', _⟩ := g.ext.tab I.sta.tab
        rw [hD] at e'; cases e'
      · rw [g.ext.keep C o hc e] at hD; cases hD
  · have hyx : y = x := by simpa using hy
    subst hyx
    obtain ⟨k, v₀, a1, a2, a3⟩ := how hk'
    refine ⟨k, v₀, ?_, a2, a3⟩
    show (ocl ++ cl).lookup y = some k
    rw [List.lookup_append, a1]; rfl
  · have hyx : y = x := by simpa using hy
    subst hyx
    obtain ⟨k', v₀, a1, a2, a3⟩ := how hk'
    have e1' : (ocl ++ cl).lookup y = some k := e1
    rw [List.lookup_append, a1] at e1'
    have hkk : k' = k := by simpa using e1'
    subst hkk
    by_cases hz : z = y
    · exact hz.symm
    · exfalso
      have e2' : (ocl ++ cl).lookup z = some k' := e2
      rw [lkc z hz] at e2'
      obtain ⟨o1, o2, _⟩ := K.outer _ (lookup_mem e2')
      -- an old cell: it stood ahead
      obtain ⟨v', o, e3, _⟩ := I.fm.cex z k' o1
      exact ne_of_get a3 e3 rfl
  · rw [List.mem_singleton.mp hp]
    exact ⟨hDs, K.acc.2, [], [], by rw [put_lookup, if_pos rfl], hDl, .nil⟩

theorem rd_cur {X : XS} {s₁ : Shared} {e : Env} {o : Str → Bool} {wr : List Addr} {D₀ : Addr} (hwr : ∀ b ∈ wr, s₁.heap.get? b = none) (hDs : s₁.heap.get? D₀ = none) {v : Value} {d : D} (r : Rd X s₁.heap v d) :
    Rd (Cx.cur { env := e, s₀ := s₁, X := fun b => X b ∨ b ∈ wr, grow := [(accN, D₀)], own := o }) s₁.heap v d :=
  r.less fun a ⟨o, e⟩ y => by
    rcases y with (y | y) | ⟨p, hp, rfl⟩
    · exact y
    · exact absurd rfl (ne_of_get (hwr a y) e)
    · rw [List.mem_singleton.mp hp] at e
      exact absurd rfl (ne_of_get hDs e)

/-- from the first turn to the end -/
theorem comp_run {X : XS} {A : Around} {s s₁ : Shared} {c : Cx} {elt iter : PySem.Expr} {x : Str} {px pos : Pos} {ifs : List PySem.Expr} {sc : Scope} {I D₀ C : Addr} {fp wr : List Addr} {P : Nat → Value → Prop} {St : Nat → Heap → Prop} {ds : List D}
    {Q E : Value → Shared → Prop} {o : Str → Bool} (f : D → Bool) (g : D → D) (ga : GA n A) (g₁ : Go s s₁) (S₁ : Sta X s₁.heap) (W : Walks PW w A I fp wr ds.length P St) (ec : c = { env := c.env, s₀ := s₁, X := fun b => X b ∨ b ∈ wr, grow := [(accN, D₀)], own := o }) (hC : c.env.locals = C)
    (h0 : ∀ b ∈ wr, s₁.heap.get? b = none) (hDs : s₁.heap.get? D₀ = none) (hCs : s₁.heap.get? C = none) (hl : C ∉ fp) (hc : ∀ y k, c.env.cells.lookup y = some k → k ∉ wr) (hown : ∀ k, c.env.kindOf x = some .cell → c.env.cells.lookup x = some k → k ∉ fp) (hD : D₀ ∉ fp) (hCD : C ≠ D₀) (hpt : ∀ b ∈ fp, b ≠ PT)
    (hst : ∀ i h, St i h → ∀ b ∈ wr, ∃ o, h.get? b = some o) (hP : ∀ i v d, ds[i]? = some d → P i v → Rd X s₁.heap v d) {ρ' : Rho}
    (k : c.env.kindOf x = some .local ∨ c.env.kindOf x = some .cell) (ow : o x = true) (hxa : x ≠ accN) (hra : ρ'.lookup accN = none) (hrx : ρ'.lookup x = none) (hlen : ds.length ≤ sizeLine)
    (tests : ∀ d ∈ ds, EI w n c.env (put x d ρ') ifs (f d)) (body : ∀ d ∈ ds, f d = true → EV w n c.env (put x d ρ') elt (g d))
    (q : ∀ v s', Go s s' → Rd X s'.heap v (.list ((ds.filter f).map g)) → Q v s') (s₃ : Shared) (IX₀ : IX c (put accN (.list []) ρ') s₃) (st : St 0 s₃.heap) :
    codeAny (model PW w) A (.compStart (.ListComp elt [⟨.Name x px, iter, ifs, 0⟩] sc pos) 0 (.ref I) (.ref D₀) c.env) (compPost (model PW w) A E none Q (.ref D₀) C) s₃ := by
  have e0 : c.s₀ = s₁ := by rw [ec]
  have eX : ∀ b, c.X b ↔ (X b ∨ b ∈ wr) := fun b => by rw [ec]
  have eg : c.grow = [(accN, D₀)] := by rw [ec]
  have eo : c.own = o := by rw [ec]
  have ecur : c.cur = Cx.cur { env := c.env, s₀ := s₁, X := fun b => X b ∨ b ∈ wr, grow := [(accN, D₀)], own := o } := congrArg Cx.cur ec
  have loop := comp_core (w := w) (n := n) (A := A) (c := c) (ρ := ρ') (elt := elt) (iter := iter) (x := x) (px := px) (pos := pos) (ifs := ifs) (sc := sc) (I := I) (D₀ := D₀) (fp := fp) (wr := wr) (P := P) (St := St) (ds := ds)
    (R := compPost (model PW w) A E none Q (.ref D₀) C) f g ga W eg (by rw [ec]) (fun b hb => (eX b).mpr (.inr hb)) (fun b hb => by rw [e0]; exact h0 b hb) (by rw [hC]; exact hl) hc hown hD hpt hst
    (fun s' g' i v d hd hp => by
      rw [e0] at g'
      rw [ecur]
      exact (rd_cur h0 hDs (hP i v d hd hp)).mono (g'.ext.lk S₁.tab)) k (by rw [eo]; exact ow) hxa hra hrx hlen tests body (fun s' I' h' tk hk => ?_)
  · exact codeAny_compStart_list (loop s₃ IX₀ st) (W.self 0 s₃ _ _ st (loop s₃ IX₀ st))
  · obtain ⟨m, ⟨oc, es, ep, e1, r1⟩, _⟩ := I'.ie.fm.loc
    rw [hC] at e1
    have nC : C ∉ wr := fun z => hl (W.sub _ z)
    refine ⟨m, ⟨oc, es, ep, hk _ _ nC e1, r1⟩, fun h'' hs => ?_⟩
    have G₁ : Go s₁ { s' with heap := h', toks := tk } := by
      have := I'.go
      rw [e0] at this
      exact go_but this S₁ h0 rfl rfl rfl hk
    have G₂ : Go s₁ { s' with heap := h'', toks := tk } := go_same (s := { s' with heap := h', toks := tk }) G₁ S₁ hCs hs
    refine q _ _ (g₁.trans G₂) ?_
    obtain ⟨_, _, vs, ds', b1, ⟨ol, b4, b2, b3, _, b5⟩, b6⟩ := I'.mu (accN, D₀) (by rw [eg]; exact .head _)
    rw [put_lookup, if_pos rfl] at b1
    cases b1
    have nD : D₀ ∉ wr := fun z => hD (W.sub _ z)
    refine .list ⟨ol, (hs.2 _ (Ne.symm hCD)).trans (hk _ _ nD b2), b3, b4, b5⟩ (fun z => ?_) ?_
    · obtain ⟨_, o', e'⟩ := S₁.low _ z
      exact ne_of_get hDs e' rfl
    · have lk1 : LK c.cur s'.heap h' := LK.of_keep fun b o nb e => hk b o (fun z => nb (.inl ((eX b).mpr (.inr z)))) e
      have r2 := b6.mono lk1
      have r3 : Rds X h' vs _ := r2.less fun a _ y => .inl ((eX a).mpr (.inl y))
      refine r3.mono (LK.of_same hs ?_)
      exact ns_no_list (m := m) ⟨oc, es, ep, hk _ _ nC e1, r1⟩

theorem ev_comp {elt iter : PySem.Expr} {x : Str} {px pos : Pos} {ifs : List PySem.Expr} {sc : Scope} {cl : List (Str × Addr)} {src : D} {ds : List D} (f : D → Bool) (g : D → D) (hi : EV w n env ρ iter src) (hit : ITER w n src ds) (K : ClOk env sc cl x)
    (hcell : ∀ y ∈ sc.names, y.2 ≠ .cell) (hx : (relabel sc env).names.lookup x = some .local) (hlen : ds.length ≤ sizeLine) (hra : ρ.lookup accN = none)
    (tests : ∀ C, ∀ d ∈ ds, EI w n (compEnvC sc cl C env) (put x d (seen cl ρ)) ifs (f d)) (body : ∀ C, ∀ d ∈ ds, f d = true → EV w n (compEnvC sc cl C env) (put x d (seen cl ρ)) elt (g d))
    (hs : ∀ x, foldedSetIterable iter env x = pure x := by intro _; rfl) : EV w n env ρ (.ListComp elt [⟨.Name x px, iter, ifs, 0⟩] sc pos) (.list ((ds.filter f).map g)) := by
  refine ⟨?_⟩
  intro X A s Q E ga I q
  show wpAny _ A (comprehension (.ListComp elt [⟨.Name x px, iter, ifs, 0⟩] sc pos) sc env (firstIterPos [⟨.Name x px, iter, ifs, 0⟩] pos) (newList []) false (eval iter env)) Q E s
  refine wpAny_comprehension_free (g := ⟨.Name x px, iter, ifs, 0⟩) (gs := []) rfl hs K.clos K.kind K.names ?_
  refine hi.run X A s _ _ ga I fun v s₁ g₁ r₁ => ?_
  have I₁ := I.mono g₁
  refine hit.run X A s₁ _ _ v ga I₁.sta r₁ fun It s₂ fp wr P St g₂ W st hfp hwr hst _ _ hP => ?_
  refine wpAny_newList ?_ (by decide)
  refine wpAny_newFunctionEnv hcell (fun y hy => nomatch hy) (fun h' hn hsb => ?_) K.kind
  have hwe : ∀ b ∈ wr, ∃ o, s₂.heap.get? b = some o := hst 0 _ st
  have hk : ∀ b o, s₂.heap.get? b = some o → h'.get? b = some o := fun b o e => by
    have l := Heap.lt_size e
    have nb : b ≠ (s₂.heap.push { cls := .type "list", data := .seq ([] : List Value).toArray }).objs.size := by rw [Heap.size_push]; exact Nat.ne_of_lt (Nat.lt_succ_of_lt l)
    exact hsb.extBut b o nb (Heap.get?_push_of_some _ (Heap.get?_push_of_some _ e))
  have hDs : s₁.heap.get? s₂.heap.objs.size = none := by
    cases e : s₁.heap.get? s₂.heap.objs.size with
    | none => rfl
    | some o =>
      by_cases hp : s₂.heap.objs.size = PT
      · obtain ⟨ps, e', _⟩ := g₂.ext.tab I₁.sta.tab
        rw [← hp, get_size] at e'; cases e'
      · have := g₂.ext.keep _ o hp e
        rw [get_size] at this; cases this
  have hCD : (s₂.heap.push { cls := .type "list", data := .seq ([] : List Value).toArray }).objs.size ≠ s₂.heap.objs.size := by rw [Heap.size_push]; omega
  have hDl : PlainL h' s₂.heap.objs.size #[] := by
    refine ⟨{ cls := .type "list", data := .seq ([] : List Value).toArray }, 0, ?_, rfl, rfl, rfl⟩
    exact hsb.extBut _ _ (Ne.symm hCD) (Heap.get?_push_of_some _ (Heap.get?_push_size _ rfl))
  have hC2 : s₂.heap.get? (s₂.heap.push { cls := .type "list", data := .seq ([] : List Value).toArray }).objs.size = none := get_above (by rw [Heap.size_push]; omega)
  have hCs : s₁.heap.get? (s₂.heap.push { cls := .type "list", data := .seq ([] : List Value).toArray }).objs.size = none := by
    cases e : s₁.heap.get? (s₂.heap.push { cls := .type "list", data := .seq ([] : List Value).toArray }).objs.size with
    | none => rfl
    | some o =>
      by_cases hp : (s₂.heap.push { cls := .type "list", data := .seq ([] : List Value).toArray }).objs.size = PT
      · obtain ⟨ps, e', _⟩ := g₂.ext.tab I₁.sta.tab
        rw [← hp, hC2] at e'; cases e'
      · have := g₂.ext.keep _ o hp e
        rw [hC2] at this; cases this
  have FR := comp_frame (tk := s₂.toks) (ocl := []) K I₁ g₂ hC2 hwr hwe s₂.heap.objs.size hDs hDl ⟨_, hn⟩ hk (fun _ _ e => nomatch e) (fun k e => by
      have e' : cl.lookup x = some k := e
      rw [K.tgt] at e'; cases e') (fun e => by rw [hx] at e; cases e)
  have infp : ∀ b ∈ fp, b ≠ s₂.heap.objs.size ∧ b ≠ (s₂.heap.push { cls := .type "list", data := .seq ([] : List Value).toArray }).objs.size := fun b hb => by
    obtain ⟨_, o, e⟩ := hfp b hb
    have := Heap.lt_size e
    rw [Heap.size_push]
    exact ⟨Nat.ne_of_lt this, Nat.ne_of_lt (Nat.lt_succ_of_lt this)⟩
  refine comp_run (ρ' := seen cl ρ) (s := s) (s₁ := s₁) (X := X) (c := { env := compEnvC sc cl (s₂.heap.push { cls := .type "list", data := .seq ([] : List Value).toArray }).objs.size env, s₀ := s₁, X := fun b => X b ∨ b ∈ wr, grow := [(accN, s₂.heap.objs.size)], own := fun y => y == x })
    f g ga g₁ I₁.sta W rfl rfl hwr hDs hCs (fun z => (infp _ z).2 rfl) (fun y k e z => ?_) (fun k e => ?_) (fun z => (infp _ z).1 rfl) hCD (fun b hb => (hfp b hb).1) hst hP (.inl hx) (by simp) K.ne ?_ ?_ hlen (tests _) (body _) q _ FR ?_
  · obtain ⟨v, o, e', _⟩ := I₁.fm.cex y k (K.outer _ (lookup_mem e)).1
    exact ne_of_get (hwr _ z) e' rfl
  · have e' : (relabel sc env).names.lookup x = some .cell := e
    rw [hx] at e'; cases e'
  · rw [seen_lookup]; split
    · exact hra
    · rfl
  · rw [seen_lookup, K.tgt]; rfl
  · exact W.frame _ _ _ st fun b hb o e => hk b o e
end
end Mine
end
section
open PySem PySem.W PyProof.Rows PySem.Calls PySem.Spec
namespace Mine

theorem cellsFrom_app : ∀ (names : List (Str × NameKind)) (n : Nat) (acc : List (Str × Addr)), cellsFrom n names acc = cellsFrom n names [] ++ acc
  | [], _, _ => rfl
  | (y, k) :: r, n, acc => by
    unfold cellsFrom
    split
    · rw [cellsFrom_app r (n + 1) ((y, n) :: acc), cellsFrom_app r (n + 1) [(y, n)]]
      simp
    · exact cellsFrom_app r n acc
theorem cellsFrom_key : ∀ (names : List (Str × NameKind)) (n : Nat) (y : Str) (k : Addr), (y, k) ∈ cellsFrom n names [] → (y, NameKind.cell) ∈ names
  | (z, kd) :: r, n, y, k, h => by
    unfold cellsFrom at h
    split at h
    · rename_i hc
      rw [cellsFrom_app] at h
      rcases List.mem_append.mp h with h | h
      · exact .tail _ (cellsFrom_key r _ y k h)
      · have e := List.mem_singleton.mp h
        cases e
        have : kd = .cell := by simpa using hc
        rw [this]
        exact .head _
    · exact .tail _ (cellsFrom_key r _ y k h)

theorem nfe_cells {M : Model} {A : Around} {E : Value → Shared → Prop} {s : Shared} {scope : Scope} {globals : Addr} {cl : List (Str × Addr)} {qual : Str} {outer : Env} {Q : Env → Shared → Prop}
    (h : Q (newEnv scope s.heap.objs.size globals (cellsFrom (s.heap.objs.size + 1) scope.names cl) qual none .none (some outer) builtinsNs) { s with heap := pushCells (s.heap.push { cls := .type "dict", data := .dict #[] }) scope.names }) :
    wpAny M A (newFunctionEnv scope globals cl [] qual none .none (some outer)) Q E s := by
  simp only [newFunctionEnv, Option.isSome_some, if_true]
  refine wpAny_bind (wpAny_alloc ?_)
  refine wpAny_bind (wpAny_layCells _ (fun name kind cells => by cases hkc : kind == NameKind.cell <;> simp [hkc]) _ _ _ _ ?_)
  rw [show ({ s with heap := s.heap.push { cls := .type "dict", data := .dict #[] } } : Shared).heap.objs.size = s.heap.objs.size + 1 from Heap.size_push ..]
  exact wpAny_bind (wpAny_pure (wpAny_pure h))

section
variable {w : World} {n : Nat} {env : Env} {ρ : Rho}
/-- as ev_comp, the loop's own name a cell -/
theorem ev_compC {elt iter : PySem.Expr} {x : Str} {px pos : Pos} {ifs : List PySem.Expr} {sc : Scope} {cl : List (Str × Addr)} {src : D} {ds : List D} (f : D → Bool) (g : D → D) (hi : EV w n env ρ iter src) (hit : ITER w n src ds) (K : ClOk env sc cl x)
    (hcell : ∀ y ∈ sc.names, y.2 = .cell → y.1 = x) (hin : sc.names.lookup x = some .cell) (hx : (relabel sc env).names.lookup x = some .cell) (hlen : ds.length ≤ sizeLine) (hra : ρ.lookup accN = none)
    (tests : ∀ C k, ∀ d ∈ ds, EI w n { compEnvC sc cl C env with cells := (x, k) :: cl } (put x d (seen cl ρ)) ifs (f d)) (body : ∀ C k, ∀ d ∈ ds, f d = true → EV w n { compEnvC sc cl C env with cells := (x, k) :: cl } (put x d (seen cl ρ)) elt (g d))
    (hone : ∀ m, cellsFrom m sc.names [] = [(x, m)])
    (hs : ∀ x, foldedSetIterable iter env x = pure x := by intro _; rfl) : EV w n env ρ (.ListComp elt [⟨.Name x px, iter, ifs, 0⟩] sc pos) (.list ((ds.filter f).map g)) := by
  refine ⟨?_⟩
  intro X A s Q E ga I q
  show wpAny _ A (comprehension (.ListComp elt [⟨.Name x px, iter, ifs, 0⟩] sc pos) sc env (firstIterPos [⟨.Name x px, iter, ifs, 0⟩] pos) (newList []) false (eval iter env)) Q E s
  refine wpAny_comprehension_free (g := ⟨.Name x px, iter, ifs, 0⟩) (gs := []) rfl hs K.clos K.kind K.names ?_
  refine hi.run X A s _ _ ga I fun v s₁ g₁ r₁ => ?_
  have I₁ := I.mono g₁
  refine hit.run X A s₁ _ _ v ga I₁.sta r₁ fun It s₂ fp wr P St g₂ W st hfp hwr hst _ _ hP => ?_
  refine wpAny_newList ?_ (by decide)
  refine nfe_cells ?_
  have szp : (s₂.heap.push { cls := .type "list", data := .seq ([] : List Value).toArray }).objs.size = s₂.heap.objs.size + 1 := Heap.size_push ..
  have hwe : ∀ b ∈ wr, ∃ o, s₂.heap.get? b = some o := hst 0 _ st
  have hkp : ∀ b o, (s₂.heap.push { cls := .type "list", data := .seq ([] : List Value).toArray }).get? b = some o → (pushCells ((s₂.heap.push { cls := .type "list", data := .seq ([] : List Value).toArray }).push { cls := .type "dict", data := .dict #[] }) sc.names).get? b = some o := fun b o e =>
    pushCells_keeps _ _ b o (Heap.get?_push_of_some _ e)
  have hk : ∀ b o, s₂.heap.get? b = some o → (pushCells ((s₂.heap.push { cls := .type "list", data := .seq ([] : List Value).toArray }).push { cls := .type "dict", data := .dict #[] }) sc.names).get? b = some o := fun b o e => hkp b o (Heap.get?_push_of_some _ e)
  have old : ∀ b, s₂.heap.get? b = none → s₁.heap.get? b = none := fun b hb => by
    cases e : s₁.heap.get? b with
    | none => rfl
    | some o =>
      by_cases hp : b = PT
      · obtain ⟨ps, e', _⟩ := g₂.ext.tab I₁.sta.tab
        rw [← hp, hb] at e'; cases e'
      · have := g₂.ext.keep _ o hp e
        rw [hb] at this; cases this
  have hDs : s₁.heap.get? s₂.heap.objs.size = none := old _ (get_size _)
  have hCD : (s₂.heap.push { cls := .type "list", data := .seq ([] : List Value).toArray }).objs.size ≠ s₂.heap.objs.size := by rw [szp]; exact Nat.succ_ne_self _
  have hDl : PlainL (pushCells ((s₂.heap.push { cls := .type "list", data := .seq ([] : List Value).toArray }).push { cls := .type "dict", data := .dict #[] }) sc.names) s₂.heap.objs.size #[] :=
    ⟨{ cls := .type "list", data := .seq ([] : List Value).toArray }, 0, hkp _ _ (Heap.get?_push_size _ rfl), rfl, rfl, rfl⟩
  have hC2 : s₂.heap.get? (s₂.heap.push { cls := .type "list", data := .seq ([] : List Value).toArray }).objs.size = none := get_above (by rw [szp]; exact Nat.le_succ _)
  have hn : ∃ m, (pushCells ((s₂.heap.push { cls := .type "list", data := .seq ([] : List Value).toArray }).push { cls := .type "dict", data := .dict #[] }) sc.names).Ns (s₂.heap.push { cls := .type "list", data := .seq ([] : List Value).toArray }).objs.size m :=
    ⟨_, (Heap.Ns.new _ (.type "dict")).keeps (pushCells_keeps _ _)⟩
  have cellok := cellsFrom_ok sc.names ((s₂.heap.push { cls := .type "list", data := .seq ([] : List Value).toArray }).push { cls := .type "dict", data := .dict #[] }) (s₂.heap.objs.size + 2) [] ⟨fun _ _ hm => (nomatch hm), List.Pairwise.nil⟩ (by rw [Heap.size_push, szp]; exact Nat.le_refl _)
  rw [hone, Heap.size_push] at cellok
  have kcell := (cellok.empty x _ (.head _)).1
  rw [cellsFrom_app, hone]
  have FR := comp_frame (tk := s₂.toks) (ocl := [(x, (s₂.heap.push { cls := .type "list", data := .seq ([] : List Value).toArray }).objs.size + 1)]) K I₁ g₂ hC2 hwr hwe s₂.heap.objs.size hDs hDl hn hk (fun y k e => by
      have m := lookup_mem e
      exact congrArg Prod.fst (List.mem_singleton.mp m)) (fun k e => by
      have e' : some ((s₂.heap.push { cls := .type "list", data := .seq ([] : List Value).toArray }).objs.size + 1) = some k := by
        rw [← e]; simp [List.lookup]
      cases e'
      exact ⟨_, kcell⟩) (fun _ => ⟨_, none, by simp [List.lookup], kcell, old _ (get_above (by rw [szp]; exact Nat.le_add_right _ 2))⟩)
  have infp : ∀ b ∈ fp, b < s₂.heap.objs.size := fun b hb => let ⟨_, o, e⟩ := hfp b hb; Heap.lt_size e
  refine comp_run (ρ' := seen cl ρ) (s := s) (s₁ := s₁) (X := X) (c := { env := { compEnvC sc cl (s₂.heap.push { cls := .type "list", data := .seq ([] : List Value).toArray }).objs.size env with cells := (x, (s₂.heap.push { cls := .type "list", data := .seq ([] : List Value).toArray }).objs.size + 1) :: cl }, s₀ := s₁, X := fun b => X b ∨ b ∈ wr, grow := [(accN, s₂.heap.objs.size)], own := fun y => y == x })
    f g ga g₁ I₁.sta W rfl rfl hwr hDs (old _ hC2) (fun z => ?_) (fun y k e z => ?_) (fun k _ e z => ?_) (fun z => Nat.lt_irrefl _ (infp _ z)) hCD (fun b hb => (hfp b hb).1) hst hP (.inr hx) (by simp) K.ne ?_ ?_ hlen (tests _ _) (body _ _) q _ FR ?_
  · have := infp _ z
    rw [szp] at this
    exact absurd this (Nat.not_lt.mpr (Nat.le_succ _))
  · have m := lookup_mem e
    rcases List.mem_cons.mp m with m | m
    · cases m
      have := infp _ (W.sub _ z)
      rw [szp] at this
      exact absurd this (Nat.not_lt.mpr (Nat.le_add_right _ 2))
    · obtain ⟨v, o, e', _⟩ := I₁.fm.cex y k (K.outer _ m).1
      exact ne_of_get (hwr _ z) e' rfl
  · have e' : some ((s₂.heap.push { cls := .type "list", data := .seq ([] : List Value).toArray }).objs.size + 1) = some k := by
      rw [← e]; simp [List.lookup]
    cases e'
    have := infp _ z
    rw [szp] at this
    exact absurd this (Nat.not_lt.mpr (Nat.le_add_right _ 2))
  · rw [seen_lookup]; split
    · exact hra
    · rfl
  · rw [seen_lookup, K.tgt]; rfl
  · exact W.frame _ _ _ st fun b hb o e => hk b o e
end
end Mine
end
section
open PySem PySem.W PyProof.Rows PySem.Calls PySem.Spec
namespace Mine

theorem sub_core {prog : Program} {w : World} {A : Around} {E : Value → Shared → Prop} {s : Shared} {env : Env} {value slice : PySem.Expr} {pos : Pos} {T id : String} {Q : Value → Shared → Prop}
    (hl : typeLookup (.type T) "__getitem__" = pure (some (.builtin id)))
    (h : wpAny (model prog w) A (eval value env) (fun o s₁ => wpAny (model prog w) A (eval slice env) (fun i s₂ => s₂.TypeIs o T ∧ wpAny (model prog w) A (getItem o i) Q E s₂) E s₁) E s)
    (hs : ∀ o i, ∃ l, subscripted slice false o i = operate l (getItem o i)) : wpAny (model prog w) A (eval (.Subscript value slice pos) env) Q E s := by
  rw [eval_Subscript]
  refine wpAny_bind (wpAny_mono h (fun o s₁ h₁ => wpAny_bind (wpAny_holding (wpAny_mono h₁ (fun i s₂ h₂ => wpAny_bind (wpAny_standAt ?_)) fun _ _ x => x)))
    fun _ _ x => x)
  refine wpAny_bind ?_
  rw [getitemInPython_of_ne h₂.1.not_modules]
  refine wpAny_bind (wpAny_specialOf h₂.1 hl ?_)
  obtain ⟨l, hs⟩ := hs o i
  have fin : wpAny (model prog w) A (subscripted slice false o i) (fun r s₃ => wpAny (model prog w) A (letTemporaryGo value o r >>= fun _ => pure r) Q E s₃) E s₂ := by
    rw [hs]
    exact wpAny_operating (wpAny_mono h₂.2 (fun r s₃ h₃ => wpAny_bind (wpAny_letTemporaryGo (wpAny_pure h₃))) fun _ _ x => x)
  first
    | exact wpAny_pure (wpAny_bind fin)
    | exact wpAny_bind (wpAny_pure (wpAny_bind fin))
    | exact wpAny_bind fin

/-- an item on deep data -/
structure GET (w : World) (n : Nat) (a i d : D) : Prop where
  run : ∀ (X : XS) (A : Around) (s : Shared) (Q : Value → Shared → Prop) (E : Value → Shared → Prop) (u v : Value), GA n A → Sta X s.heap → Rd X s.heap u a → Rd X s.heap v i → (∀ v s', Go s s' → Rd X s'.heap v d → Q v s') → wpAny (model PW w) A (getItem u v) Q E s
/-- the type of what stands for a -/
noncomputable def TY (a : D) (T : String) : Prop := ∀ (X : XS) (s : Shared) (v : Value), Rd X s.heap v a → s.TypeIs v T
theorem ty_str {x : Str} : TY (.str x) "str" := by rintro X s v ⟨⟩; exact typeIs_str s _ _
theorem ty_bytes {x : Array UInt8} : TY (.bytes x) "bytes" := by rintro X s v ⟨⟩; exact typeIs_bytes s _ _
theorem ty_int {x : Int} : TY (.int x) "int" := by rintro X s v ⟨⟩; exact typeIs_int s _ _
theorem ty_list {x : List D} : TY (.list x) "list" := by rintro X s v ⟨⟩; rename_i h _ _; obtain ⟨o, e, c, _⟩ := h; exact ⟨o, e, c⟩

section
variable {w : World} {n : Nat} {env : Env} {ρ : Rho}
theorem ev_sub {value slice : PySem.Expr} {pos : Pos} {T id : String} {a i d : D} (hv : EV w n env ρ value a) (hi : EV w n env ρ slice i) (ht : TY a T) (hl : typeLookup (.type T) "__getitem__" = pure (some (.builtin id))) (hg : GET w n a i d)
    (hs : ∀ o i, ∃ l, subscripted slice false o i = operate l (getItem o i)) : EV w n env ρ (.Subscript value slice pos) d := by
  refine ⟨?_⟩
  intro X A s Q E g I q
  refine sub_core hl (hv.run X A s _ _ g I fun u s₁ g₁ r₁ => ?_) hs
  have I₁ := I.mono g₁
  refine hi.run X A s₁ _ _ g I₁ fun v s₂ g₂ r₂ => ?_
  have I₂ := I₁.mono g₂
  have r₁' := g₂.rd I₁.sta r₁
  exact ⟨ht X s₂ u r₁', hg.run X A s₂ _ _ u v g I₂.sta r₁' r₂ fun v s' g' r' => q v s' ((g₁.trans g₂).trans g') r'⟩
theorem get_list {ds : List D} {k : Int} {d : D} (h0 : 0 ≤ k) (hk : k < 2 ^ 63) (hd : ds[k.toNat]? = some d) : GET w n (.list ds) (.int k) d := by
  refine ⟨?_⟩
  rintro X A s Q E u v g S ru ⟨⟩ q
  cases ru
  rename_i l vs hl nx R
  obtain ⟨v', e, r⟩ := R.get _ _ hd
  exact wpAny_getItem_list hl h0 hk (by simpa using e) (q _ _ (Go.refl _) r)
theorem get_str {x : Str} {k : Int} {c : Nat} (h0 : 0 ≤ k) (hk : k < 2 ^ 63) (hd : x.cps[k.toNat]? = some c) : GET w n (.str x) (.int k) (.str ⟨#[c]⟩) := by
  refine ⟨?_⟩
  rintro X A s Q E u v g S ⟨⟩ ⟨⟩ q
  refine PySem.P.getItem_str (by simp; omega) ?_ (q _ _ (Go.tok _ _) (.str _ _))
  have hlt : k.toNat < x.cps.size := by
    by_cases h : k.toNat < x.cps.size
    · exact h
    · rw [Array.getElem?_eq_none (by omega)] at hd; cases hd
  have : seqIndex? k x.length = some k.toNat := by
    unfold seqIndex?
    have hn : ¬ k < 0 := by omega
    simp only [hn, if_false]
    rw [if_pos]
    show (decide (0 ≤ k) && decide (k < (x.cps.size : Int))) = true
    simp; omega
  rw [this]
  exact hd
theorem get_bytes {b : Array UInt8} {k : Int} {c : UInt8} (h0 : 0 ≤ k) (hk : k < b.size) (hb : b.size ≤ 1099511627776) (hd : b[k.toNat]? = some c) : GET w n (.bytes b) (.int k) (.int c.toNat) := by
  refine ⟨?_⟩
  rintro X A s Q E u v g S ru ⟨⟩ q
  obtain ⟨l⟩ := b
  cases ru
  refine getItem_bytes (l := l) (by simpa using hb) h0 (by simpa using hk) (q _ _ (Go.tok _ _) ?_)
  have : l.getD k.toNat 0 = c := by
    have hd' : l[k.toNat]? = some c := by simpa using hd
    simp [List.getD, hd']
  rw [this]
  exact .int _ _

/-- a slice's part -/
noncomputable def EP (w : World) (n : Nat) (env : Env) (ρ : Rho) : Option PySem.Expr → Option Int → Prop
  | none, none => True
  | some e, some i => EV w n env ρ e (.int i)
  | _, _ => False
noncomputable def partIs : Option Int → Value → Prop
  | none, v => v = .none
  | some i, v => ∃ t, v = .int i t
theorem ep_run {e : Option PySem.Expr} {i : Option Int} (h : EP w n env ρ e i) {X : XS} {A : Around} {s : Shared} {Q E : Value → Shared → Prop} (g : GA n A) (I : IE X env ρ s) (q : ∀ v s', Go s s' → partIs i v → Q v s') : wpAny (model PW w) A (evalPart e env) Q E s := by
  match e, i, h with
  | none, none, _ => exact wpAny_evalPart_none (q _ _ (Go.refl _) rfl)
  | some e, some i, h => exact wpAny_evalPart_some (h.run X A s _ _ g I fun v s' g' r => by cases r; exact q _ _ g' ⟨_, rfl⟩)
noncomputable def optTok : Option Int → Value → Option (Int × Tok)
  | some i, .int _ t => some (i, t)
  | _, _ => none

/-- what a slice picks -/
noncomputable def pickD (ds : List D) (lo hi : Option Int) : List D := (sliceRange (sliceBounds lo hi none ds.length).1 (sliceBounds lo hi none ds.length).2.1 (sliceBounds lo hi none ds.length).2.2).filterMap (ds[·]?)
theorem rds_pick {X : XS} {h : Heap} {vs : List Value} {ds : List D} (R : Rds X h vs ds) : ∀ (l : List Nat), Rds X h (l.filterMap (vs[·]?)) (l.filterMap (ds[·]?))
  | [] => .nil
  | i :: l => by
    have ih := rds_pick R l
    simp only [List.filterMap_cons]
    cases e : ds[i]? with
    | none =>
      have : vs[i]? = none := by
        rw [List.getElem?_eq_none_iff] at e ⊢
        rw [R.length]; exact e
      rw [this]; exact ih
    | some d =>
      obtain ⟨v, e', r⟩ := R.get i d e
      rw [e']; exact .cons r ih

theorem slice_run {e1 e2 : Option PySem.Expr} {lo hi : Option Int} {p : Pos} (h1 : EP w n env ρ e1 lo) (h2 : EP w n env ρ e2 hi) {X : XS} {A : Around} {s : Shared} {Q E : Value → Shared → Prop} (g : GA n A) (I : IE X env ρ s)
    (q : ∀ sl vl vu s', Go s s' → partIs lo vl → partIs hi vu → s'.heap.IsSliceOf sl vl vu .none → Q (.ref sl) s') : wpAny (model PW w) A (eval (.Slice e1 e2 none p) env) Q E s := by
  refine wpAny_Slice (ep_run h1 g I fun l s₁ g₁ p₁ => ?_)
  refine ep_run h2 g (I.mono g₁) fun u s₂ g₂ p₂ => ?_
  refine wpAny_evalPart_none ?_
  exact q _ l u _ ((g₁.trans g₂).trans (Go.push _ _ _)) p₁ p₂ (Heap.IsSliceOf.new _ _ _ _)
theorem ev_slice_list {value : PySem.Expr} {e1 e2 : Option PySem.Expr} {lo hi : Option Int} {p pos : Pos} {ds : List D} (hv : EV w n env ρ value (.list ds)) (h1 : EP w n env ρ e1 lo) (h2 : EP w n env ρ e2 hi) (hl : ds.length ≤ sizeLine) :
    EV w n env ρ (.Subscript value (.Slice e1 e2 none p) pos) (.list (pickD ds lo hi)) := by
  refine ⟨?_⟩
  intro X A s Q E g I q
  refine sub_core (T := "list") (id := "list.__getitem__") slot_list_getitem.lookup (hv.run X A s _ _ g I fun u s₁ g₁ r₁ => ?_) (fun o i => ⟨_, rfl⟩)
  have I₁ := I.mono g₁
  refine slice_run h1 h2 g I₁ fun sl vl vu s₂ g₂ p₁ p₂ hsl => ?_
  have I₂ := I₁.mono g₂
  have r₁' := g₂.rd I₁.sta r₁
  refine ⟨ty_list X s₂ u r₁', ?_⟩
  cases r₁'
  rename_i l vs hL nx R
  have q1 : ∀ {lo : Option Int} {v}, partIs lo v → IsPart v lo := fun {lo v} h => by
    cases lo with
    | none => cases h; exact .none
    | some i => obtain ⟨t, rfl⟩ := h; exact .int _ _
  refine wpAny_getItem_list_slice hL hsl (q1 p₁) (q1 p₂) .none (by simp) ?_ (by have := R.length; simp; omega)
  have G := Go.push s₂ { cls := .type "list", data := .seq (slicePick vs.toArray lo hi none) } s₂.toks
  refine q _ _ ((g₁.trans g₂).trans G) (.list (vs := (slicePick vs.toArray lo hi none).toList) ?_ (fresh_x I₂.sta) ?_)
  · exact ⟨_, Heap.get?_push_size _ rfl, rfl, 0, by simp⟩
  · unfold slicePick pickD
    simp only [List.size_toArray]
    have e : ∀ l : List Nat, (l.filterMap (vs.toArray[·]?)) = l.filterMap (vs[·]?) := fun l => by simp
    have R' := rds_pick (G.rds I₂.sta R) (sliceRange (sliceBounds lo hi none ds.length).1 (sliceBounds lo hi none ds.length).2.1 (sliceBounds lo hi none ds.length).2.2)
    rw [e, R.length]
    unfold slicePick at R'
    simp only [List.size_toArray, e, R.length] at R'
    exact R'
theorem ev_slice_str {value : PySem.Expr} {e1 e2 : Option PySem.Expr} {lo hi : Option Int} {p pos : Pos} {x : Str} (hv : EV w n env ρ value (.str x)) (h1 : EP w n env ρ e1 lo) (h2 : EP w n env ρ e2 hi) (hl : x.length ≤ sizeLine) :
    EV w n env ρ (.Subscript value (.Slice e1 e2 none p) pos) (.str (Txt.slice x lo hi)) := by
  refine ⟨?_⟩
  intro X A s Q E g I q
  refine sub_core (T := "str") (id := "str.__getitem__") PySem.F.slot_str_getitem.lookup (hv.run X A s _ _ g I fun u s₁ g₁ r₁ => ?_) (fun o i => ⟨_, rfl⟩)
  have I₁ := I.mono g₁
  refine slice_run h1 h2 g I₁ fun sl vl vu s₂ g₂ p₁ p₂ hsl => ?_
  have r₁' := g₂.rd I₁.sta r₁
  refine ⟨ty_str X s₂ u r₁', ?_⟩
  cases r₁'
  have q1 : ∀ {lo : Option Int} {v}, partIs lo v → ∃ l : Option (Int × Tok), v = partValue l ∧ l.map (·.1) = lo := fun {lo v} h => by
    cases lo with
    | none => exact ⟨none, h, rfl⟩
    | some i => obtain ⟨t, rfl⟩ := h; exact ⟨some (i, t), rfl, rfl⟩
  obtain ⟨l, rfl, e1⟩ := q1 p₁
  obtain ⟨u, rfl, e2⟩ := q1 p₂
  refine wpAny_getItem_str_slice (l := l) (u := u) (st := none) hsl rfl ?_
  subst e1 e2
  exact post_val_or_str ⟨Nat.le_trans (Txt.slice_le x _ _) hl, fun t' k => q _ _ ((g₁.trans g₂).trans (Go.tok _ _)) (.str _ _)⟩
end
end Mine
end
section
open PySem PySem.W PyProof.Rows PySem.Calls PySem.Spec
namespace Mine
section
variable {w : World} {n : Nat} {env : Env} {ρ : Rho}

theorem iter_list {ds : List D} : ITER w n (.list ds) ds := by
  refine ⟨?_⟩
  rintro X A s Q E v g S r q
  cases r
  rename_i l vs hl nx R
  refine wpAny_pyIter_list hl ?_
  have G := Go.push s { cls := .type "list_iterator", data := .fields #[.ref l, .int 0 0] } s.toks
  have ne : l ≠ s.heap.objs.size := by
    obtain ⟨o, e, _⟩ := hl
    exact Nat.ne_of_lt (Heap.lt_size e)
  have W := Walks.list (prog := PW) (w := w) g.handled s.heap.objs.size l ne vs.toArray
  have hlen : vs.toArray.size = ds.length := by simp [R.length]
  rw [hlen] at W
  have hpt : s.heap.objs.size ≠ PT := by
    obtain ⟨ps, e, _⟩ := S.tab
    exact Nat.ne_of_gt (Heap.lt_size e)
  have hlp : l ≠ PT := by
    rintro rfl
    obtain ⟨ps, e, _⟩ := S.tab
    obtain ⟨o, e1, e2, k, e3⟩ := hl
    exact tab_no_list _ e o e1 (.inl ⟨e2, _, _, e3⟩)
  have hl' : (s.heap.push { cls := .type "list_iterator", data := .fields #[.ref l, .int 0 0] }).IsList l vs.toArray := by
    obtain ⟨o, e1, e2⟩ := hl
    exact ⟨o, Heap.get?_push_of_some _ e1, e2⟩
  refine q _ _ _ _ _ _ G W ⟨⟨_, Heap.get?_push_size _ rfl, rfl, rfl⟩, hl'⟩ (fun b hb => ?_) (fun b hb => ?_) (fun i h st b hb => ?_) (fun b hb => ?_) (fun i h st b hb => ?_) (fun i v d hd pv => ?_)
  · simp only [List.mem_cons, List.not_mem_nil, or_false] at hb
    rcases hb with rfl | rfl
    · exact ⟨hpt, _, Heap.get?_push_size _ rfl⟩
    · obtain ⟨o, e, _⟩ := hl'
      exact ⟨hlp, o, e⟩
  · rw [List.mem_singleton.mp hb]; exact get_size _
  · rw [List.mem_singleton.mp hb]
    obtain ⟨⟨o, e, _⟩, _⟩ := st
    exact ⟨o, e⟩
  · simp only [List.mem_cons, List.not_mem_nil, or_false] at hb
    rcases hb with rfl | rfl
    · exact fresh_x S
    · exact nx
  · simp only [List.mem_cons, List.not_mem_nil, or_false] at hb
    rcases hb with rfl | rfl
    · obtain ⟨⟨o, e, e2, e3⟩, _⟩ := st
      exact ⟨o, e, .inr ⟨_, _, e2, e3⟩⟩
    · obtain ⟨_, o, e, e2, k, e3⟩ := st
      exact ⟨o, e, .inl ⟨e2, _, _, e3⟩⟩
  · obtain ⟨v', e, r⟩ := R.get i d hd
    have : some v = some v' := by
      rw [← e, ← pv]; simp
    cases this
    exact r

theorem iter_rng {a b : Int} (hab : a ≤ b) (hs : Builtin.Range.small a b 1 = true) : ITER w n (.rng a b) ((List.range (b - a).toNat).map fun (i : Nat) => D.int (a + i)) := by
  refine ⟨?_⟩
  rintro X A s Q E v g S r q
  cases r
  rename_i r t u v' nx hr
  refine wpAny_pyIter_range hr hs ?_
  have e1 : Builtin.Range.rangeSize a b 1 = b - a := by
    unfold Builtin.Range.rangeSize
    simp
    omega
  rw [e1]
  have W := Walks.range (prog := PW) (w := w) g.handled s.heap.objs.size a 1 (b - a).toNat
  have hlen : ((List.range (b - a).toNat).map fun (i : Nat) => D.int (a + i)).length = (b - a).toNat := by simp
  have hpt : s.heap.objs.size ≠ PT := by
    obtain ⟨ps, e, _⟩ := S.tab
    exact Nat.ne_of_gt (Heap.lt_size e)
  refine q _ _ _ _ _ _ (Go.push s _ s.toks) (by rw [hlen]; exact W) ?_ (fun b hb => ?_) (fun b hb => ?_) (fun i h st b hb => ?_) (fun b hb => ?_) (fun i h st b hb => ?_) (fun i v d hd pv => ?_)
  · have e2 : ((b - a).toNat : Int) = b - a := by omega
    have e3 : a + ((0 : Nat) : Int) * 1 = a := by simp
    have e4 : ((b - a).toNat : Int) - ((0 : Nat) : Int) = b - a := by omega
    show IsRangeIter _ _ (a + ((0 : Nat) : Int) * 1) (((b - a).toNat : Int) - ((0 : Nat) : Int)) 1
    rw [e3, e4]
    exact Heap.get?_push_size _ rfl
  · rw [List.mem_singleton.mp hb]; exact ⟨hpt, _, Heap.get?_push_size _ rfl⟩
  · rw [List.mem_singleton.mp hb]; exact get_size _
  · rw [List.mem_singleton.mp hb]
    exact ⟨_, st⟩
  · rw [List.mem_singleton.mp hb]; exact fresh_x S
  · rw [List.mem_singleton.mp hb]
    exact ⟨_, st, .inr ⟨_, _, rfl, rfl⟩⟩
  · obtain ⟨t, rfl⟩ := pv
    have hi : i < (b - a).toNat := by
      by_cases h : i < (b - a).toNat
      · exact h
      · rw [List.getElem?_eq_none (by simp; omega)] at hd; cases hd
    have : d = .int (a + i) := by
      simp only [List.getElem?_map, List.getElem?_range hi, Option.map_some, Option.some.injEq] at hd
      exact hd.symm
    subst this
    rw [Int.mul_one]
    exact .int _ _

theorem call_len_l {ds : List D} (h : ds.length < 2 ^ 62) : CALL w n (.builtin "len") [.list ds] (.int ds.length) := by
  refine ⟨?_⟩
  rintro X A s Q E vs g S (_ | ⟨r, _ | _⟩) q
  cases r
  rename_i l ws hl nx R
  refine PySem.Calls.call_len_list hl (by have := R.length; simp; omega) ?_
  have e : (ws.toArray.size : Int) = ds.length := by rw [← R.length]; simp
  rw [e]
  exact q _ _ (Go.tok _ _) (.int _ _)
theorem call_len_s {x : Str} (h : x.length < 2 ^ 62) : CALL w n (.builtin "len") [.str x] (.int x.length) := by
  refine ⟨?_⟩
  rintro X A s Q E vs g S (_ | ⟨⟨⟩, _ | _⟩) q
  exact PySem.P.len_str (by omega) (q _ _ (Go.tok _ _) (.int _ _))
theorem call_rng1 {b : Int} : CALL w n (.type "range") [.int b] (.rng 0 b) := by
  refine ⟨?_⟩
  rintro X A s Q E vs g S (_ | ⟨⟨⟩, _ | _⟩) q
  refine call_range_1 (q _ _ (Go.push _ _ _) (.rng (Heap.get?_push_size _ rfl) (fresh_x S)))
theorem call_rng2 {a b : Int} : CALL w n (.type "range") [.int a, .int b] (.rng a b) := by
  refine ⟨?_⟩
  rintro X A s Q E vs g S (_ | ⟨⟨⟩, _ | ⟨⟨⟩, _ | _⟩⟩) q
  refine call_range_2 (q _ _ (Go.push _ _ _) (.rng (Heap.get?_push_size _ rfl) (fresh_x S)))
theorem call_chr {i : Int} (h0 : 0 ≤ i) (h1 : i ≤ 1114111) : CALL w n (.builtin "chr") [.int i] (.str ⟨#[i.toNat]⟩) := by
  refine ⟨?_⟩
  rintro X A s Q E vs g S (_ | ⟨⟨⟩, _ | _⟩) q
  exact chr_of_range h0 h1 (q _ _ (Go.tok _ _) (.str _ _))
theorem strs_of {X : XS} {h : Heap} : ∀ {vs : List Value} {ys : List Str}, Rds X h vs (ys.map .str) → StrsAre vs ys
  | [], [], _ => .nil
  | _ :: _, y :: ys, .cons r R => by cases r; exact .cons _ _ (strs_of R)
theorem call_join {x : Str} {ys : List Str} (hok : (ys.map (·.length)).sum + ys.length * x.length ≤ 16777216) : CALL w n (.builtin "str.join") [.str x, .list (ys.map .str)] (.str (Txt.join x ys)) := by
  refine ⟨?_⟩
  rintro X A s Q E vs g S (_ | ⟨⟨⟩, _ | ⟨r, _ | _⟩⟩) q
  cases r
  rename_i l ws hl nx R
  exact join_list hl (by simpa using strs_of R) hok fun t' k => q _ _ (Go.tok _ _) (.str _ _)
theorem ev_join {o : PySem.Expr} {apos pos : Pos} {e : PySem.Expr} {x : Str} {ys : List Str} (ho : EV w n env ρ o (.str x)) (he : EV w n env ρ e (.list (ys.map .str))) (hok : (ys.map (·.length)).sum + ys.length * x.length ≤ 16777216)
    (h1 : attributeBase o "join" env (eval o env) = eval o env) (h2 : ((((backTo pos (starEach [e] env)).all fun x => !x.fst) && (backToKw pos (keywordEach [] env)).all fun x => x.fst.isSome) && decide (([e].length + ([] : List Keyword).length + if ([] : List Keyword).isEmpty = true then 0 else 1) < 30)) = true)
    (h3 : (apos.endLine == pos.line) = true) (h4 : starEach [e] env = (false, eval e env) :: starEach [] env) (hn : (backTo pos (starEach [e] env)).any (·.1) = false) : EV w n env ρ (.Call (.Attribute o "join" apos) [e] [] pos) (.str (Txt.join x ys)) :=
  ev_meth ho (fun X s v r => by cases r; exact ⟨typeIs_str s _ _, fun _ e => nomatch e⟩) (evs_cons he evs_nil h4) (call_join hok) h1 h2 h3 PySem.F.plainAttrs_str PySem.F.slot_str_join PySem.F.type_str_join hn
/-- a kind that holds a value -/
noncomputable abbrev Held (env : Env) (x : Str) : Prop := env.kindOf x = some .local ∨ env.kindOf x = some .cell ∨ (env.kindOf x = some .free ∧ (x == ("__classdict__" : Str)) = false)
theorem ev_item {x : Str} {i : Int} {k : Nat} {ds : List D} {d : D} {p p' p'' : Pos} (hx : ρ.lookup x = some (.list ds)) (hk : Held env x) (h0 : 0 ≤ i) (h1 : i < 2 ^ 63) (h : ds[i.toNat]? = some d) (hd : (x == ("__debug__" : Str)) = false := by decide) :
    EV w n env ρ (.Subscript (.Name x p) (.Constant (.int i) k p') p'') d :=
  ev_sub (ev_name hx hk hd) ev_int ty_list slot_list_getitem.lookup (get_list h0 h1 h) (fun _ _ => ⟨_, rfl⟩)
theorem ev_at {e1 e2 : PySem.Expr} {i : Int} {ds : List D} {d : D} {p : Pos} (h1 : EV w n env ρ e1 (.list ds)) (h2 : EV w n env ρ e2 (.int i)) (h0 : 0 ≤ i) (hi : i < 2 ^ 63) (h : ds[i.toNat]? = some d) (hs : ∀ o i, ∃ l, subscripted e2 false o i = operate l (getItem o i) := by exact fun _ _ => ⟨_, rfl⟩) :
    EV w n env ρ (.Subscript e1 e2 p) d := ev_sub h1 h2 ty_list slot_list_getitem.lookup (get_list h0 hi h) hs
theorem ev_sign {e1 e2 : PySem.Expr} {i : Int} {x : Str} {c : Nat} {p : Pos} (h1 : EV w n env ρ e1 (.str x)) (h2 : EV w n env ρ e2 (.int i)) (h0 : 0 ≤ i) (hi : i < 2 ^ 63) (h : x.cps[i.toNat]? = some c) (hs : ∀ o i, ∃ l, subscripted e2 false o i = operate l (getItem o i) := by exact fun _ _ => ⟨_, rfl⟩) :
    EV w n env ρ (.Subscript e1 e2 p) (.str ⟨#[c]⟩) := ev_sub h1 h2 ty_str PySem.F.slot_str_getitem.lookup (get_str h0 hi h) hs
end
end Mine
end
section
open PySem PySem.W PyProof.Rows PySem.Calls PySem.Spec
namespace Mine
noncomputable def alpha : Str := "ABCDEFGHIJKLMNOPQRSTUVWXYZabcdefghijklmnopqrstuvwxyz0123456789+/"
theorem ex_open {w n c ρ Φ} {b ss : List Stmt} (e : b = ss) (h : EX w n c ρ ss Φ) : EX w n c ρ b Φ := e ▸ h
theorem alphabet_ok {w : World} {n : Nat} : CALL w (n + 1) (.ref 120) [] (.str alpha) := by
  refine call_of (i := 21) (dV := .none) (kV := .none) (cd := .ref 119) (by decide) [] (fun vs h s pm ct => ?_) rfl rfl rfl rfl (by decide) (by decide) fun L s₀ X => ?_
  · obtain rfl : vs = [] := List.length_eq_zero_iff.mp h
    exact BindsTo.of_eq rfl
  · refine ex_open (ss := _ :: _) rfl ?_
    exact ex_ret ev_str rfl
noncomputable def digitOf (x : Int) : D → D
  | .int k => .int (x / 64 ^ k.toNat % 64)
  | d => d
set_option maxHeartbeats 1000000 in
theorem digits_ok {w : World} {n : Nat} {x : Int} (h0 : 0 ≤ x) (h1 : x < 2 ^ 24) : CALL w (n + 1) (.ref 125) [.int x] (.list [.int (x / 262144 % 64), .int (x / 4096 % 64), .int (x / 64 % 64), .int (x % 64)]) := by
  refine call_of (i := 22) (dV := .none) (kV := .none) (cd := .ref 124) (by decide) ["number"] (fun vs h s pm ct => ?_) rfl rfl rfl rfl (by decide) (by decide) fun L s₀ X => ?_
  · match vs, h with
    | [v], _ => exact BindsTo.of_eq rfl
  · refine ex_open (ss := _ :: _) rfl ?_
    refine (ex_ret (ev_comp (cl := [("number", L + 1)]) (ds := [.int 3, .int 2, .int 1, .int 0]) (fun _ => true) (digitOf x) (ev_list (evs_cons ev_int (evs_cons ev_int (evs_cons ev_int (evs_cons ev_int evs_nil))))) iter_list ?K ?c1 ?c2 ?c3 ?c4 ?c5 ?c6) ?c7)
    case K => exact ⟨rfl, rfl, by decide, List.forall_mem_cons.mpr ⟨⟨rfl, .inl rfl, fun h => nomatch h⟩, List.forall_mem_nil _⟩, ⟨rfl, rfl⟩, rfl, by decide⟩
    case c1 => decide
    case c2 => rfl
    case c3 => decide
    case c4 => rfl
    case c5 => exact fun _ _ _ => ei_nil
    case c6 =>
      intro C d hd _
      simp only [List.mem_cons, List.not_mem_nil, or_false] at hd
      rcases hd with rfl | rfl | rfl | rfl
      all_goals
        refine ev_bin (ev_bin (ev_name rfl (.inr (.inl rfl))) (ev_bin ev_int (ev_name rfl (.inl rfl)) (op_pow (by decide) (by decide))) (op_div (by decide) ?_)) ev_int (op_mod (by decide))
        rfl
    case c7 => simp [digitOf, sq]
end Mine
end
section
open PySem PySem.W PyProof.Rows PySem.Calls PySem.Spec
namespace Mine
/-- a text of signs -/
noncomputable abbrev mk (l : List Nat) : Str := ⟨l.toArray⟩
/-- the alphabet's signs -/
noncomputable def AL : List Nat := [65, 66, 67, 68, 69, 70, 71, 72, 73, 74, 75, 76, 77, 78, 79, 80, 81, 82, 83, 84, 85, 86, 87, 88, 89, 90, 97, 98, 99, 100, 101, 102, 103, 104, 105, 106, 107, 108, 109, 110, 111, 112, 113, 114, 115, 116, 117, 118, 119, 120, 121, 122, 48, 49, 50, 51, 52, 53, 54, 55, 56, 57, 43, 47]
theorem alpha_is : alpha = mk AL := by decide +kernel
noncomputable def sg (i : Int) : Nat := AL.getD i.toNat 0
theorem mk_append (a b : List Nat) : mk a ++ mk b = mk (a ++ b) := by
  apply Str.ext'
  rw [Str.cps_append]
  simp
theorem mk_len (a : List Nat) : (mk a).length = a.length := by simp [Str.length]
noncomputable def sgD : D → D
  | .int k => .str (mk [sg k])
  | d => d
theorem al_len : AL.length = 64 := rfl
noncomputable def Dig (k : Int) : Prop := 0 ≤ k ∧ k < 64
theorem al_get {k : Int} (h : Dig k) : alpha.cps[k.toNat]? = some (sg k) := by
  rw [alpha_is]
  show (AL.toArray)[k.toNat]? = _
  have hl : k.toNat < AL.length := by rw [al_len]; have := h.1; have := h.2; omega
  simp [sg, List.getD, hl]
theorem join_nil : ∀ (ys : List Str), Str.join (mk []) ys = mk (ys.flatMap fun y => y.cps.toList)
  | [] => rfl
  | [y] => by
    apply Str.ext'
    simp [Str.join]
  | y :: z :: r => by
    have ih := join_nil (z :: r)
    apply Str.ext'
    rw [Str.join, ih, Str.cps_append, Str.cps_append]
    · simp
    · intro h; cases h
theorem join_flat (ys : List Str) : Txt.join (mk []) ys = mk (ys.flatMap fun y => y.cps.toList) := by
  unfold Txt.join
  rw [StrLaws.glued_eq_join, join_nil]
theorem slice_mk (l : List Nat) {a b : Nat} (hab : a ≤ b) (hb : b ≤ l.length) : Txt.slice (mk l) (some (a : Int)) (some (b : Int)) = mk ((l.drop a).take (b - a)) := by
  have hb' : b ≤ (mk l).length := by rw [mk_len]; exact hb
  unfold Txt.slice
  split
  · rename_i h
    have h1 := StrLaws.strSliceIndices_plain (len := (mk l).length) hab hb'
    rw [h1, mk_len] at h
    simp only [List.length_map, List.length_range, beq_self_eq_true, Bool.true_and, beq_iff_eq] at h
    have ha : a = 0 := by omega
    subst ha
    have : b = l.length := by omega
    subst this
    simp
  · have := StrLaws.sliced_plain (mk l) hab hb'
    rw [this]
theorem mul_mk (c : Nat) {k : Int} (h : 0 ≤ k) : Txt.mul (mk [c]) k = mk (List.replicate k.toNat c) := by
  unfold Txt.mul
  split
  · have : k.toNat = 0 := by omega
    rw [this]; rfl
  · split
    · rename_i h1 h2
      have : k = 1 := by
        rcases (Bool.or_eq_true _ _).mp h2 with h2 | h2
        · simpa using h2
        · simp [Str.length] at h2
      subst this
      rfl
    · apply Str.ext'
      have : ∀ (m : Nat) (acc : Array Nat), ((List.replicate m ([c] : List Nat).toArray).foldl (· ++ ·) acc) = acc ++ (List.replicate m c).toArray := by
        intro m
        induction m with
        | zero => intro acc; simp
        | succ m ih =>
          intro acc
          rw [List.replicate_succ, List.foldl_cons, ih, List.replicate_succ]
          apply Array.ext'
          simp
      rw [this]
      simp
/-- what the pattern says -/
noncomputable def patOf (pre : List Int) (a b : Int) : List Nat := pre.map sg ++ [91] ++ (AL.drop a.toNat).take (b.toNat + 1 - a.toNat) ++ [93] ++ List.replicate (3 - pre.length) 63
noncomputable def rowD (pre : List Int) (a b : Int) : D := .list [.list (pre.map .int), .int a, .int b]
set_option maxRecDepth 20000 in
set_option maxHeartbeats 4000000 in
theorem pattern_ok {w : World} {n : Nat} {pre : List Int} {a b : Int} (hp : ∀ k ∈ pre, Dig k) (hl : pre.length ≤ 3) (ha : Dig a) (hb : Dig b) (hab : a ≤ b) : CALL w (n + 2) (.ref 135) [rowD pre a b] (.str (mk (patOf pre a b))) := by
  refine call_of (i := 24) (dV := .none) (kV := .none) (cd := .ref 134) (by decide) ["row"] (fun vs h s pm ct => ?_) rfl rfl rfl rfl (by decide) (by decide) fun L s₀ X => ?_
  · match vs, h with
    | [v], _ => exact BindsTo.of_eq rfl
  · refine ex_open (ss := _ :: _) rfl ?_
    refine ex_assign (ev_call_fn (ev_global rfl rfl) (i := 21) (dV := .none) (kV := .none) (cdv := .ref 119) (by decide) evs_nil alphabet_ok) (.inr rfl) ?_
    apply ex_ret
    · apply ev_bin
      · apply ev_bin
        · apply ev_bin
          · apply ev_bin
            · refine ev_eq (d' := .str (mk (pre.map sg))) (ev_join (ys := pre.map fun k => mk [sg k]) ev_str ?_ ?_ rfl rfl rfl rfl rfl) ?_
              · have key : (pre.map fun k => mk [sg k]).map D.str = ((pre.map D.int).filter fun _ => true).map sgD := by
                  rw [List.filter_eq_self.mpr (fun _ _ => rfl), List.map_map, List.map_map]; rfl
                rw [key]
                refine ev_comp (cl := [("signs", L + 1)]) (ds := pre.map .int) (fun _ => true) sgD (ev_item rfl (.inl rfl) (by decide) (by decide) rfl) iter_list ⟨rfl, rfl, by decide, List.forall_mem_cons.mpr ⟨⟨rfl, .inl rfl, fun h => nomatch h⟩, List.forall_mem_nil _⟩, ⟨rfl, rfl⟩, rfl, by decide⟩ (by decide) rfl ?_ rfl (fun _ _ _ => ei_nil) ?_
                · simp; unfold sizeLine; omega
                · intro C d hd _
                  obtain ⟨k, hk, rfl⟩ := List.mem_map.mp hd
                  exact ev_sign (ev_name rfl (.inr (.inl rfl))) (ev_name rfl (.inl rfl)) (hp k hk).1 (by have := (hp k hk).2; omega) (al_get (hp k hk))
              · have h1 : ((pre.map fun k => mk [sg k]).map (·.length)).sum = pre.length := by
                  rw [List.map_map]
                  clear hp hl
                  induction pre with
                  | nil => rfl
                  | cons x r ih => rw [List.map_cons, List.sum_cons, ih, List.length_cons]; simp [Str.length]; omega
                rw [h1]
                show pre.length + (pre.map fun k => mk [sg k]).length * 0 ≤ _
                omega
              · show D.str (Txt.join (mk []) _) = _
                rw [join_flat]
                congr 2
                clear hp hl
                induction pre with
                | nil => rfl
                | cons x r ih => simpa using ih
            · exact ev_str (x := mk [91])
            · apply op_cat
              rw [mk_len, mk_len]; simp; unfold sizeLine; omega
          · refine ev_eq (d' := .str (mk ((AL.drop a.toNat).take (b.toNat + 1 - a.toNat)))) (ev_slice_str (lo := some a) (hi := some (b + 1)) (ev_name rfl (.inr (.inl rfl))) ?_ ?_ ?_) ?_
            · exact ev_item rfl (.inl rfl) (by decide) (by decide) rfl
            · exact ev_bin (ev_item rfl (.inl rfl) (by decide) (by decide) rfl) ev_int op_add
            · decide +kernel
            · rw [alpha_is]
              have := slice_mk AL (a := a.toNat) (b := b.toNat + 1) (by omega) (by rw [al_len]; have := hb.2; omega)
              rw [← this]
              have e1 : ((a.toNat : Nat) : Int) = a := by have := ha.1; omega
              have e2 : ((b.toNat + 1 : Nat) : Int) = b + 1 := by have := hb.1; omega
              rw [e1, e2]
          · rw [mk_append]
            apply op_cat
            rw [mk_len, mk_len]; simp [al_len]; unfold sizeLine; omega
        · exact ev_str (x := mk [93])
        · rw [mk_append]
          apply op_cat
          rw [mk_len, mk_len]; simp [al_len]; unfold sizeLine; omega
      · apply ev_bin
        · exact ev_str (x := mk [63])
        · apply ev_bin
          · exact ev_int
          · apply ev_call_bi
            · exact ev_builtin rfl rfl rfl
            · exact evs_cons (ev_item rfl (.inl rfl) (by decide) (by decide) rfl) evs_nil
            · apply call_len_l; simp; omega
            · rfl
          · exact op_sub
        · apply op_times
          exact mulOk_of 1 3 (by decide) (by simp; omega) (by simp; omega) (by decide) (by decide)
      · rw [mk_append, List.length_map, mul_mk _ (by omega)]
        apply op_cat
        rw [mk_len, mk_len]; simp [al_len]; unfold sizeLine; omega
    · show Fl.ret _ = Fl.ret _
      have e : ((3 : Int) - (pre.length : Int)).toNat = 3 - pre.length := by omega
      rw [e, mk_append]
      rfl
end Mine
end
section
open PySem PySem.W PyProof.Rows PySem.Calls PySem.Spec
namespace Mine
noncomputable def boundApp (l : Addr) : Obj := { cls := .type "builtin_function_or_method", data := .fields #[.builtin "list.append", .ref l] }
theorem mdg_slot : Slot "method_descriptor" "__get__" "method_descriptor.__get__" :=
  .of (owner := "method_descriptor") (n := "__get__") (by rw [typeLookup_type, builtinLookup_eq_fast]; kernel_rfl) (by decide +kernel) (by decide +kernel) (by decide +kernel)
    (by first | exact .inl (by decide +kernel) | exact .inr (by decide +kernel)) (by rw [isSubtype_type]; kernel_rfl)
theorem mdg_entry : entryFor table "method_descriptor.__get__" = some Builtin.«method_descriptor.__get__» := entryFor_of_tree (by kernel_rfl)
theorem mdg_args (a b c : Value) : argsOk "method_descriptor.__get__" ⟨[a, b, c], []⟩ := by unfold argsOk; kernel_rfl
theorem app_type : typeOf (.builtin "list.append") = pure (.type "method_descriptor") := by show builtinType _ = _; rw [builtinType_eq_fast]; kernel_rfl
theorem app_get : typeLookup (.type "method_descriptor") "__get__" = pure (some (.builtin "method_descriptor.__get__")) := by rw [typeLookup_type, builtinLookup_eq_fast]; kernel_rfl
theorem app_look : typeLookup (.type "list") "append" = pure (some (.builtin "list.append")) := by rw [typeLookup_type, builtinLookup_eq_fast]; kernel_rfl
theorem app_set : typeLookup (.type "method_descriptor") "__set__" = pure none := by rw [typeLookup_type, builtinLookup_eq_fast]; kernel_rfl
theorem app_del : typeLookup (.type "method_descriptor") "__delete__" = pure none := by rw [typeLookup_type, builtinLookup_eq_fast]; kernel_rfl

theorem mdi : Manifest.toldItsClass.contains "list.append" = true ∨ Manifest.toldItsClass.contains "list.append" = false := by cases Manifest.toldItsClass.contains "list.append" <;> simp
theorem sub_list_list : isSubtype (.type "list") (.type "list") = pure true := by rw [isSubtype_type]; kernel_rfl
theorem app_inst : isType (.type "list") = pure true := by first | rfl | kernel_rfl | (unfold isType; rw [isSubtype_type]; kernel_rfl)
theorem run_mdg {prog : Program} {w : World} {A : Around} {E : Value → Shared → Prop} {hp g d tk os} {a : Addr} {xs : Array Value} {k : Nat} {sl : Array (Option Value)} {P : Fin → Shared → Prop} (hx : hp.get? a = some { cls := .type "list", dict := none, data := .seq xs k, slots := sl }) (h : ∀ tk, P (.done (.ret (.ref hp.objs.size))) ⟨hp.push (boundApp a), g, d, tk, os⟩) :
    wpAny (model prog w) A (Builtin.«method_descriptor.__get__» ⟨[.builtin "list.append", .ref a, .type "list"], []⟩) P E ⟨hp, g, d, tk, os⟩ := by
  have hT : ∀ tk', (⟨hp, g, d, tk', os⟩ : Shared).TypeIs (.ref a) "list" := fun _ => ⟨_, hx, rfl⟩
  have f1 := sub_list_list
  have f2 := app_inst
  unfold Builtin.«method_descriptor.__get__»
  have e1 : ".".intercalate ("list.append".cutAt '.').dropLast = "list" := by decide +kernel
  repeat (any_goals (first | assumption | exact hT _ | exact h _ | wp_step))
  rw [e1]
  refine wpAny_of_eq f1 ?_
  repeat (any_goals (first | assumption | exact hT _ | exact h _ | wp_step))
theorem meets_append (a : Addr) (xs : Array Value) (k : Nat) (sl : Array (Option Value)) (u : Tok) :
    Meets (Builtin.«object.__getattribute__» ⟨[.ref a, .str "append" u], []⟩) (fun A R s => s.heap.get? a = some { cls := .type "list", dict := none, data := .seq xs k, slots := sl } ∧ ∀ tk, R (.ok (.ret (.ref s.heap.objs.size))) { s with heap := s.heap.push (boundApp a), toks := tk }) :=
  Meets.of_wp fun prog w A R s hs => by
    obtain ⟨hp, g, d, tk, os⟩ := s
    obtain ⟨hx, hs⟩ := hs
    have hT : ∀ tk', (⟨hp, g, d, tk', os⟩ : Shared).TypeIs (.ref a) "list" := fun _ => ⟨_, hx, rfl⟩
    have f1 := app_look
    have f2 := app_type
    have f3 := app_get
    have f4 := app_set
    have f5 := app_del
    unfold Builtin.«object.__getattribute__»
    repeat (any_goals (first | assumption | exact hT _ | ((with_reducible show wpAny _ _ (call (Value.builtin "method_descriptor.__get__") _ _) _ _ _); refine wpAny_call_entry mdg_slot f2 mdg_entry (run_mdg hx fun tk => ⟨_, rfl, ?_⟩) (mdg_args _ _ _)) | wp_step))
    exact ⟨_, rfl, hs _⟩
theorem getAttr_append {prog : Program} {w : World} {A : Around} {E : Value → Shared → Prop} {s : Shared} {a : Addr} {xs : Array Value} {k : Nat} {sl : Array (Option Value)} {Q : Value → Shared → Prop}
    (hx : s.heap.get? a = some { cls := .type "list", dict := none, data := .seq xs k, slots := sl }) (h : ∀ tk, Q (.ref s.heap.objs.size) { s with heap := s.heap.push (boundApp a), toks := tk }) :
    wpAny (model prog w) A (getAttr (.ref a) "append" true) Q E s := by
  obtain ⟨hp, g, d, tk, os⟩ := s
  have hT : ∀ tk', (⟨hp, g, d, tk', os⟩ : Shared).TypeIs (.ref a) "list" := fun _ => ⟨_, hx, rfl⟩
  have f3 := F.slot_list_getattribute.lookup
  have f4 := F.slot_list_getattribute.bind (.ref a)
  have f5 := am_list_getattr_none
  unfold getAttr getAttrBy
  repeat (any_goals (first | assumption | exact hT _ | ((with_reducible show wpAny _ _ (call (Value.builtin "list.__getattribute__") _ _) _ _ _); refine call_meets F.slot_list_getattribute (hT _) am_entry_list_getattribute (F.args_list_getattribute_2 _ _) (meets_append a xs k sl _) ⟨hx, fun tk' => ?_⟩) | wp_step))
  exact wpAny_pure (h _)
end Mine
end
section
open PySem PySem.W PyProof.Rows PySem.Calls PySem.Spec
namespace Mine
section
variable {w : World} {n : Nat} {c : Cx} {ρ : Rho} {Φ : Fl → Rho → Prop}

/-- items, and what they hold -/
theorem rds_two {X : XS} {h : Heap} {vs : List Value} {a b : D} (r : Rds X h vs [a, b]) : ∃ u v, vs = [u, v] ∧ Rd X h u a ∧ Rd X h v b := by
  cases r with
  | cons r1 r => cases r with
    | cons r2 r => cases r with
      | nil => exact ⟨_, _, rfl, r1, r2⟩
theorem rds_three {X : XS} {h : Heap} {vs : List Value} {a b d : D} (r : Rds X h vs [a, b, d]) : ∃ u v z, vs = [u, v, z] ∧ Rd X h u a ∧ Rd X h v b ∧ Rd X h z d := by
  cases r with
  | cons r1 r => cases r with
    | cons r2 r => cases r with
      | cons r3 r => cases r with
        | nil => exact ⟨_, _, _, rfl, r1, r2, r3⟩

theorem go_ext {s : Shared} {h' : Heap} (x : Heap.ExtBut s.heap.objs.size s.heap h') (t : Nat) : Go s { s with heap := h', toks := t } :=
  ⟨rfl, rfl, rfl, .of_keep fun b o e => x b o (fun z => by rw [z, get_size] at e; cases e) e⟩

theorem store_lk {s s' : Shared} {x : Str} {a : Addr} {X : XS} (I : IX c ρ s) (ha : a = c.env.locals ∨ (c.env.kindOf x = some .cell ∧ c.env.cells.lookup x = some a)) (k : ∀ b o, b ≠ a → s.heap.get? b = some o → s'.heap.get? b = some o) : LK X s.heap s'.heap := by
  have nt : NoTy s.heap a := by
    rcases ha with rfl | ⟨_, ha⟩
    · obtain ⟨m, hm, _⟩ := I.ie.fm.loc
      exact ns_no_list hm
    · obtain ⟨v, hv⟩ := I.ie.fm.cex x a ha
      exact cell_no_list hv
  exact fun b o _ q e => k b o (fun z => nt o (z ▸ e) q) e

theorem es_tup2 {x y : Str} {px py tp vp p : Pos} {k1 k2 : Nat} {es : List PySem.Expr} {a b : D} (h : EVs w n c.env ρ vp es [a, b]) (kx : c.env.kindOf x = some .local ∨ c.env.kindOf x = some .cell) (ky : c.env.kindOf y = some .local ∨ c.env.kindOf y = some .cell)
    (hw : swappedStores [.Tuple [.Name x px, .Name y py] k1 tp] (.Tuple es k2 vp) c.env = pure (some [x, y])) (q : Φ .next (put x a (put y b ρ)))
    (hs : swapsWithSole [.Tuple [.Name x px, .Name y py] k1 tp] (.Tuple es k2 vp) p.line c.env = pure false := by rfl)
    (ox : c.own x = true := by rfl) (oy : c.own y = true := by rfl) : ES w n c ρ (.Assign [.Tuple [.Name x px, .Name y py] k1 tp] (.Tuple es k2 vp) p) Φ := by
  refine ⟨?_⟩
  intro A s g I
  refine Assign_Tuple_swapped (names := [x, y]) ?_ hs hw
  refine wpAny_Tuple_spliced (h.run c.cur A s _ _ g I.ie fun vs s₁ g₁ r₁ => ⟨by rw [r₁.length]; show 2 ≤ _; decide, ?_⟩)
  have I₁ := I.mono g₁
  obtain ⟨u, v, rfl, ru, rv⟩ := rds_two r₁
  have g₂ := Go.push s₁ { cls := .type "tuple", data := .seq [u, v].toArray } s₁.toks
  have I₂ := I₁.mono g₂
  refine unpackItems_tuple (items := [u, v].toArray) g.handled ⟨_, Heap.get?_push_size _ rfl, rfl, _, rfl⟩ fun h' he => ?_
  have g₃ := go_ext he s₁.toks
  have I₃ := I₂.mono g₃
  have ru' := g₃.rd I₂.ie.sta (g₂.rd I₁.ie.sta ru)
  have rv' := g₃.rd I₂.ie.sta (g₂.rd I₁.ie.sta rv)
  show wpAny _ _ (assignInOrder [fun v => bindName c.env y v, fun v => bindName c.env x v] [v, u]) _ _ _
  refine wpAny_assignInOrder_more (wpAny_bindName (ix_store I₃ ky oy rv' fun s₄ a₄ I₄ ha k₄ => ?_))
  refine wpAny_assignInOrder_more (wpAny_bindName (ix_store I₄ kx ox ?_ fun s₅ _ I₅ _ _ => wpAny_assignInOrder_none ⟨_, I₅, q⟩))
  exact ru'.mono (store_lk I₃ ha k₄)

theorem es_tup3 {x y z : Str} {px py pz tp vp p : Pos} {k1 k2 : Nat} {es : List PySem.Expr} {a b d : D} (h : EVs w n c.env ρ vp es [a, b, d]) (kx : c.env.kindOf x = some .local ∨ c.env.kindOf x = some .cell) (ky : c.env.kindOf y = some .local ∨ c.env.kindOf y = some .cell) (kz : c.env.kindOf z = some .local ∨ c.env.kindOf z = some .cell)
    (hw : swappedStores [.Tuple [.Name x px, .Name y py, .Name z pz] k1 tp] (.Tuple es k2 vp) c.env = pure (some [x, y, z])) (q : Φ .next (put x a (put y b (put z d ρ))))
    (hs : swapsWithSole [.Tuple [.Name x px, .Name y py, .Name z pz] k1 tp] (.Tuple es k2 vp) p.line c.env = pure false := by rfl)
    (ox : c.own x = true := by rfl) (oy : c.own y = true := by rfl) (oz : c.own z = true := by rfl) : ES w n c ρ (.Assign [.Tuple [.Name x px, .Name y py, .Name z pz] k1 tp] (.Tuple es k2 vp) p) Φ := by
  refine ⟨?_⟩
  intro A s g I
  refine Assign_Tuple_swapped (names := [x, y, z]) ?_ hs hw
  refine wpAny_Tuple_spliced (h.run c.cur A s _ _ g I.ie fun vs s₁ g₁ r₁ => ⟨by rw [r₁.length]; show 3 ≤ _; decide, ?_⟩)
  have I₁ := I.mono g₁
  obtain ⟨u, v, t, rfl, ru, rv, rt⟩ := rds_three r₁
  have g₂ := Go.push s₁ { cls := .type "tuple", data := .seq [u, v, t].toArray } s₁.toks
  have I₂ := I₁.mono g₂
  refine unpackItems_tuple (items := [u, v, t].toArray) g.handled ⟨_, Heap.get?_push_size _ rfl, rfl, _, rfl⟩ fun h' he => ?_
  have g₃ := go_ext he s₁.toks
  have I₃ := I₂.mono g₃
  have ru' := g₃.rd I₂.ie.sta (g₂.rd I₁.ie.sta ru)
  have rv' := g₃.rd I₂.ie.sta (g₂.rd I₁.ie.sta rv)
  have rt' := g₃.rd I₂.ie.sta (g₂.rd I₁.ie.sta rt)
  show wpAny _ _ (assignInOrder [fun v => bindName c.env z v, fun v => bindName c.env y v, fun v => bindName c.env x v] [t, v, u]) _ _ _
  refine wpAny_assignInOrder_more (wpAny_bindName (ix_store I₃ kz oz rt' fun s₄ a₄ I₄ ha k₄ => ?_))
  have lk := store_lk (X := c.cur) I₃ ha k₄
  refine wpAny_assignInOrder_more (wpAny_bindName (ix_store I₄ ky oy (rv'.mono lk) fun s₅ _ I₅ ha₅ k₅ => ?_))
  have lk2 := store_lk (X := c.cur) I₄ ha₅ k₅
  exact wpAny_assignInOrder_more (wpAny_bindName (ix_store I₅ kx ox ((ru'.mono lk).mono lk2) fun s₆ _ I₆ _ _ => wpAny_assignInOrder_none ⟨_, I₆, q⟩))
theorem ex_tup2 {x y : Str} {px py tp vp p : Pos} {k1 k2 : Nat} {es : List PySem.Expr} {a b : D} {rest : List Stmt} (h : EVs w n c.env ρ vp es [a, b]) (kx : c.env.kindOf x = some .local ∨ c.env.kindOf x = some .cell) (ky : c.env.kindOf y = some .local ∨ c.env.kindOf y = some .cell)
    (hw : swappedStores [.Tuple [.Name x px, .Name y py] k1 tp] (.Tuple es k2 vp) c.env = pure (some [x, y])) (q : EX w n c (put x a (put y b ρ)) rest Φ)
    (hs : swapsWithSole [.Tuple [.Name x px, .Name y py] k1 tp] (.Tuple es k2 vp) p.line c.env = pure false := by rfl)
    (ox : c.own x = true := by rfl) (oy : c.own y = true := by rfl) : EX w n c ρ (.Assign [.Tuple [.Name x px, .Name y py] k1 tp] (.Tuple es k2 vp) p :: rest) Φ := ex_cons (es_tup2 h kx ky hw q hs ox oy)
theorem ex_tup3 {x y z : Str} {px py pz tp vp p : Pos} {k1 k2 : Nat} {es : List PySem.Expr} {a b d : D} {rest : List Stmt} (h : EVs w n c.env ρ vp es [a, b, d]) (kx : c.env.kindOf x = some .local ∨ c.env.kindOf x = some .cell) (ky : c.env.kindOf y = some .local ∨ c.env.kindOf y = some .cell) (kz : c.env.kindOf z = some .local ∨ c.env.kindOf z = some .cell)
    (hw : swappedStores [.Tuple [.Name x px, .Name y py, .Name z pz] k1 tp] (.Tuple es k2 vp) c.env = pure (some [x, y, z])) (q : EX w n c (put x a (put y b (put z d ρ))) rest Φ)
    (hs : swapsWithSole [.Tuple [.Name x px, .Name y py, .Name z pz] k1 tp] (.Tuple es k2 vp) p.line c.env = pure false := by rfl)
    (ox : c.own x = true := by rfl) (oy : c.own y = true := by rfl) (oz : c.own z = true := by rfl) : EX w n c ρ (.Assign [.Tuple [.Name x px, .Name y py, .Name z pz] k1 tp] (.Tuple es k2 vp) p :: rest) Φ := ex_cons (es_tup3 h kx ky kz hw q hs ox oy oz)

theorem ix_hold {ho : List (Addr × Obj)} {s : Shared} (I : IX c ρ s) (k : ∀ p ∈ ho, s.heap.get? p.1 = some p.2 ∧ Keepable p.2 ∧ p.1 ≠ PT ∧ ∀ q ∈ c.grow, q.2 ≠ p.1) : IX { c with hold := ho } ρ s :=
  ⟨I.ie, I.go, I.st0, I.lo, I.ce, I.inj, I.mu, I.mn, k⟩
theorem exists_hold {h : Heap} : ∀ {fp : List Addr}, (∀ b ∈ fp, ∃ o, h.get? b = some o ∧ Keepable o) → ∃ ho : List (Addr × Obj), (∀ b ∈ fp, ∃ o, (b, o) ∈ ho) ∧ ∀ p ∈ ho, p.1 ∈ fp ∧ h.get? p.1 = some p.2 ∧ Keepable p.2
  | [], _ => ⟨[], fun _ h => (nomatch h), fun _ h => (nomatch h)⟩
  | b :: r, k => by
    obtain ⟨o, e, q⟩ := k b (.head _)
    obtain ⟨ho, h1, h2⟩ := exists_hold (fp := r) fun b hb => k b (.tail _ hb)
    refine ⟨(b, o) :: ho, fun b' hb => ?_, fun p hp => ?_⟩
    · rcases List.mem_cons.mp hb with rfl | hb
      · exact ⟨o, .head _⟩
      · obtain ⟨o', x⟩ := h1 b' hb
        exact ⟨o', .tail _ x⟩
    · rcases List.mem_cons.mp hp with rfl | hp
      · exact ⟨.head _, e, q⟩
      · obtain ⟨x, y⟩ := h2 p hp
        exact ⟨.tail _ x, y⟩
/-- more that may turn -/
theorem ix_wide {wr : List Addr} {s : Shared} (I : IX c ρ s) (hn : ∀ b ∈ wr, s.heap.get? b = none) {s' : Shared} (g : Go s s') (low : ∀ b ∈ wr, b ≠ PT ∧ ∃ o, s'.heap.get? b = some o) : IX { c with X := fun b => c.X b ∨ b ∈ wr } ρ s' := by
  have cur : ∀ a, (∃ o, s.heap.get? a = some o) → Cx.cur { c with X := fun b => c.X b ∨ b ∈ wr } a → c.cur a := fun a ⟨o, e⟩ y => by
    rcases y with (y | y) | y
    · exact .inl y
    · rw [hn a y] at e; cases e
    · exact .inr y
  have lk : LK (Cx.cur { c with X := fun b => c.X b ∨ b ∈ wr }) s.heap s'.heap := g.ext.lk I.ie.sta.tab
  have up : ∀ {v d}, Rd c.cur s.heap v d → Rd (Cx.cur { c with X := fun b => c.X b ∨ b ∈ wr }) s'.heap v d := fun r => (r.less cur).mono lk
  have I' := I.mono g
  refine ⟨⟨I.ie.ok, I'.ie.sta.less fun b y => ?_, ⟨?_, fun y e he hk => ?_, I'.ie.fm.cex⟩⟩, I'.go, I.st0, I.lo, I'.ce, I.inj, fun p hp => ?_, I.mn, I'.ke⟩
  · rcases y with (y | y) | y
    · exact I'.ie.sta.low b (.inl y)
    · exact low b y
    · exact I'.ie.sta.low b (.inr y)
  · obtain ⟨m, hm, hl⟩ := I.ie.fm.loc
    exact ⟨m, g.ext.ns I.ie.sta.tab hm, fun y e he hk => let ⟨v, a, b⟩ := hl y e he hk; ⟨v, a, up b⟩⟩
  · obtain ⟨cc, v, a, b, r⟩ := I.ie.fm.cel y e he hk
    exact ⟨cc, v, a, g.ext.cell I.ie.sta.tab b, up r⟩
  · obtain ⟨a, b, vs, ds, e, f, r⟩ := I.mu p hp
    exact ⟨a, b, vs, ds, e, mut_list (X := c.X) g.ext I.ie.sta.tab f, r.less cur |>.mono lk⟩
/-- and back -/
theorem ix_back {wr : List Addr} {s : Shared} {h' : Heap} {tk : Nat} (I : IX { c with X := fun b => c.X b ∨ b ∈ wr } ρ s) (h0 : ∀ b ∈ wr, c.s₀.heap.get? b = none) (hx : ∀ b ∈ wr, ¬ c.cur b) (hl : c.env.locals ∉ wr) (hc : ∀ y k, c.env.cells.lookup y = some k → k ∉ wr) (hh : ∀ p ∈ c.hold, p.1 ∉ wr)
    (hs : ∀ b o, b ∉ wr → s.heap.get? b = some o → h'.get? b = some o) : IX c ρ { s with heap := h', toks := tk } := by
  have lk : LK (Cx.cur { c with X := fun b => c.X b ∨ b ∈ wr }) s.heap h' := LK.of_keep fun b o n e => hs b o (fun z => n (.inl (.inr z))) e
  have cur : ∀ a, c.cur a → Cx.cur { c with X := fun b => c.X b ∨ b ∈ wr } a := fun a y => by
    rcases y with y | y
    · exact .inl (.inl y)
    · exact .inr y
  have dn : ∀ {v d}, Rd (Cx.cur { c with X := fun b => c.X b ∨ b ∈ wr }) s.heap v d → Rd c.cur h' v d := fun r => (r.mono lk).less fun a _ y => cur a y
  have G : Go c.s₀ { s with heap := h', toks := tk } := go_but I.go I.st0 h0 rfl rfl rfl hs
  refine ⟨⟨I.ie.ok, sta_same G I.st0 (fun b y => ?_), ⟨?_, fun y e he hk => ?_, fun y k e => let ⟨v, o, a, b⟩ := I.ie.fm.cex y k e; ⟨v, o, hs _ _ (hc _ _ e) a, b⟩⟩⟩, G, I.st0, I.lo, fun y hk how => ?_, I.inj, fun p hp => ?_, I.mn, fun p hp => let ⟨b1, b2⟩ := I.ke p hp; ⟨hs _ _ (hh p hp) b1, b2⟩⟩
  · obtain ⟨n, o, e⟩ := I.ie.sta.low b (cur b y)
    exact ⟨n, o, hs b o (fun z => hx b z y) e⟩
  · obtain ⟨m, ⟨o, es, ep, e, r⟩, hl'⟩ := I.ie.fm.loc
    refine ⟨m, ⟨o, es, ep, hs _ _ hl e, r⟩, fun y e he hk => ?_⟩
    obtain ⟨v', b1, b2⟩ := hl' y e he hk
    exact ⟨v', b1, dn b2⟩
  · obtain ⟨cc, v', b1, ⟨o, b2, b2'⟩, b3⟩ := I.ie.fm.cel y e he hk
    exact ⟨cc, v', b1, ⟨o, hs _ _ (hc _ _ b1) b2, b2'⟩, dn b3⟩
  · obtain ⟨b, v', e1, ⟨o, b2, b2'⟩, l⟩ := I.ce y hk how
    exact ⟨b, v', e1, ⟨o, hs _ _ (hc _ _ e1) b2, b2'⟩, l⟩
  · obtain ⟨n1, n2, us, es, f1, ⟨o, k, g1, g2, g4, g3⟩, f3⟩ := I.mu p hp
    exact ⟨n1, n2, us, es, f1, ⟨o, k, hs _ _ (fun z => hx _ z (.inr ⟨p, hp, rfl⟩)) g1, g2, g4, g3⟩, (f3.mono lk).less fun a _ y => cur a y⟩

noncomputable def Flat : D → Prop
  | .none | .bool _ | .int _ | .str _ | .bytes _ => True
  | _ => False
theorem Flat.rd {d : D} (f : Flat d) {X Y : XS} {h h' : Heap} {v : Value} (r : Rd X h v d) : Rd Y h' v d := by
  cases r <;> first | exact f.elim | constructor
/-- a walk -/
theorem es_for {x : Str} {px p : Pos} {iter : PySem.Expr} {body : List Stmt} {src : D} {ds : List D} (hsrc : EV w n c.env ρ iter src) (hit : ITER w n src ds) (k : c.env.kindOf x = some .local ∨ c.env.kindOf x = some .cell) (hflat : ∀ d ∈ ds, Flat d) (J : Nat → Rho → Prop) (j0 : J 0 ρ)
    (turn : ∀ i d (X' : XS) hold ρ', ds[i]? = some d → J i ρ' → EX w n { c with X := X', hold := hold } (put x d ρ') body (fun f ρ'' => match f with
        | .next | .cont => J (i + 1) ρ''
        | .brk => Φ .next ρ''
        | .ret d => Φ (.ret d) ρ''))
    (fin : ∀ ρ', J ds.length ρ' → Φ .next ρ') (ow : c.own x = true := by rfl) (hf : ∀ v, foldedSetIterable iter c.env v = pure v := by intro _; rfl) : ES w n c ρ (.For (.Name x px) iter body [] p) Φ := by
  refine ⟨?_⟩
  intro A s g I
  refine wpAny_For (hsrc.run c.cur A s _ _ g I.ie fun v s₁ g₁ r₁ => ?_) hf
  have I₁ := I.mono g₁
  refine hit.run c.cur A s₁ _ _ v g I₁.ie.sta r₁ fun It s₂ fp wr P St g₂ W st hfp hwr hst hnx hkp hP => ?_
  have I₂ := I₁.mono g₂
  have ptn : ∀ b ∈ wr, b ≠ PT := fun b hb => (hfp b (W.sub b hb)).1
  have w0 : ∀ b ∈ wr, c.s₀.heap.get? b = none := fun b hb => by
    cases e : c.s₀.heap.get? b with
    | none => rfl
    | some o =>
      have := I₁.go.ext.keep b o (ptn b hb) e
      rw [hwr b hb] at this
      cases this
  let c' : Cx := { c with X := fun b => c.X b ∨ b ∈ wr }
  have Iw : IX c' ρ s₂ := ix_wide I₁ hwr g₂ fun b hb => ⟨ptn b hb, (hfp b (W.sub b hb)).2⟩
  have nloc : ∀ {ρ' s'}, IX c' ρ' s' → (∀ b ∈ fp, ∃ o, s'.heap.get? b = some o ∧ Keepable o) → (c.env.locals ∉ fp) ∧ ∀ y k, c.env.cells.lookup y = some k → k ∉ fp := fun I' kp => by
    refine ⟨fun z => ?_, fun y k e z => ?_⟩
    · obtain ⟨o, e, q⟩ := kp _ z
      obtain ⟨m, hm, _⟩ := I'.ie.fm.loc
      exact ns_no_list hm o e q
    · obtain ⟨o, e', q⟩ := kp _ z
      obtain ⟨v, hv⟩ := I'.ie.fm.cex y k e
      exact cell_no_list hv o e' q
  obtain ⟨nl, nc⟩ := nloc Iw (hkp 0 _ st)
  have hw0 : ∀ p ∈ c.hold, p.1 ∉ wr := fun p hp z => by
    have := (I₁.ke p hp).1
    rw [hwr _ z] at this
    cases this
  have back : ∀ {ρ' s' h' tk}, IX c' ρ' s' → (∀ b o, b ∉ wr → s'.heap.get? b = some o → h'.get? b = some o) → IX c ρ' { s' with heap := h', toks := tk } := fun I' hs =>
    ix_back I' w0 (fun b hb => hnx b (W.sub b hb)) (fun z => nl (W.sub _ z)) (fun y k e z => nc y k e (W.sub _ z)) hw0 hs
  let JJ : Nat → Shared → Prop := fun m s' => ∃ i ρ', i + m = ds.length ∧ IX c' ρ' s' ∧ St i s'.heap ∧ J i ρ'
  refine codeAny_forLoop_any JJ (fun m s' hJ => ?_) ds.length ⟨0, ρ, by omega, Iw, st, j0⟩
  obtain ⟨i, ρ', hi, I', st', hj⟩ := hJ
  by_cases hlt : i < ds.length
  · refine W.item i s' _ _ hlt st' fun v h' tk pv st₂ hs => ?_
    have hd : ds[i]? = some ds[i] := by simp [hlt]
    have I₃ : IX c' ρ' { s' with heap := h', toks := tk } := ix_wr I' (fun b hb => .inr hb) w0 (fun z => nl (W.sub _ z)) (fun y k e z => nc y k e (W.sub _ z)) (fun p hp z => hnx _ (W.sub _ z) (.inr ⟨p, hp, rfl⟩)) hw0 (hst _ _ st₂) hs
    have rv : Rd c'.cur h' v ds[i] := by
      exact (hflat _ (List.getElem_mem hlt)).rd (hP i v _ hd pv)
    refine wpAny_of_eq (show letOwnedTupleGo (.Name x px) (.ref It) v = pure () from rfl) ?_
    refine wpAny_assign_Name ?_
    refine ix_store (c := c') I₃ k ow rv fun s₄ a I₄ ha k₄ => ?_
    have kp₂ := hkp _ _ st₂
    have na : a ∉ fp := by
      obtain ⟨z1, z2⟩ := nloc I₃ kp₂
      rcases ha with rfl | ⟨_, ha⟩
      · exact z1
      · exact z2 _ _ ha
    have st₄ : St (i + 1) s₄.heap := W.frame _ _ _ st₂ fun b hb o e => k₄ b o (fun z => na (z ▸ hb)) e
    obtain ⟨ho, h1, h2⟩ := exists_hold (hkp _ _ st₄)
    have I₅ : IX { c' with hold := ho ++ c.hold } (put x ds[i] ρ') s₄ := ix_hold (c := c') I₄ fun p hp => by
      rcases List.mem_append.mp hp with hp | hp
      · obtain ⟨z1, z2, z3⟩ := h2 p hp
        exact ⟨z2, z3, (hfp _ z1).1, fun q hq e => hnx _ z1 (.inr ⟨q, hq, e⟩)⟩
      · exact I₄.ke p hp
    refine wpAny_mono ((turn i ds[i] _ (ho ++ c.hold) ρ' hd hj).run A s₄ g I₅) (fun fl s₆ z => ?_) fun _ _ e => e.elim
    have fin' : ∀ {ρ''}, IX { c' with hold := ho ++ c.hold } ρ'' s₆ → IX c' ρ'' s₆ ∧ St (i + 1) s₆.heap := fun I₆ => by
      refine ⟨ix_hold (c := { c' with hold := ho ++ c.hold }) (ho := c.hold) I₆ fun p hp => I₆.ke p (List.mem_append_right _ hp), W.frame _ _ _ st₄ fun b hb o e => ?_⟩
      obtain ⟨o', hm⟩ := h1 b hb
      have e1 := (h2 _ hm).2.1
      have e2 := (I₆.ke _ (List.mem_append_left _ hm)).1
      rw [e] at e1
      cases e1
      exact e2
    match fl, z with
    | .next, ⟨ρ'', I₆, j⟩ => exact ⟨ds.length - (i + 1), by omega, i + 1, ρ'', by omega, (fin' I₆).1, (fin' I₆).2, j⟩
    | .cont, ⟨ρ'', I₆, j⟩ => exact ⟨ds.length - (i + 1), by omega, i + 1, ρ'', by omega, (fin' I₆).1, (fin' I₆).2, j⟩
    | .brk, ⟨ρ'', I₆, j⟩ => exact ⟨ρ'', back (tk := s₆.toks) (fin' I₆).1 (fun _ _ _ e => e), j⟩
    | .ret v, ⟨d, ρ'', r, go, j⟩ => exact ⟨d, ρ'', r.less fun _ _ y => .inl y, go, j⟩
  · have hn : i = ds.length := by omega
    subst hn
    refine W.done s' _ _ st' fun h' tk hs => ?_
    exact wpAny_execs_nil ⟨ρ', back I' hs, fin ρ' hj⟩
end
end Mine
end
section
open PySem PySem.W PyProof.Rows PySem.Calls PySem.Spec
namespace Mine
theorem none_back {s s₁ : Shared} {C : Addr} (g : Go s s₁) (t : TabOk s.heap) (h : s₁.heap.get? C = none) : s.heap.get? C = none := by
  cases e : s.heap.get? C with
  | none => rfl
  | some o =>
    by_cases hc : C = PT
    · subst hc
      obtain ⟨ps, e', _⟩ := g.ext.tab t
      rw [h] at e'; cases e'
    · rw [g.ext.keep C o hc e] at h; cases h
/-- a namespace of nobody here turns -/
theorem ix_other {c : Cx} {ρ : Rho} {s : Shared} {h' : Heap} {C : Addr} {m : Str → Option Value} (I : IX c ρ s) (hn : s.heap.Ns C m) (hl : C ≠ c.env.locals) (h0 : c.s₀.heap.get? C = none) (hx : ¬ c.cur C) (hs : Heap.SameBut C s.heap h') : IX c ρ { s with heap := h' } := by
  have nt : NoTy s.heap C := ns_no_list hn
  have lk : LK c.cur s.heap h' := LK.of_same hs nt
  have G : Go c.s₀ { s with heap := h' } := go_same (tk := s.toks) I.go I.st0 h0 hs
  have cs : ∀ b v, s.heap.IsCell b v → h'.IsCell b v := fun b v x => by
    have nb : b ≠ C := by
      rintro rfl
      exact ns_no_cell hn x
    obtain ⟨o, e, dd⟩ := x
    exact ⟨o, (hs.2 b nb).trans e, dd⟩
  refine ⟨⟨I.ie.ok, sta_same G I.st0 (low_same I.ie.sta hs (fun y => absurd y hx)), ⟨?_, fun y e he hk => ?_, fun y k e => let ⟨v, a⟩ := I.ie.fm.cex y k e; ⟨v, cs _ _ a⟩⟩⟩, G, I.st0, I.lo, fun y hk how => ?_, I.inj, fun p hp => ?_, I.mn, fun p hp => ?_⟩
  · obtain ⟨m', hm, hl'⟩ := I.ie.fm.loc
    refine ⟨m', hm.sameBut hs (Ne.symm hl), fun y e he hk => ?_⟩
    obtain ⟨v', a, b⟩ := hl' y e he hk
    exact ⟨v', a, b.mono lk⟩
  · obtain ⟨cc, v', a, b, r⟩ := I.ie.fm.cel y e he hk
    exact ⟨cc, v', a, cs _ _ b, r.mono lk⟩
  · obtain ⟨b, v', e1, e2, l⟩ := I.ce y hk how
    exact ⟨b, v', e1, cs _ _ e2, l⟩
  · obtain ⟨n1, n2, us, es, f1, ⟨o, k, g1, g2, g4, g3⟩, f3⟩ := I.mu p hp
    have nb : p.2 ≠ C := fun z => nt o (z ▸ g1) (.inl ⟨g2, _, _, g3⟩)
    exact ⟨n1, n2, us, es, f1, ⟨o, k, (hs.2 _ nb).trans g1, g2, g4, g3⟩, f3.mono lk⟩
  · obtain ⟨a1, a2, a3⟩ := I.ke p hp
    have nb : p.1 ≠ C := fun z => nt p.2 (z ▸ a1) a2
    exact ⟨(hs.2 _ nb).trans a1, a2, a3⟩
/-- from the first turn to the end, whatever comes behind -/
theorem comp_runR {w : World} {n : Nat} {X : XS} {A : Around} {s₁ : Shared} {c : Cx} {elt iter : PySem.Expr} {x : Str} {px pos : Pos} {ifs : List PySem.Expr} {sc : Scope} {I D₀ C : Addr} {fp wr : List Addr} {P : Nat → Value → Prop} {St : Nat → Heap → Prop} {ds : List D}
    {R : Result → Shared → Prop} {o : Str → Bool} (f : D → Bool) (g : D → D) (ga : GA n A) (S₁ : Sta X s₁.heap) (W : Walks PW w A I fp wr ds.length P St) (ec : c = { env := c.env, s₀ := s₁, X := fun b => X b ∨ b ∈ wr, grow := [(accN, D₀)], own := o }) (hC : c.env.locals = C)
    (h0 : ∀ b ∈ wr, s₁.heap.get? b = none) (hDs : s₁.heap.get? D₀ = none) (hl : C ∉ fp) (hc : ∀ y k, c.env.cells.lookup y = some k → k ∉ wr) (hown : ∀ k, c.env.kindOf x = some .cell → c.env.cells.lookup x = some k → k ∉ fp) (hD : D₀ ∉ fp) (hpt : ∀ b ∈ fp, b ≠ PT)
    (hst : ∀ i h, St i h → ∀ b ∈ wr, ∃ o, h.get? b = some o) (hP : ∀ i v d, ds[i]? = some d → P i v → Rd X s₁.heap v d) {ρ' : Rho}
    (k : c.env.kindOf x = some .local ∨ c.env.kindOf x = some .cell) (ow : o x = true) (hxa : x ≠ accN) (hra : ρ'.lookup accN = none) (hrx : ρ'.lookup x = none) (hlen : ds.length ≤ sizeLine)
    (tests : ∀ d ∈ ds, EI w n c.env (put x d ρ') ifs (f d)) (body : ∀ d ∈ ds, f d = true → EV w n c.env (put x d ρ') elt (g d))
    (fin : ∀ s', Go s₁ s' → (∃ m, s'.heap.Ns C m) → Rd X s'.heap (.ref D₀) (.list ((ds.filter f).map g)) → R (.ok .next) s') (s₃ : Shared) (IX₀ : IX c (put accN (.list []) ρ') s₃) (st : St 0 s₃.heap) :
    ∀ (nt : ∀ (loop : ∀ (s : Shared), IX c (put accN (.list []) ρ') s → St 0 s.heap → codeAny (model PW w) A (.compLoop (.ListComp elt [⟨.Name x px, iter, ifs, 0⟩] sc pos) 0 (.ref I) (.ref D₀) c.env) R s), codeAny (model PW w) A (.compStart (.ListComp elt [⟨.Name x px, iter, ifs, 0⟩] sc pos) 0 (.ref I) (.ref D₀) c.env) R s₃),
    codeAny (model PW w) A (.compStart (.ListComp elt [⟨.Name x px, iter, ifs, 0⟩] sc pos) 0 (.ref I) (.ref D₀) c.env) R s₃ := by
  intro nt
  have e0 : c.s₀ = s₁ := by rw [ec]
  have eX : ∀ b, c.X b ↔ (X b ∨ b ∈ wr) := fun b => by rw [ec]
  have eg : c.grow = [(accN, D₀)] := by rw [ec]
  have eo : c.own = o := by rw [ec]
  have ecur : c.cur = Cx.cur { env := c.env, s₀ := s₁, X := fun b => X b ∨ b ∈ wr, grow := [(accN, D₀)], own := o } := congrArg Cx.cur ec
  refine nt (comp_core (w := w) (n := n) (A := A) (c := c) (ρ := ρ') (elt := elt) (iter := iter) (x := x) (px := px) (pos := pos) (ifs := ifs) (sc := sc) (I := I) (D₀ := D₀) (fp := fp) (wr := wr) (P := P) (St := St) (ds := ds)
    (R := R) f g ga W eg (by rw [ec]) (fun b hb => (eX b).mpr (.inr hb)) (fun b hb => by rw [e0]; exact h0 b hb) (by rw [hC]; exact hl) hc hown hD hpt hst
    (fun s' g' i v d hd hp => by
      rw [e0] at g'
      rw [ecur]
      exact (rd_cur h0 hDs (hP i v d hd hp)).mono (g'.ext.lk S₁.tab)) k (by rw [eo]; exact ow) hxa hra hrx hlen tests body (fun s' I' h' tk hk => ?_))
  obtain ⟨m, ⟨oc, es, ep, e1, r1⟩, _⟩ := I'.ie.fm.loc
  rw [hC] at e1
  have nC : C ∉ wr := fun z => hl (W.sub _ z)
  have G₁ : Go s₁ { s' with heap := h', toks := tk } := by
    have := I'.go
    rw [e0] at this
    exact go_but this S₁ h0 rfl rfl rfl hk
  refine fin _ G₁ ⟨m, oc, es, ep, hk _ _ nC e1, r1⟩ ?_
  obtain ⟨_, _, vs, ds', b1, ⟨ol, b4, b2, b3, _, b5⟩, b6⟩ := I'.mu (accN, D₀) (by rw [eg]; exact .head _)
  rw [put_lookup, if_pos rfl] at b1
  cases b1
  have nD : D₀ ∉ wr := fun z => hD (W.sub _ z)
  refine .list ⟨ol, hk _ _ nD b2, b3, b4, b5⟩ (fun z => ?_) ?_
  · obtain ⟨_, o', e'⟩ := S₁.low _ z
    exact ne_of_get hDs e' rfl
  · have lk1 : LK c.cur s'.heap h' := LK.of_keep fun b o nb e => hk b o (fun z => nb (.inl ((eX b).mpr (.inr z)))) e
    exact (b6.mono lk1).less fun a _ y => .inl ((eX a).mpr (.inl y))
section
variable {w : World} {n : Nat} {env : Env} {ρ : Rho}
theorem comp_use {X : XS} {A : Around} {s : Shared} {Q E : Value → Shared → Prop} {use : Option (Value → Sem Unit)} {fpos : Pos} {elt iter : PySem.Expr} {x : Str} {px pos : Pos} {ifs : List PySem.Expr} {sc : Scope} {cl : List (Str × Addr)} {src : D} {ds : List D} (ga : GA n A) (I : IE X env ρ s) (f : D → Bool) (g : D → D) (hi : EV w n env ρ iter src) (hit : ITER w n src ds) (K : ClOk env sc cl x)
    (hcell : ∀ y ∈ sc.names, y.2 ≠ .cell) (hx : (relabel sc env).names.lookup x = some .local) (hlen : ds.length ≤ sizeLine) (hra : ρ.lookup accN = none)
    (tests : ∀ C, ∀ d ∈ ds, EI w n (compEnvC sc cl C env) (put x d (seen cl ρ)) ifs (f d)) (body : ∀ C, ∀ d ∈ ds, f d = true → EV w n (compEnvC sc cl C env) (put x d (seen cl ρ)) elt (g d))
    (q : ∀ D₀ C s', Go s s' → s.heap.get? C = none → (∃ m, s'.heap.Ns C m) → Rd X s'.heap (.ref D₀) (.list ((ds.filter f).map g)) → compPost (model PW w) A E use Q (.ref D₀) C (.ok .next) s')
    (hs : ∀ x, foldedSetIterable iter env x = pure x := by intro _; rfl) : wpAny (model PW w) A (comprehension (.ListComp elt [⟨.Name x px, iter, ifs, 0⟩] sc pos) sc env fpos (newList []) false (eval iter env) use) Q E s := by
  refine wpAny_comprehension_free (g := ⟨.Name x px, iter, ifs, 0⟩) (gs := []) rfl hs K.clos K.kind K.names ?_
  refine hi.run X A s _ _ ga I fun v s₁ g₁ r₁ => ?_
  have I₁ := I.mono g₁
  refine hit.run X A s₁ _ _ v ga I₁.sta r₁ fun It s₂ fp wr P St g₂ W st hfp hwr hst _ _ hP => ?_
  refine wpAny_newList ?_ (by decide)
  refine wpAny_newFunctionEnv hcell (fun y hy => nomatch hy) (fun h' hn hsb => ?_) K.kind
  have hwe : ∀ b ∈ wr, ∃ o, s₂.heap.get? b = some o := hst 0 _ st
  have hk : ∀ b o, s₂.heap.get? b = some o → h'.get? b = some o := fun b o e => by
    have l := Heap.lt_size e
    have nb : b ≠ (s₂.heap.push { cls := .type "list", data := .seq ([] : List Value).toArray }).objs.size := by rw [Heap.size_push]; exact Nat.ne_of_lt (Nat.lt_succ_of_lt l)
    exact hsb.extBut b o nb (Heap.get?_push_of_some _ (Heap.get?_push_of_some _ e))
  have hDs : s₁.heap.get? s₂.heap.objs.size = none := none_back g₂ I₁.sta.tab (get_size _)
  have hCD : (s₂.heap.push { cls := .type "list", data := .seq ([] : List Value).toArray }).objs.size ≠ s₂.heap.objs.size := by rw [Heap.size_push]; omega
  have hDl : PlainL h' s₂.heap.objs.size #[] := by
    refine ⟨{ cls := .type "list", data := .seq ([] : List Value).toArray }, 0, ?_, rfl, rfl, rfl⟩
    exact hsb.extBut _ _ (Ne.symm hCD) (Heap.get?_push_of_some _ (Heap.get?_push_size _ rfl))
  have hC2 : s₂.heap.get? (s₂.heap.push { cls := .type "list", data := .seq ([] : List Value).toArray }).objs.size = none := get_above (by rw [Heap.size_push]; omega)
  have hCs : s₁.heap.get? (s₂.heap.push { cls := .type "list", data := .seq ([] : List Value).toArray }).objs.size = none := none_back g₂ I₁.sta.tab hC2
  have FR := comp_frame (tk := s₂.toks) (ocl := []) K I₁ g₂ hC2 hwr hwe s₂.heap.objs.size hDs hDl ⟨_, hn⟩ hk (fun _ _ e => nomatch e) (fun k e => by
      have e' : cl.lookup x = some k := e
      rw [K.tgt] at e'; cases e') (fun e => by rw [hx] at e; cases e)
  have infp : ∀ b ∈ fp, b ≠ s₂.heap.objs.size ∧ b ≠ (s₂.heap.push { cls := .type "list", data := .seq ([] : List Value).toArray }).objs.size := fun b hb => by
    obtain ⟨_, o, e⟩ := hfp b hb
    have := Heap.lt_size e
    rw [Heap.size_push]
    exact ⟨Nat.ne_of_lt this, Nat.ne_of_lt (Nat.lt_succ_of_lt this)⟩
  have st0 : St 0 ({ s₂ with heap := h', toks := s₂.toks } : Shared).heap := W.frame _ _ _ st fun b hb o e => hk b o e
  refine comp_runR (ρ' := seen cl ρ) (s₁ := s₁) (X := X) (c := { env := compEnvC sc cl (s₂.heap.push { cls := .type "list", data := .seq ([] : List Value).toArray }).objs.size env, s₀ := s₁, X := fun b => X b ∨ b ∈ wr, grow := [(accN, s₂.heap.objs.size)], own := fun y => y == x })
    f g ga I₁.sta W rfl rfl hwr hDs (fun z => (infp _ z).2 rfl) (fun y k e z => ?_) (fun k e => ?_) (fun z => (infp _ z).1 rfl) (fun b hb => (hfp b hb).1) hst hP (.inl hx) (by simp) K.ne ?_ ?_ hlen (tests _) (body _) (fun s' g' hn' r' => q _ _ s' (g₁.trans g') (none_back g₁ I.sta.tab hCs) hn' r') _ FR st0 fun loop => codeAny_compStart_list (loop _ FR st0) (W.self 0 _ _ _ st0 (loop _ FR st0))
  · obtain ⟨v, o, e', _⟩ := I₁.fm.cex y k (K.outer _ (lookup_mem e)).1
    exact ne_of_get (hwr _ z) e' rfl
  · have e' : (relabel sc env).names.lookup x = some .cell := e
    rw [hx] at e'; cases e'
  · rw [seen_lookup]; split
    · exact hra
    · rfl
  · rw [seen_lookup, K.tgt]; rfl
theorem comp_useC {X : XS} {A : Around} {s : Shared} {Q E : Value → Shared → Prop} {use : Option (Value → Sem Unit)} {fpos : Pos} {elt iter : PySem.Expr} {x : Str} {px pos : Pos} {ifs : List PySem.Expr} {sc : Scope} {cl : List (Str × Addr)} {src : D} {ds : List D} (ga : GA n A) (I : IE X env ρ s) (f : D → Bool) (g : D → D) (hi : EV w n env ρ iter src) (hit : ITER w n src ds) (K : ClOk env sc cl x)
    (hx : (relabel sc env).names.lookup x = some .cell) (hlen : ds.length ≤ sizeLine) (hra : ρ.lookup accN = none)
    (tests : ∀ C k, ∀ d ∈ ds, EI w n { compEnvC sc cl C env with cells := (x, k) :: cl } (put x d (seen cl ρ)) ifs (f d)) (body : ∀ C k, ∀ d ∈ ds, f d = true → EV w n { compEnvC sc cl C env with cells := (x, k) :: cl } (put x d (seen cl ρ)) elt (g d))
    (hone : ∀ m, cellsFrom m sc.names [] = [(x, m)])
    (q : ∀ D₀ C s', Go s s' → s.heap.get? C = none → (∃ m, s'.heap.Ns C m) → Rd X s'.heap (.ref D₀) (.list ((ds.filter f).map g)) → compPost (model PW w) A E use Q (.ref D₀) C (.ok .next) s')
    (hs : ∀ x, foldedSetIterable iter env x = pure x := by intro _; rfl) : wpAny (model PW w) A (comprehension (.ListComp elt [⟨.Name x px, iter, ifs, 0⟩] sc pos) sc env fpos (newList []) false (eval iter env) use) Q E s := by
  refine wpAny_comprehension_free (g := ⟨.Name x px, iter, ifs, 0⟩) (gs := []) rfl hs K.clos K.kind K.names ?_
  refine hi.run X A s _ _ ga I fun v s₁ g₁ r₁ => ?_
  have I₁ := I.mono g₁
  refine hit.run X A s₁ _ _ v ga I₁.sta r₁ fun It s₂ fp wr P St g₂ W st hfp hwr hst _ _ hP => ?_
  refine wpAny_newList ?_ (by decide)
  refine nfe_cells ?_
  have szp : (s₂.heap.push { cls := .type "list", data := .seq ([] : List Value).toArray }).objs.size = s₂.heap.objs.size + 1 := Heap.size_push ..
  have hwe : ∀ b ∈ wr, ∃ o, s₂.heap.get? b = some o := hst 0 _ st
  have hkp : ∀ b o, (s₂.heap.push { cls := .type "list", data := .seq ([] : List Value).toArray }).get? b = some o → (pushCells ((s₂.heap.push { cls := .type "list", data := .seq ([] : List Value).toArray }).push { cls := .type "dict", data := .dict #[] }) sc.names).get? b = some o := fun b o e =>
    pushCells_keeps _ _ b o (Heap.get?_push_of_some _ e)
  have hk : ∀ b o, s₂.heap.get? b = some o → (pushCells ((s₂.heap.push { cls := .type "list", data := .seq ([] : List Value).toArray }).push { cls := .type "dict", data := .dict #[] }) sc.names).get? b = some o := fun b o e => hkp b o (Heap.get?_push_of_some _ e)
  have old : ∀ b, s₂.heap.get? b = none → s₁.heap.get? b = none := fun b hb => none_back g₂ I₁.sta.tab hb
  have hDs : s₁.heap.get? s₂.heap.objs.size = none := old _ (get_size _)
  have hDl : PlainL (pushCells ((s₂.heap.push { cls := .type "list", data := .seq ([] : List Value).toArray }).push { cls := .type "dict", data := .dict #[] }) sc.names) s₂.heap.objs.size #[] :=
    ⟨{ cls := .type "list", data := .seq ([] : List Value).toArray }, 0, hkp _ _ (Heap.get?_push_size _ rfl), rfl, rfl, rfl⟩
  have hC2 : s₂.heap.get? (s₂.heap.push { cls := .type "list", data := .seq ([] : List Value).toArray }).objs.size = none := get_above (by rw [szp]; exact Nat.le_succ _)
  have hn : ∃ m, (pushCells ((s₂.heap.push { cls := .type "list", data := .seq ([] : List Value).toArray }).push { cls := .type "dict", data := .dict #[] }) sc.names).Ns (s₂.heap.push { cls := .type "list", data := .seq ([] : List Value).toArray }).objs.size m :=
    ⟨_, (Heap.Ns.new _ (.type "dict")).keeps (pushCells_keeps _ _)⟩
  have cellok := cellsFrom_ok sc.names ((s₂.heap.push { cls := .type "list", data := .seq ([] : List Value).toArray }).push { cls := .type "dict", data := .dict #[] }) (s₂.heap.objs.size + 2) [] ⟨fun _ _ hm => (nomatch hm), List.Pairwise.nil⟩ (by rw [Heap.size_push, szp]; exact Nat.le_refl _)
  rw [hone, Heap.size_push] at cellok
  have kcell := (cellok.empty x _ (.head _)).1
  rw [cellsFrom_app, hone]
  have FR := comp_frame (tk := s₂.toks) (ocl := [(x, (s₂.heap.push { cls := .type "list", data := .seq ([] : List Value).toArray }).objs.size + 1)]) K I₁ g₂ hC2 hwr hwe s₂.heap.objs.size hDs hDl hn hk (fun y k e => by
      have m := lookup_mem e
      exact congrArg Prod.fst (List.mem_singleton.mp m)) (fun k e => by
      have e' : some ((s₂.heap.push { cls := .type "list", data := .seq ([] : List Value).toArray }).objs.size + 1) = some k := by
        rw [← e]; simp [List.lookup]
      cases e'
      exact ⟨_, kcell⟩) (fun _ => ⟨_, none, by simp [List.lookup], kcell, old _ (get_above (by rw [szp]; exact Nat.le_add_right _ 2))⟩)
  have infp : ∀ b ∈ fp, b < s₂.heap.objs.size := fun b hb => let ⟨_, o, e⟩ := hfp b hb; Heap.lt_size e
  have st0 : St 0 (pushCells ((s₂.heap.push { cls := .type "list", data := .seq ([] : List Value).toArray }).push { cls := .type "dict", data := .dict #[] }) sc.names) := W.frame _ _ _ st fun b hb o e => hk b o e
  refine comp_runR (ρ' := seen cl ρ) (s₁ := s₁) (X := X) (c := { env := { compEnvC sc cl (s₂.heap.push { cls := .type "list", data := .seq ([] : List Value).toArray }).objs.size env with cells := (x, (s₂.heap.push { cls := .type "list", data := .seq ([] : List Value).toArray }).objs.size + 1) :: cl }, s₀ := s₁, X := fun b => X b ∨ b ∈ wr, grow := [(accN, s₂.heap.objs.size)], own := fun y => y == x })
    f g ga I₁.sta W rfl rfl hwr hDs (fun z => ?_) (fun y k e z => ?_) (fun k _ e z => ?_) (fun z => Nat.lt_irrefl _ (infp _ z)) (fun b hb => (hfp b hb).1) hst hP (.inr hx) (by simp) K.ne ?_ ?_ hlen (tests _ _) (body _ _) (fun s' g' hn' r' => q _ _ s' (g₁.trans g') (none_back g₁ I.sta.tab (old _ hC2)) hn' r') _ FR st0 fun loop => codeAny_compStart_list (loop _ FR st0) (W.self 0 _ _ _ st0 (loop _ FR st0))
  · have := infp _ z
    rw [szp] at this
    exact absurd this (Nat.not_lt.mpr (Nat.le_succ _))
  · have m := lookup_mem e
    rcases List.mem_cons.mp m with m | m
    · cases m
      have := infp _ (W.sub _ z)
      rw [szp] at this
      exact absurd this (Nat.not_lt.mpr (Nat.le_add_right _ 2))
    · obtain ⟨v, o, e', _⟩ := I₁.fm.cex y k (K.outer _ m).1
      exact ne_of_get (hwr _ z) e' rfl
  · have e' : some ((s₂.heap.push { cls := .type "list", data := .seq ([] : List Value).toArray }).objs.size + 1) = some k := by
      rw [← e]; simp [List.lookup]
    cases e'
    have := infp _ (z)
    rw [szp] at this
    exact absurd this (Nat.not_lt.mpr (Nat.le_add_right _ 2))
  · rw [seen_lookup]; split
    · exact hra
    · rfl
  · rw [seen_lookup, K.tgt]; rfl
end
section
variable {w : World} {n : Nat} {c : Cx} {ρ : Rho} {Φ : Fl → Rho → Prop}
/-- y = [..]: the store comes ahead of the letting go -/
theorem es_swap {elt iter : PySem.Expr} {x y : Str} {px py pos p : Pos} {ifs : List PySem.Expr} {sc : Scope} {d : D} (hsw : swapsWith (.ListComp elt [⟨.Name x px, iter, ifs, 0⟩] sc pos) (some (.Name y py)) p.line c.env = pure true) (ky : c.env.kindOf y = some .local) (oy : c.own y = true)
    (h : ∀ (A : Around) (s : Shared) (Q E : Value → Shared → Prop), GA n A → IE c.cur c.env ρ s → (∀ D₀ C s', Go s s' → s.heap.get? C = none → (∃ m, s'.heap.Ns C m) → Rd c.cur s'.heap (.ref D₀) d → compPost (model PW w) A E (some (assign (.Name y py) c.env)) Q (.ref D₀) C (.ok .next) s') →
      wpAny (model PW w) A (comprehension (.ListComp elt [⟨.Name x px, iter, ifs, 0⟩] sc pos) sc c.env (firstIterPos [⟨.Name x px, iter, ifs, 0⟩] pos) (newList []) false (eval iter c.env) (some (assign (.Name y py) c.env))) Q E s)
    (q : Φ .next (put y d ρ)) : ES w n c ρ (.Assign [.Name y py] (.ListComp elt [⟨.Name x px, iter, ifs, 0⟩] sc pos) p) Φ := by
  refine ⟨fun A s G I => ?_⟩
  rw [exec_Assign_Name_used _ _ _ _ hsw]
  refine wpAny_bind (wpAny_standAt (wpAny_bind ?_))
  show wpAny _ A (do let _ ← comprehension (.ListComp elt [⟨.Name x px, iter, ifs, 0⟩] sc pos) sc c.env _ (newList []) false (eval iter c.env) (some (assign (.Name y py) c.env))) _ _ s
  refine wpAny_bind (h A s _ _ G I.ie fun D₀ C s' g' hC hn' r' => ?_)
  have I' := I.mono g'
  show wpAny _ A (assign (.Name y py) c.env (.ref D₀)) _ _ _
  refine wpAny_assign_Name ?_
  obtain ⟨m, hm⟩ := hn'
  have hcl : C ≠ c.env.locals := fun z => by
    obtain ⟨m₁, ⟨o, _, _, e, _⟩, _⟩ := I.ie.fm.loc
    rw [← z, hC] at e
    cases e
  have hc0 : c.s₀.heap.get? C = none := none_back I.go I.st0.tab hC
  have hcx : ¬ c.cur C := fun z => by
    obtain ⟨_, o, e⟩ := I.ie.sta.low _ z
    rw [hC] at e
    cases e
  refine ix_store I' (.inl ky) oy r' fun s₂ a I₂ ha k₂ => ?_
  have hac : a ≠ C := by
    rcases ha with rfl | ⟨hk, _⟩
    · exact Ne.symm hcl
    · rw [ky] at hk; cases hk
  obtain ⟨o, es, ep, e1, r1⟩ := hm
  refine ⟨m, ⟨o, es, ep, k₂ _ _ (Ne.symm hac) e1, r1⟩, fun h' hs => wpAny_pure (wpAny_pure ?_)⟩
  exact ⟨_, ix_other I₂ ⟨o, es, ep, k₂ _ _ (Ne.symm hac) e1, r1⟩ hcl hc0 hcx hs, q⟩
theorem ex_comp {elt iter : PySem.Expr} {x y : Str} {px py pos p : Pos} {ifs : List PySem.Expr} {sc : Scope} {cl : List (Str × Addr)} {src d : D} {ds : List D} {rest : List Stmt} (f : D → Bool) (g : D → D) (hi : EV w n c.env ρ iter src) (hit : ITER w n src ds) (K : ClOk c.env sc cl x)
    (hcell : ∀ y ∈ sc.names, y.2 ≠ .cell) (hx : (relabel sc c.env).names.lookup x = some .local) (hlen : ds.length ≤ sizeLine) (hra : ρ.lookup accN = none)
    (tests : ∀ C, ∀ d ∈ ds, EI w n (compEnvC sc cl C c.env) (put x d (seen cl ρ)) ifs (f d)) (body : ∀ C, ∀ d ∈ ds, f d = true → EV w n (compEnvC sc cl C c.env) (put x d (seen cl ρ)) elt (g d)) (ed : .list ((ds.filter f).map g) = d)
    (hsw : swapsWith (.ListComp elt [⟨.Name x px, iter, ifs, 0⟩] sc pos) (some (.Name y py)) p.line c.env = pure true) (ky : c.env.kindOf y = some .local) (q : EX w n c (put y d ρ) rest Φ) (oy : c.own y = true := by rfl)
    (hs : ∀ x, foldedSetIterable iter c.env x = pure x := by intro _; rfl) : EX w n c ρ (.Assign [.Name y py] (.ListComp elt [⟨.Name x px, iter, ifs, 0⟩] sc pos) p :: rest) Φ :=
  ex_cons (es_swap hsw ky oy (fun A s Q E G I k => comp_use G I f g hi hit K hcell hx hlen hra tests body (by rw [ed]; exact k) hs) q)
theorem ex_compC {elt iter : PySem.Expr} {x y : Str} {px py pos p : Pos} {ifs : List PySem.Expr} {sc : Scope} {cl : List (Str × Addr)} {src d : D} {ds : List D} {rest : List Stmt} (f : D → Bool) (g : D → D) (hi : EV w n c.env ρ iter src) (hit : ITER w n src ds) (K : ClOk c.env sc cl x)
    (hx : (relabel sc c.env).names.lookup x = some .cell) (hlen : ds.length ≤ sizeLine) (hra : ρ.lookup accN = none)
    (tests : ∀ C k, ∀ d ∈ ds, EI w n { compEnvC sc cl C c.env with cells := (x, k) :: cl } (put x d (seen cl ρ)) ifs (f d)) (body : ∀ C k, ∀ d ∈ ds, f d = true → EV w n { compEnvC sc cl C c.env with cells := (x, k) :: cl } (put x d (seen cl ρ)) elt (g d)) (ed : .list ((ds.filter f).map g) = d)
    (hone : ∀ m, cellsFrom m sc.names [] = [(x, m)])
    (hsw : swapsWith (.ListComp elt [⟨.Name x px, iter, ifs, 0⟩] sc pos) (some (.Name y py)) p.line c.env = pure true) (ky : c.env.kindOf y = some .local) (q : EX w n c (put y d ρ) rest Φ) (oy : c.own y = true := by rfl)
    (hs : ∀ x, foldedSetIterable iter c.env x = pure x := by intro _; rfl) : EX w n c ρ (.Assign [.Name y py] (.ListComp elt [⟨.Name x px, iter, ifs, 0⟩] sc pos) p :: rest) Φ :=
  ex_cons (es_swap hsw ky oy (fun A s Q E G I k => comp_useC G I f g hi hit K hx hlen hra tests body hone (by rw [ed]; exact k) hs) q)
end
end Mine
end
section
open PySem PySem.W PyProof.Rows PySem.Calls PySem.Spec
namespace Mine
section
variable {w : World} {n : Nat} {c : Cx} {ρ : Rho} {Φ : Fl → Rho → Prop}

theorem ix_drop {g : Str} {a : Addr} {s : Shared} (I : IX { c with grow := (g, a) :: c.grow } ρ s) : IX c ρ s := by
  have cur : ∀ b, c.cur b → Cx.cur { c with grow := (g, a) :: c.grow } b := fun b y => by
    rcases y with y | ⟨p, hp, e⟩
    · exact .inl y
    · exact .inr ⟨p, .tail _ hp, e⟩
  have dn : ∀ {v d}, Rd (Cx.cur { c with grow := (g, a) :: c.grow }) s.heap v d → Rd c.cur s.heap v d := fun r => r.less fun b _ y => cur b y
  refine ⟨⟨I.ie.ok, I.ie.sta.less fun b y => I.ie.sta.low b (cur b y), ⟨?_, fun y e he hk => ?_, I.ie.fm.cex⟩⟩, I.go, I.st0, I.lo, I.ce, I.inj, fun p hp => ?_, ⟨(List.nodup_cons.mp I.mn.1).2, (List.nodup_cons.mp I.mn.2).2⟩, fun p hp => ?_⟩
  · obtain ⟨m, hm, hl⟩ := I.ie.fm.loc
    exact ⟨m, hm, fun y e he hk => let ⟨v, a, b⟩ := hl y e he hk; ⟨v, a, dn b⟩⟩
  · obtain ⟨cc, v, a, b, r⟩ := I.ie.fm.cel y e he hk
    exact ⟨cc, v, a, b, dn r⟩
  · obtain ⟨a, b, vs, ds, e, f, r⟩ := I.mu p (.tail _ hp)
    exact ⟨a, b, vs, ds, e, f, r.less fun b _ y => cur b y⟩
  · obtain ⟨a, b, e, f⟩ := I.ke p hp
    exact ⟨a, b, e, fun q hq => f q (.tail _ hq)⟩
theorem post_drop {g : Str} {a : Addr} : ∀ {f : Flow} {s : Shared}, Post { c with grow := (g, a) :: c.grow } Φ f s → Post c Φ f s
  | .next, _, ⟨ρ, a, b⟩ => ⟨ρ, ix_drop a, b⟩
  | .brk, _, ⟨ρ, a, b⟩ => ⟨ρ, ix_drop a, b⟩
  | .cont, _, ⟨ρ, a, b⟩ => ⟨ρ, ix_drop a, b⟩
  | .ret _, _, x => x

/-- an empty list that is to grow -/
theorem ex_grow {x g : Str} {px lp p : Pos} {rest : List Stmt} (k : c.env.kindOf x = some .local ∨ c.env.kindOf x = some .cell) (kg : c.env.kindOf g = none) (hg : g ∉ c.grow.map (·.1))
    (q : ∀ a, c.s₀.heap.get? a = none → EX w n { c with grow := (g, a) :: c.grow } (put g (.list []) (put x (.raw (.ref a)) ρ)) rest Φ) (ow : c.own x = true := by rfl) (hs : swapsWith (.List [] lp) (some (.Name x px)) p.line c.env = pure false := by rfl) :
    EX w n c ρ (.Assign [.Name x px] (.List [] lp) p :: rest) Φ := by
  refine ⟨?_⟩
  intro A s G I
  refine wpAny_execs_cons (wpAny_Assign_Name (wpAny_List (wpAny_items_nil ⟨by decide, ?_⟩)) hs)
  have fr : s.heap.get? s.heap.objs.size = none := get_size _
  have lo : c.s₀.heap.get? s.heap.objs.size = none := by
    cases e : c.s₀.heap.get? s.heap.objs.size with
    | none => rfl
    | some o =>
      have np : s.heap.objs.size ≠ PT := by
        obtain ⟨ps, e, _⟩ := I.ie.sta.tab
        exact Nat.ne_of_gt (Heap.lt_size e)
      have := I.go.ext.keep _ o np e
      rw [fr] at this
      cases this
  have I₁ := I.mono (Go.push s { cls := .type "list", data := .seq ([] : List Value).toArray } s.toks)
  have hp : PlainL (s.heap.push { cls := .type "list", data := .seq ([] : List Value).toArray }) s.heap.objs.size ([] : List Value).toArray := ⟨_, 0, Heap.get?_push_size _ rfl, rfl, rfl, rfl⟩
  have cur : ∀ b, (∃ o, s.heap.get? b = some o) → Cx.cur { c with grow := (g, s.heap.objs.size) :: c.grow } b → c.cur b := fun b ⟨o, e⟩ y => by
    rcases y with y | ⟨p, hp, e'⟩
    · exact .inl y
    · rcases List.mem_cons.mp hp with rfl | hp
      · subst e'
        rw [fr] at e
        cases e
      · exact .inr ⟨p, hp, e'⟩
  have ng : ∀ y k, c.env.kindOf y = some k → y ≠ g := fun y k e z => by subst z; rw [kg] at e; cases e
  have xg : x ≠ g := by rcases k with k | k <;> exact ng x _ k
  have lkp : LK (Cx.cur { c with grow := (g, s.heap.objs.size) :: c.grow }) s.heap (s.heap.push { cls := .type "list", data := .seq ([] : List Value).toArray }) := LK.of_keep fun b o _ e => Heap.get?_push_of_some _ e
  have up : ∀ {v d}, Rd c.cur s.heap v d → Rd (Cx.cur { c with grow := (g, s.heap.objs.size) :: c.grow }) (s.heap.push { cls := .type "list", data := .seq ([] : List Value).toArray }) v d := fun r => (r.less cur).mono lkp
  have I₂ : IX { c with grow := (g, s.heap.objs.size) :: c.grow } (put g (.list []) ρ) { s with heap := s.heap.push { cls := .type "list", data := .seq ([] : List Value).toArray } } := by
    refine ⟨⟨I.ie.ok, I₁.ie.sta.less fun b y => ?_, ⟨?_, fun y e he hk => ?_, I₁.ie.fm.cex⟩⟩, I₁.go, I.st0, I.lo, I₁.ce, I.inj, fun p hp' => ?_, ⟨?_, ?_⟩, fun p hp => ?_⟩
    · rcases y with y | ⟨p, hp', e'⟩
      · exact I₁.ie.sta.low b (.inl y)
      · rcases List.mem_cons.mp hp' with rfl | hp'
        · subst e'
          obtain ⟨o, _, e, _⟩ := hp
          refine ⟨fun z => ?_, o, e⟩
          have z' : s.heap.objs.size = PT := z
          obtain ⟨ps, e, _⟩ := I.ie.sta.tab
          rw [← z', fr] at e
          cases e
        · exact I₁.ie.sta.low b (.inr ⟨p, hp', e'⟩)
    · obtain ⟨m, hm, hl⟩ := I.ie.fm.loc
      refine ⟨m, hm.keeps (fun b o e => Heap.get?_push_of_some _ e), fun y e he hk => ?_⟩
      obtain ⟨v, a, b⟩ := hl y e (lookup_put_ne he (ng y _ hk)) hk
      exact ⟨v, a, up b⟩
    · have ny : y ≠ g := by rcases hk with hk | hk <;> exact ng y _ hk
      obtain ⟨cc, v, a, ⟨o, b1, b2⟩, r⟩ := I.ie.fm.cel y e (lookup_put_ne he ny) hk
      exact ⟨cc, v, a, ⟨o, Heap.get?_push_of_some _ b1, b2⟩, up r⟩
    · rcases List.mem_cons.mp hp' with rfl | hp'
      · exact ⟨lo, kg, [], [], by rw [put_lookup, if_pos rfl], hp, .nil⟩
      · obtain ⟨a1, a2, vs, ds, a3, a4, a5⟩ := I.mu p hp'
        have npg : p.1 ≠ g := fun z => hg (z ▸ List.mem_map_of_mem hp')
        exact ⟨a1, a2, vs, ds, by rw [put_lookup, if_neg npg]; exact a3, a4.keeps fun b o e => Heap.get?_push_of_some _ e, (a5.less cur).mono lkp⟩
    · exact List.nodup_cons.mpr ⟨hg, I.mn.1⟩
    · refine List.nodup_cons.mpr ⟨fun z => ?_, I.mn.2⟩
      obtain ⟨p, hp', e⟩ := List.mem_map.mp z
      obtain ⟨_, _, vs, ds, _, ⟨o, _, a4, _⟩, _⟩ := I.mu p hp'
      have e' : p.2 = s.heap.objs.size := e
      rw [e', fr] at a4
      cases a4
    · obtain ⟨a1, a2, a3, a4⟩ := I.ke p hp
      refine ⟨Heap.get?_push_of_some _ a1, a2, a3, fun q hq => ?_⟩
      rcases List.mem_cons.mp hq with rfl | hq
      · intro z
        have z' : s.heap.objs.size = p.1 := z
        rw [← z', fr] at a1
        cases a1
      · exact a4 q hq
  refine ix_store (c := { c with grow := (g, s.heap.objs.size) :: c.grow }) (d := .raw (.ref s.heap.objs.size)) I₂ k ow (.raw _) fun s₃ _ I₃ _ _ => ?_
  have I₄ : IX { c with grow := (g, s.heap.objs.size) :: c.grow } (put g (.list []) (put x (.raw (.ref s.heap.objs.size)) ρ)) s₃ := by
    refine I₃.sub (fun y d e => ?_) fun p hp => ?_
    · rw [put_lookup] at e ⊢
      by_cases hy : y = g
      · subst hy
        rw [if_pos rfl] at e
        rw [if_neg (Ne.symm xg), put_lookup, if_pos rfl]
        exact e
      · rw [if_neg hy, put_lookup] at e
        by_cases hx : y = x
        · rw [if_pos hx] at e ⊢; exact e
        · rw [if_neg hx] at e ⊢
          rw [put_lookup, if_neg hy]; exact e
    · have hpx : p.1 ≠ x := by
        rcases List.mem_cons.mp hp with rfl | hp
        · exact Ne.symm xg
        · intro z
          have := (I.mu p hp).2.1
          rw [z] at this
          rcases k with k | k <;> rw [k] at this <;> cases this
      simp only [put_lookup, if_neg hpx]
  exact wpAny_mono ((q _ lo).run A s₃ G I₄) (fun _ _ z => post_drop z) fun _ _ e => e

/-- a list has grown -/
theorem ex_freeze {x g : Str} {a : Addr} {gr : List (Str × Addr)} {ds : List D} {ss : List Stmt} (hgr : c.grow = (g, a) :: gr) (hx : ρ.lookup x = some (.raw (.ref a))) (hg : ρ.lookup g = some (.list ds)) (k : c.env.kindOf x = some .local)
    (hX : ∀ b, c.X b → ∃ o, c.s₀.heap.get? b = some o) (hΦ : ∀ f ρ, Φ f ρ → ∃ d, f = .ret d) (q : EX w n { c with grow := gr } (put x (.list ds) ρ) ss Φ) : EX w n c ρ ss Φ := by
  refine ⟨?_⟩
  intro A s G I
  have hm : (g, a) ∈ c.grow := by rw [hgr]; exact .head _
  obtain ⟨lo, kg, vs, ds', e1, e2, e3⟩ := I.mu _ hm
  dsimp only at lo kg e1 e2
  rw [hg] at e1
  cases e1
  let c' : Cx := { c with grow := gr }
  have I₀ : IX c' ρ s := ix_drop (c := c') (g := g) (a := a) (by
    have : { c' with grow := (g, a) :: c'.grow } = c := by rw [← hgr]
    rw [this]; exact I)
  have na : ¬ c'.cur a := by
    rintro (y | ⟨p, hp, e⟩)
    · obtain ⟨o, e⟩ := hX a y
      rw [lo] at e; cases e
    · have := I.mn.2
      rw [hgr] at this
      exact (List.nodup_cons.mp this).1 (List.mem_map.mpr ⟨p, hp, e⟩)
  have cur : ∀ b, c'.cur b → c.cur b := fun b y => by
    rcases y with y | ⟨p, hp, e⟩
    · exact .inl y
    · exact .inr ⟨p, by rw [hgr]; exact .tail _ hp, e⟩
  have rl : Rd c'.cur s.heap (.ref a) (.list ds) := .list e2.isList na (e3.less fun b _ y => cur b y)
  have I₁ : IX c' (put x (.list ds) ρ) s := by
    refine ⟨⟨I₀.ie.ok, I₀.ie.sta, ⟨?_, fun y e he hk => ?_, I₀.ie.fm.cex⟩⟩, I₀.go, I₀.st0, I₀.lo, I₀.ce, I₀.inj, fun p hp => ?_, I₀.mn, I₀.ke⟩
    · obtain ⟨m, hm, hl⟩ := I₀.ie.fm.loc
      refine ⟨m, hm, fun y e he hk => ?_⟩
      by_cases hy : y = x
      · subst hy
        obtain ⟨v, b1, b2⟩ := hl y _ hx k
        cases b2
        rw [← lookup_put_self he]
        exact ⟨_, b1, rl⟩
      · exact hl y e (lookup_put_ne he hy) hk
    · have ny : y ≠ x := by
        rintro rfl
        have k' : c'.env.kindOf y = some .local := k
        rcases hk with hk | hk <;> rw [k'] at hk <;> cases hk
      exact I₀.ie.fm.cel y e (lookup_put_ne he ny) hk
    · obtain ⟨a1, a2, vs, ds, a3, a4⟩ := I₀.mu p hp
      have npx : p.1 ≠ x := fun z => by
        have k' : c'.env.kindOf x = some .local := k
        rw [z, k'] at a2; cases a2
      exact ⟨a1, a2, vs, ds, by rw [put_lookup, if_neg npx]; exact a3, a4⟩
  refine wpAny_mono (q.run A s G I₁) (fun fl s' z => ?_) fun _ _ e => e
  match fl, z with
  | .next, ⟨_, _, z⟩ => obtain ⟨_, z⟩ := hΦ _ _ z; cases z
  | .brk, ⟨_, _, z⟩ => obtain ⟨_, z⟩ := hΦ _ _ z; cases z
  | .cont, ⟨_, _, z⟩ => obtain ⟨_, z⟩ := hΦ _ _ z; cases z
  | .ret v, z => exact z
end
end Mine
end
section
open PySem PySem.W PyProof.Rows PySem.Calls PySem.Spec
namespace Mine
theorem sub_list_module : isSubtype (.type "list") (.type "module") = pure false := by rw [isSubtype_type]; kernel_rfl
theorem sub_list_type : isSubtype (.type "list") (.type "type") = pure false := by rw [isSubtype_type]; kernel_rfl
theorem sig_app : ∃ sig, Manifest.signature? "list.append" = some sig ∧ ∀ (x y : Value), Bind.checkArgs "list.append" { sig with full := s!"{Bind.lastOf "list"}.{Bind.lastOf "list.append"}" } ⟨[x, y], []⟩ = pure () := by
  refine ⟨(Manifest.signature? "list.append").get (by decide +kernel), ?_, fun x y => ?_⟩
  · simp
  · kernel_rfl
theorem kind_app : builtinKind "list.append" = some .method := by first | decide +kernel | kernel_rfl
theorem va_app : Manifest.varargsMethods.contains "list.append" = false := by decide +kernel
theorem app_quiet {as : Args} : (Code.builtin "list.append" as).quiet = true := Code.quiet_builtin _ (by decide +kernel)
theorem chk_app {M : Model} {A : Around} {E : Value → Shared → Prop} {s : Shared} {a : Addr} {v : Value} {its : Array Value} {Q : Unit → Shared → Prop} (hl : PlainL s.heap a its) (h : Q () s) : wpAny M A (checkBoundCall "list.append" ⟨[.ref a, v], []⟩) Q E s := by
  obtain ⟨sig, e1, e2⟩ := sig_app
  have hT : s.TypeIs (.ref a) "list" := hl.isList.typeIs
  unfold checkBoundCall
  rw [e1, kind_app]
  dsimp only
  refine wpAny_ite_false (by rfl) ?_
  refine wpAny_bind (wpAny_isInstance hT sub_list_module ?_)
  refine wpAny_ite_false (by rw [va_app]; rfl) ?_
  have ity : ∀ R : Bool → Shared → Prop, R false s → wpAny M A (isType (.ref a)) R E s := fun R hR => by
    obtain ⟨o, k, ho, hc, hd, hdat⟩ := hl
    unfold isType
    refine wpAny_bind (wpAny_loadPart ho ?_)
    refine wpAny_pure ?_
    rw [hdat]
    exact hR
  refine KFB.if_not (a := Bind.checkArgs "list.append" { sig with full := Bind.lastOf "list.append" } ⟨[.ref a, v], []⟩) (show (Manifest.varargsMethods.contains "list.append" || false) = false by rw [va_app]; rfl) ?_
  refine wpAny_bind (ity _ ?_)
  refine wpAny_ite_false rfl ?_
  refine wpAny_bind (wpAny_typeOf hT ?_)
  dsimp only
  exact wpAny_of_eq (e2 _ _) h
/-- the statement add(e) -/
theorem callWith_bound {M : Model} {A : Around} {E : Value → Shared → Prop} {s : Shared} {pos : Pos} {u l : Addr} {args : List (Bool × Sem Value)} {Q : Value → Shared → Prop} (hplain : args.any (·.1) = false)
    (h : wpAny M A (evalArgs (.ref u) true args []) (fun x s₁ => s₁.heap.get? u = some (boundApp l) ∧ wpAny M A (call (.ref u) x.pos x.kw) Q E s₁) E s) : wpAny M A (callWith pos (.ref u) [] args []) Q E s := by
  unfold callWith
  refine wpAny_bind (wpAny_holding (wpAny_mono h (fun x s₁ h₁ => wpAny_bind (wpAny_standAt ?_)) fun _ _ x => x))
  obtain ⟨ho, hcall⟩ := h₁
  simp only [hplain, List.any_nil, Bool.or_false]
  refine wpAny_bind (m := keeperOf (.ref u)) ?_
  unfold keeperOf
  refine wpAny_bind (wpAny_load ho ?_)
  simp only [boundApp, show (Value.type "builtin_function_or_method" != Value.type "method") = true by decide, show (Value.type "builtin_function_or_method" == Value.type "builtin_function_or_method" || Value.type "builtin_function_or_method" == Value.type "method-wrapper") = true by decide, if_true]
  refine wpAny_pure ?_
  exact wpAny_bind (wpAny_mono hcall (fun r s₂ hr => wpAny_bind (wpAny_holding (wpAny_point (wpAny_pure hr)))) fun _ _ x => x)
theorem call_bound {prog : Program} {w : World} {A : Around} {E : Value → Shared → Prop} {s : Shared} {u l : Addr} {its : Array Value} {v : Value} {Q : Value → Shared → Prop} (ho : s.heap.get? u = some (boundApp l)) (hl : PlainL s.heap l its) (hQ : ∀ h', PlainL h' l (its.push v) → Heap.SameBut l s.heap h' → Q .none { s with heap := h' }) (hsz : its.size ≤ sizeLine) :
    wpAny (model prog w) A (call (.ref u) [v]) Q E s := by
  refine wpAny_call (codeAny_of_tree ?_)
  show wpAny _ A.in1 (callAny (.ref u) ⟨[v], []⟩) _ _ s
  simp only [callAny]
  refine wpAny_bind (wpAny_load ho ?_)
  simp only [boundApp, show (Value.type "builtin_function_or_method" == Value.type "method" || Value.type "builtin_function_or_method" == Value.type "builtin_function_or_method" || Value.type "builtin_function_or_method" == Value.type "method-wrapper") = true by decide, if_true]
  refine KFB.if_so (by decide) ?_
  refine wpAny_bind (chk_app hl ?_)
  refine wpAny_bind (wpAny_pure (wpAny_pure ?_))
  refine ⟨app_quiet, codeAny_builtin entry_list_append ?_⟩
  obtain ⟨o, n, ho', hc, hdn, hd⟩ := id hl
  obtain ⟨n', hd'⟩ := Obj.data_mapSeq hd (·.push v)
  show wpAny _ _ (updateSeq l (·.push v) >>= fun _ => ret .none) _ _ s
  refine wpAny_bind ?_
  refine wpAny_updateSeq ho' hd (wpAny_pure (hQ _ ?_ (Heap.SameBut.update ..)))
  refine ⟨_, n', Heap.get?_update_self _ ho' (Obj.isFreed_of_seq hd'), (Obj.cls_mapSeq ..).trans hc, ?_, hd'⟩
  obtain ⟨c, d, dt, sl⟩ := o
  subst hd
  exact hdn
section
variable {w : World} {n : Nat} {c : Cx} {ρ : Rho} {Φ : Fl → Rho → Prop}
theorem es_bound {x y g : Str} {px py ap p : Pos} {a : Addr} (hg : (g, a) ∈ c.grow) (hy : EV w n c.env ρ (.Name y py) (.raw (.ref a))) (k : c.env.kindOf x = some .local ∨ c.env.kindOf x = some .cell) (q : Φ .next (put x (.obj (boundApp a)) ρ)) (ow : c.own x = true := by rfl)
    (hs : swapsWith (.Attribute (.Name y py) "append" ap) (some (.Name x px)) p.line c.env = pure false := by rfl) : ES w n c ρ (.Assign [.Name x px] (.Attribute (.Name y py) "append" ap) p) Φ := by
  refine ⟨?_⟩
  intro A s G I
  refine wpAny_Assign_Name (Attribute_name (hy.run c.cur A s _ _ G I.ie fun v s₁ g₁ r₁ => ?_)) hs
  cases r₁
  have I₁ := I.mono g₁
  obtain ⟨_, _, vs, ds, _, ⟨o, kk, f1, f2, f3, f4⟩, _⟩ := I₁.mu _ hg
  obtain ⟨cl, di, da, sl⟩ := o
  dsimp only at f1 f2 f3 f4
  subst f2 f3 f4
  refine getAttr_append f1 fun tk => ?_
  have g₂ := Go.push s₁ (boundApp a) tk
  have I₂ := I₁.mono g₂
  exact ix_store I₂ k ow (.obj (Heap.get?_push_size _ rfl) (fresh_x I₁.ie.sta) ⟨_, _, rfl, rfl⟩) fun s₃ _ I₃ _ _ => ⟨_, I₃, q⟩
theorem es_add {x g : Str} {np cp p : Pos} {a : Addr} {e : PySem.Expr} {d : D} {ds : List D} (hg : (g, a) ∈ c.grow) (hx : EV w n c.env ρ (.Name x np) (.obj (boundApp a))) (he : EV w n c.env ρ e d) (hgd : ρ.lookup g = some (.list ds)) (hlen : ds.length ≤ sizeLine) (q : Φ .next (put g (.list (ds ++ [d])) ρ))
    (h4 : starEach [e] c.env = (false, eval e c.env) :: starEach [] c.env := by rfl) (hn : (backTo cp (starEach [e] c.env)).any (·.1) = false := by rfl) (hi : interactive c.env = false := by rfl) (hs : swapsWith (.Call (.Name x np) [e] [] cp) none p.line c.env = pure false := by rfl) :
    ES w n c ρ (.Expr (.Call (.Name x np) [e] [] cp) p) Φ := by
  refine ⟨?_⟩
  intro A s G I
  refine wpAny_Expr (wpAny_Call_ofName (hx.run c.cur A s _ _ G I.ie fun f s₁ g₁ r₁ => ?_)) hi hs
  cases r₁
  rename_i u nx hu rc
  have I₁ := I.mono g₁
  refine callWith_bound (l := a) hn (evalArgs_of hn ((evs_cons (p := cp) he evs_nil h4).run c.cur A s₁ _ _ G I₁.ie fun vs s₂ g₂ r₂ => ?_))
  have I₂ := I₁.mono g₂
  have hup : u ≠ PT := by
    rintro rfl
    obtain ⟨ps, e', _⟩ := I₁.ie.sta.tab
    rw [hu] at e'
    cases e'
  refine ⟨g₂.ext.keep _ _ hup hu, ?_⟩
  match vs, r₂ with
  | [v], .cons rv .nil =>
    obtain ⟨us, hL, len, kk⟩ := ix_grown I₂ hg hgd rv
    exact call_bound (g₂.ext.keep _ _ hup hu) hL (fun h' hL' hs => ⟨_, kk h' hL' hs, q⟩) (by simp only [List.size_toArray]; omega)
theorem es_append {x g : Str} {np apos cp p : Pos} {a : Addr} {e : PySem.Expr} {d : D} {ds : List D} (hg : (g, a) ∈ c.grow) (hx : EV w n c.env ρ (.Name x np) (.raw (.ref a))) (he : EV w n c.env ρ e d) (hgd : ρ.lookup g = some (.list ds)) (hlen : ds.length ≤ sizeLine) (q : Φ .next (put g (.list (ds ++ [d])) ρ))
    (hfew : ((backTo cp (starEach [e] c.env)).all (fun x => !x.1) && (backToKw cp (keywordEach [] c.env)).all (fun x => x.1.isSome)
      && decide (([e] : List PySem.Expr).length + ([] : List Keyword).length + (if ([] : List Keyword).isEmpty then 0 else 1) < 30)) = true := by rfl) (hline : (apos.endLine == cp.line) = true := by rfl) (htrees : backTo cp (starEach [e] c.env) = [(false, eval e c.env)] := by rfl)
    (hi : interactive c.env = false := by rfl) (hs : swapsWith (.Call (.Attribute (.Name x np) "append" apos) [e] [] cp) none p.line c.env = pure false := by rfl) :
    ES w n c ρ (.Expr (.Call (.Attribute (.Name x np) "append" apos) [e] [] cp) p) Φ := by
  refine ⟨?_⟩
  intro A s G I
  refine wpAny_Expr (wpAny_Call_append rfl hfew hline htrees (hx.run c.cur A s _ _ G I.ie fun f s₁ g₁ r₁ => ?_)) hi hs
  cases r₁
  have I₁ := I.mono g₁
  obtain ⟨_, _, vs, ds', _, hp, _⟩ := I₁.mu _ hg
  refine ⟨a, _, rfl, hp, he.run c.cur A s₁ _ _ G I₁.ie fun v s₂ g₂ r₂ => ?_⟩
  exact ix_append (I₁.mono g₂) hg hgd r₂ hlen fun s' I' _ => ⟨_, I', q⟩
end
end Mine
end
section
open PySem PySem.W PyProof.Rows PySem.Calls PySem.Spec
namespace Mine
section
variable {w : World} {n : Nat} {env : Env} {ρ : Rho}
/-- what stands for d is looked at plainly -/
theorem co_is {a b : D} {r : Bool} (h : ∀ X h u v, Rd X h u a → Rd X h v b → plainIs u v = true ∧ (u == v) = r) : CO w n .Is a b r := by
  refine ⟨?_⟩
  intro X A s Q E u v g S ru rv q
  obtain ⟨h1, h2⟩ := h _ _ _ _ ru rv
  exact wpAny_is_plain h1 (by rw [h2]; exact q _ (Go.refl _))
theorem co_isnot {a b : D} {r : Bool} (h : ∀ X h u v, Rd X h u a → Rd X h v b → plainIs u v = true ∧ (u == v) = !r) : CO w n .IsNot a b r := by
  refine ⟨?_⟩
  intro X A s Q E u v g S ru rv q
  obtain ⟨h1, h2⟩ := h _ _ _ _ ru rv
  exact wpAny_isNot_plain h1 (by rw [h2, Bool.not_not]; exact q _ (Go.refl _))
theorem co_is_types {a b : String} : CO w n .Is (.raw (.type a)) (.raw (.type b)) (a == b) := co_is fun X h u v ru rv => by
  cases ru; cases rv
  refine ⟨rfl, ?_⟩
  by_cases e : a = b
  · subst e; simp
  · have : (Value.type a == Value.type b) = false := beq_eq_false_iff_ne.mpr fun z => e (by injection z)
    rw [this]; simp [e]
theorem co_isnot_types {a b : String} : CO w n .IsNot (.raw (.type a)) (.raw (.type b)) (!(a == b)) := co_isnot fun X h u v ru rv => by
  cases ru; cases rv
  refine ⟨rfl, ?_⟩
  by_cases e : a = b
  · subst e; simp
  · have : (Value.type a == Value.type b) = false := beq_eq_false_iff_ne.mpr fun z => e (by injection z)
    rw [this]; simp [e]
theorem call_type_b {b : Array UInt8} : CALL w n (.type "type") [.bytes b] (.raw (.type "bytes")) := by
  refine ⟨?_⟩
  rintro X A s Q E vs g S (_ | ⟨⟨⟩, _ | _⟩) q
  exact call_type_of (Tx := "bytes") rfl (by decide) (q _ _ (Go.refl _) (.raw _))
theorem call_type_t {b : Bool} : CALL w n (.type "type") [.bool b] (.raw (.type "bool")) := by
  refine ⟨?_⟩
  rintro X A s Q E vs g S (_ | ⟨⟨⟩, _ | _⟩) q
  exact call_type_of (Tx := "bool") rfl (by decide) (q _ _ (Go.refl _) (.raw _))
theorem et_val {e : PySem.Expr} {d : D} {b : Bool} (h : EV w n env ρ e d) (ht : ∀ (X : XS) (A : Around) (s : Shared) (v : Value) (Q : Bool → Shared → Prop) (E : Value → Shared → Prop), Rd X s.heap v d → (∀ s', Go s s' → Q b s') → wpAny (model PW w) A (truthy v) Q E s)
    (he : isTrue e env (eval e env) = (do let v ← eval e env; standAt e.pos; holding [v] (truthy v)) := by rfl) : ET w n env ρ e b := by
  refine ⟨?_⟩
  intro X A s Q E g I q
  refine wpAny_isTrue_value (h.run X A s _ _ g I fun v s₁ g₁ r₁ => ?_) he
  exact ht X A s₁ v Q E r₁ fun s' g' => q s' (g₁.trans g')
theorem et_of_bool {e : PySem.Expr} {b : Bool} (h : EV w n env ρ e (.bool b)) (he : isTrue e env (eval e env) = (do let v ← eval e env; standAt e.pos; holding [v] (truthy v)) := by rfl) : ET w n env ρ e b :=
  et_val h (fun X A s v Q E r q => by cases r; exact wpAny_truthy_bool (q _ (Go.refl _))) he
theorem ev_bytes_raw {e : PySem.Expr} {b : Array UInt8} {t : Tok} (h : EV w n env ρ e (.raw (.bytes b t))) : EV w n env ρ e (.bytes b) := by
  refine ⟨?_⟩
  intro X A s Q E g I q
  refine h.run X A s _ _ g I fun v s₁ g₁ r₁ => ?_
  cases r₁
  exact q _ _ g₁ (.bytes _ _)
theorem iter_bytes {b : Array UInt8} : ITER w n (.bytes b) ((KBw.bInts b).map .int) := by
  refine ⟨?_⟩
  rintro X A s Q E v g S r q
  cases r
  rename_i t
  refine KBw.pyIter_bytes ?_
  have W := KBw.walks (prog := PW) (w := w) g.handled s.heap.objs.size b t
  have hlen : ((KBw.bInts b).map D.int).length = b.size := by simp [KBw.bInts]
  rw [← hlen] at W
  have hpt : s.heap.objs.size ≠ PT := by
    obtain ⟨ps, e, _⟩ := S.tab
    exact Nat.ne_of_gt (Heap.lt_size e)
  refine q _ _ _ _ _ _ (Go.push s _ s.toks) W ⟨_, Heap.get?_push_size _ rfl, rfl, rfl⟩ (fun b hb => ?_) (fun b hb => ?_) (fun i h st b hb => ?_) (fun b hb => ?_) (fun i h st b hb => ?_) (fun i v d hd pv => ?_)
  · rw [List.mem_singleton.mp hb]; exact ⟨hpt, _, Heap.get?_push_size _ rfl⟩
  · rw [List.mem_singleton.mp hb]; exact get_size _
  · rw [List.mem_singleton.mp hb]
    obtain ⟨o, e, _⟩ := st
    exact ⟨o, e⟩
  · rw [List.mem_singleton.mp hb]; exact fresh_x S
  · rw [List.mem_singleton.mp hb]
    obtain ⟨o, e, e2, e3⟩ := st
    exact ⟨o, e, .inr ⟨_, _, e2, e3⟩⟩
  · obtain ⟨c, u, e, rfl⟩ := pv
    have := KBw.ints_get e
    rw [List.getElem?_map, this] at hd
    cases hd
    exact .int _ _
theorem ints_of {X : XS} {h : Heap} : ∀ {vs : List Value} {ks : List Int}, Rds X h vs (ks.map .int) → IntsAre vs ks
  | [], [], _ => .nil
  | _ :: _, k :: ks, .cons r R => by cases r; exact .cons _ _ (ints_of R)
theorem call_bytes {ks : List Int} (hr : ∀ k ∈ ks, 0 ≤ k ∧ k < 256) (hl : ks.length ≤ sizeLine) : CALL w n (.type "bytes") [.list (ks.map .int)] (.bytes (byteArr ks)) := by
  refine ⟨?_⟩
  rintro X A s Q E vs g S (_ | ⟨r, _ | _⟩) q
  cases r
  rename_i l ws hL nx R
  refine call_bytes_ints hL (ints_of R) hr (by rw [R.length, List.length_map]; exact hl) g.handled fun h' t k hk => ?_
  exact q _ _ (Go.mk' (.of_keep hk)) (.bytes _ _)
end
end Mine
end
section
open PySem PySem.W PyProof.Rows PySem.Calls PySem.Spec
namespace Mine
theorem and_mask {x : Int} (k : Nat) (h : 0 ≤ x) : Builtin.bitAnd x ((2 ^ k - 1 : Nat) : Int) = x % ((2 ^ k : Nat) : Int) := by
  rw [bitAnd_pp h (by omega)]
  obtain ⟨m, rfl⟩ := Int.eq_ofNat_of_zero_le h
  simp only [Int.toNat_natCast]
  rw [Nat.and_two_pow_sub_one_eq_mod]
  simp
theorem and_63 {x : Int} (h : 0 ≤ x) : Builtin.bitAnd x 63 = x % 64 := and_mask 6 h
theorem and_65535 {x : Int} (h : 0 ≤ x) : Builtin.bitAnd x 65535 = x % 65536 := and_mask 16 h
theorem and_64 {x : Int} (h : 0 ≤ x) : Builtin.bitAnd x 64 = x / 64 % 2 * 64 := by
  rw [bitAnd_pp h (by omega)]
  obtain ⟨m, rfl⟩ := Int.eq_ofNat_of_zero_le h
  simp only [Int.toNat_natCast]
  have : (m &&& 2 ^ 6) = (m.testBit 6).toNat * 2 ^ 6 := by
    apply Nat.eq_of_testBit_eq
    intro i
    rw [Nat.testBit_and, Nat.testBit_two_pow]
    by_cases hi : 6 = i
    · subst hi
      cases m.testBit 6 <;> decide
    · cases m.testBit 6
      · simp [hi]
      · rw [show (true.toNat * 2 ^ 6) = 2 ^ 6 from rfl, Nat.testBit_two_pow]
        simp [hi]
  have this' : (m &&& Int.toNat 64) = (m.testBit 6).toNat * 2 ^ 6 := this
  rw [this', Nat.toNat_testBit]
  simp
theorem nat_and_low (a b k : Nat) (h : b < 2 ^ k) : (a * 2 ^ k) &&& b = 0 := by
  apply Nat.eq_of_testBit_eq
  intro i
  rw [Nat.testBit_and, ← Nat.shiftLeft_eq, Nat.testBit_shiftLeft, Nat.zero_testBit]
  by_cases hi : i < k
  · simp [Nat.not_le.mpr hi]
  · rw [Nat.testBit_lt_two_pow (Nat.lt_of_lt_of_le h (Nat.pow_le_pow_right (by decide) (Nat.le_of_not_lt hi)))]
    simp
theorem or_low {a b : Int} (k : Nat) (ha : 0 ≤ a) (hb : 0 ≤ b) (h : b < ((2 ^ k : Nat) : Int)) : Builtin.bitOr (a * ((2 ^ k : Nat) : Int)) b = a * ((2 ^ k : Nat) : Int) + b := by
  rw [bitOr_and, bitAnd_pp (Int.mul_nonneg ha (by omega)) hb]
  obtain ⟨m, rfl⟩ := Int.eq_ofNat_of_zero_le ha
  obtain ⟨l, rfl⟩ := Int.eq_ofNat_of_zero_le hb
  have e : (((m : Int) * ((2 ^ k : Nat) : Int)).toNat) = m * 2 ^ k := by rw [← Int.natCast_mul]; exact Int.toNat_natCast _
  rw [e, Int.toNat_natCast, nat_and_low m l k (by omega)]
  simp
theorem or_8 {a b : Int} (ha : 0 ≤ a) (hb : 0 ≤ b) (h : b < 256) : Builtin.bitOr (a * 256) b = a * 256 + b := or_low 8 ha hb h
theorem or_6 {a b : Int} (ha : 0 ≤ a) (hb : 0 ≤ b) (h : b < 64) : Builtin.bitOr (a * 64) b = a * 64 + b := or_low 6 ha hb h
set_option maxRecDepth 20000
set_option maxHeartbeats 4000000
theorem buffer_ok {w : World} {n : Nat} {b : Array UInt8} : CALL w (n + 1) (.ref 83) [.bytes b] (.bytes b) := by
  refine call_of (i := 12) (dV := .none) (kV := .none) (cd := .ref 82) (by decide) ["data"] (fun vs h s pm ct => ?_) rfl rfl rfl rfl (by decide) (by decide) fun L s₀ X => ?_
  · match vs, h with
    | [v], _ => exact BindsTo.of_eq rfl
  · refine ex_open (ss := _ :: _) rfl ?_
    refine ex_assign (ev_call_ty (ev_builtin rfl rfl rfl) (evs_cons (ev_name rfl (.inl rfl)) evs_nil) call_type_b) (.inl rfl) ?_
    refine ex_if (et_cmp (ev_name rfl (.inl rfl)) (ev_builtin rfl rfl rfl) co_is_types) (fun _ => ?_) (fun h => absurd h (by decide))
    exact ex_ret (ev_name rfl (.inl rfl)) rfl
theorem truth_ok {w : World} {n : Nat} : CALL w (n + 1) (.ref 90) [.bool false] (.bool false) := by
  refine call_of (i := 13) (dV := .none) (kV := .none) (cd := .ref 89) (by decide) ["x"] (fun vs h s pm ct => ?_) rfl rfl rfl rfl (by decide) (by decide) fun L s₀ X => ?_
  · match vs, h with
    | [v], _ => exact BindsTo.of_eq rfl
  · refine ex_open (ss := _ :: _) rfl ?_
    refine ex_assign (ev_call_ty (ev_builtin rfl rfl rfl) (evs_cons (ev_name rfl (.inl rfl)) evs_nil) call_type_t) (.inl rfl) ?_
    refine ex_if (r := true) (et_bool ?_) (fun _ => ?_) (fun h => nomatch h)
    · refine ea_or (b := false) (c := true) (et_cmp (ev_name rfl (.inl rfl)) ev_none (co_is fun X h u v ru rv => by cases ru; cases rv; exact ⟨rfl, rfl⟩)) fun _ => ?_
      refine ea_or (b := true) (c := true) (et_cmp (ev_name rfl (.inl rfl)) (ev_builtin rfl rfl rfl) co_is_types) fun h => nomatch h
    · exact ex_ret (ev_if (c := false) (et_of_bool (ev_name rfl (.inl rfl))) (fun h => nomatch h) (fun _ => ev_bool)) rfl
/-- the sign of six bits -/
noncomputable def q6 (v : Int) (lb : Int) : D := .int (sg (v / 2 ^ (lb - 6).toNat % 64))
theorem B64_get {k : Int} (h0 : 0 ≤ k) (h1 : k < 64) : ∃ c, B64[k.toNat]? = some c ∧ (c.toNat : Int) = (sg k : Int) := by
  obtain ⟨m, rfl⟩ := Int.eq_ofNat_of_zero_le h0
  have hm : m < 64 := by omega
  have key : ∀ m : Fin 64, ∃ c, B64[m.val]? = some c ∧ (c.toNat : Int) = (sg (m.val : Int) : Int) := by
    intro m
    refine ⟨B64[m.val]'(by have := m.2; simpa [B64] using this), by simp, ?_⟩
    revert m
    decide
  exact key ⟨m, hm⟩
theorem ev_b64 {w : World} {n : Nat} {env : Env} {ρ : Rho} {e2 : PySem.Expr} {i : Int} {p p' : Pos} (kd : env.kindOf "_B64" = some .globalImplicit) (h : EV w n env ρ e2 (.int i)) (h0 : 0 ≤ i) (h1 : i < 64) (hs : ∀ o i, ∃ l, subscripted e2 false o i = operate l (getItem o i) := by exact fun _ _ => ⟨_, rfl⟩) :
    EV w n env ρ (.Subscript (.Name "_B64" p) e2 p') (.int (sg i)) := by
  obtain ⟨c, e, hc⟩ := B64_get h0 h1
  rw [← hc]
  exact ev_sub (a := .bytes B64) (i := .int i) (ev_bytes_raw (ev_global (x := "_B64") kd rfl)) h ty_bytes FB.slot_bytes_getitem.lookup (get_bytes h0 (by simpa [B64] using h1) (by simp [B64]) e) hs
/-- what has been read when i octets are gone -/
noncomputable def lcOf (x y z : Int) : Nat → Int
  | 0 => 0
  | 1 => x
  | 2 => x * 256 + y
  | _ => y * 256 + z
noncomputable def lbOf : Nat → Int
  | 0 => 0
  | 1 => 2
  | 2 => 4
  | _ => 0
noncomputable def ouOf (x y z : Int) : Nat → List D
  | 0 => []
  | 1 => [q6 x 8]
  | 2 => [q6 x 8, q6 (x * 256 + y) 10]
  | _ => [q6 x 8, q6 (x * 256 + y) 10, q6 (y * 256 + z) 12, q6 (y * 256 + z) 6]
noncomputable abbrev lk (ρ : Rho) (x : Str) : Option D := ρ.lookup x
noncomputable def Jb (a : Addr) (lb lc : Int) (ou : List D) (ρ : Rho) : Prop := lk ρ "out" = some (.raw (.ref a)) ∧ lk ρ "newline" = some (.bool false) ∧ lk ρ "leftbits" = some (.int lb) ∧ lk ρ "leftchar" = some (.int lc) ∧ lk ρ "$out" = some (.list ou)
theorem lk_ne {x y : Str} {d e : D} {ρ : Rho} (h : lk ρ y = some e) (n : (y == x) = false := by decide) : lk (put x d ρ) y = some e := by
  have : y ≠ x := by simpa using n
  show (put x d ρ).lookup y = _
  rw [put_lookup, if_neg this]
  exact h
theorem lk_self {x : Str} {d : D} {ρ : Rho} : lk (put x d ρ) x = some d := by
  show (put x d ρ).lookup x = _
  rw [put_lookup, if_pos rfl]
theorem b2a_turn {w : World} {n : Nat} {L : Nat} {s₀ : Shared} {X : XS} {hold : List (Addr × Obj)} {a : Addr} {ρ : Rho} {lb lc k : Int} {ou : List D} {Φ : Fl → Rho → Prop} (m : Nat) (LB : Nat → Int) (OU : Nat → List D) (j : Jb a lb lc ou ρ) (h0 : 0 ≤ lc ∧ lc < 65536) (hk : 0 ≤ k ∧ k < 256) (e1 : LB m = lb + 8) (e2 : OU m = ou)
    (step : ∀ i, i < m → LB (i + 1) = LB i + 6 ∧ 0 ≤ LB i ∧ OU (i + 1) ++ [q6 ((lc * 256 + k) % 65536) (LB (i + 1))] = OU i ∧ (OU (i + 1)).length ≤ 9) (end' : LB 0 < 6)
    (q : ∀ ρ', Jb a (LB 0) ((lc * 256 + k) % 65536) (OU 0) ρ' → Φ .next ρ') (body : List Stmt) (hbody : ∃ p x1 x2 x3, (theFn 15).2.2.1[5]? = some (.For p x1 body x2 x3)) :
    EX w n { env := envFn 15 98 L (.ref 97), s₀ := s₀, X := X, grow := [("$out", a)], hold := hold } (put "b" (.int k) ρ) body Φ := by
  obtain ⟨p, x1, x2, x3, hb⟩ := hbody
  cases hb
  obtain ⟨j1, j2, j3, j4, j5⟩ := j
  have o8 : Builtin.bitOr (lc * 256) k = lc * 256 + k := or_8 h0.1 hk.1 hk.2
  have a16 : Builtin.bitAnd (lc * 256 + k) 65535 = (lc * 256 + k) % 65536 := and_65535 (by omega)
  refine ex_open (ss := _ :: _) rfl ?_
  apply ex_assign (d := .int ((lc * 256 + k) % 65536))
  · rw [← a16, ← o8]
    apply ev_bin
    · apply ev_bin
      · apply ev_bin
        · exact ev_name (lk_ne j4) (.inl rfl)
        · exact ev_int
        · exact op_shl (by decide) (by decide) (by omega)
      · exact ev_name lk_self (.inl rfl)
      · exact op_or
    · exact ev_int
    · exact op_and
  · exact .inl rfl
  · refine ex_assign (d := .int (lb + 8)) (ev_bin (ev_name (lk_ne (lk_ne j3)) (.inl rfl)) ev_int op_add) (.inl rfl) ?_
    refine ex_cons (es_while (fun i ρ' => i ≤ m ∧ Jb a (LB i) ((lc * 256 + k) % 65536) (OU i) ρ') m ⟨Nat.le_refl _, ?_⟩ fun i ρ' hj => ?_)
    · rw [e1, e2]
      exact ⟨lk_ne (lk_ne (lk_ne j1)), lk_ne (lk_ne (lk_ne j2)), lk_self, lk_ne lk_self, lk_ne (lk_ne (lk_ne j5))⟩
    · obtain ⟨hm, i1, i2, i3, i4, i5⟩ := hj
      refine ⟨decide (LB i ≥ 6), et_cmp (ev_name i3 (.inl rfl)) ev_int co_ge, fun ht => ?_, fun hf => ?_⟩
      · have ht' : LB i ≥ 6 := by simpa using ht
        obtain ⟨i', rfl⟩ : ∃ i', i = i' + 1 := by
          cases i with
          | zero => omega
          | succ i' => exact ⟨i', rfl⟩
        obtain ⟨s1, s2, s3, s4⟩ := step i' (by omega)
        have sh : ((lc * 256 + k) % 65536).fdiv (2 ^ (LB (i' + 1) - 6).toNat) = (lc * 256 + k) % 65536 / 2 ^ (LB (i' + 1) - 6).toNat := Int.fdiv_eq_ediv_of_nonneg _ (by
          exact Int.le_of_lt (Int.pow_pos (by decide)))
        have a6 : Builtin.bitAnd ((lc * 256 + k) % 65536 / 2 ^ (LB (i' + 1) - 6).toNat) 63 = (lc * 256 + k) % 65536 / 2 ^ (LB (i' + 1) - 6).toNat % 64 := and_63 (Int.ediv_nonneg (Int.emod_nonneg _ (by decide)) (Int.le_of_lt (Int.pow_pos (by decide))))
        refine ex_cons (es_append (g := "$out") (a := a) (d := q6 ((lc * 256 + k) % 65536) (LB (i' + 1))) (.head _) (ev_name i1 (.inl rfl)) ?_ i5 (Nat.le_trans s4 (by decide)) ?_)
        · refine ev_b64 rfl ?_ (Int.emod_nonneg _ (by decide)) (Int.emod_lt_of_pos _ (by decide))
          rw [← a6, ← sh]
          apply ev_bin
          · apply ev_bin
            · exact ev_name i4 (.inl rfl)
            · apply ev_bin
              · exact ev_name i3 (.inl rfl)
              · exact ev_int
              · exact op_sub
            · exact op_shr (by omega)
          · exact ev_int
          · exact op_and
        · refine ex_assign (d := .int (LB i')) (ev_eq (ev_bin (ev_name (lk_ne i3) (.inl rfl)) ev_int op_sub) (by rw [s1]; congr 1; omega)) (.inl rfl) (ex_nil ⟨i', Nat.lt_succ_self _, by omega, ?_⟩)
          rw [s3]
          exact ⟨lk_ne (lk_ne i1), lk_ne (lk_ne i2), lk_self, lk_ne (lk_ne i4), lk_ne lk_self⟩
      · have hf' : ¬ LB i ≥ 6 := by simpa using hf
        have : i = 0 := by
          cases i with
          | zero => rfl
          | succ i' =>
            obtain ⟨s1, s2, _⟩ := step i' (by omega)
            omega
        subst this
        exact ex_nil (q ρ' ⟨i1, i2, i3, i4, i5⟩)
theorem b2a_ok {w : World} {n : Nat} {b : Array UInt8} {x y z : Int} (hb : KBw.bInts b = [x, y, z]) (hx : 0 ≤ x ∧ x < 256) (hy : 0 ≤ y ∧ y < 256) (hz : 0 ≤ z ∧ z < 256) (X : XS) (A : Around) (s : Shared) (Q : Value → Shared → Prop) (E : Value → Shared → Prop) (v u : Value) (g : GA (n + 2) A) (S : Sta X s.heap) (R : Rds X s.heap [v, u] [.bytes b, .bool false])
    (q : ∀ v s', Go s s' → Rd X s'.heap v (.bytes (byteArr [(sg (x / 4 % 64) : Int), (sg ((x * 256 + y) / 16 % 64) : Int), (sg ((y * 256 + z) / 64 % 64) : Int), (sg ((y * 256 + z) % 64) : Int)])) → Q v s') : wpAny (model PW w) A (call (.ref 98) [v] [("newline", u)]) Q E s := by
  refine call_gen (n := n + 1) (i := 15) (dV := .none) (kV := .ref 91) (cd := .ref 97) (ds' := [.bytes b, .bool false]) (by decide) ["data", "newline"] (fun vs => ⟨[vs.getD 0 .none], [("newline", vs.getD 1 .none)]⟩) (fun X s vs S R pm ct => ⟨vs, ?_, R⟩) rfl rfl rfl rfl (by decide) (by decide) (fun L s₀ X hX => ?_) X A s Q E [v, u] g S R q
  · match vs, R with
    | [v, u], _ => exact BindsTo.of_eq rfl
  · refine ex_open (ss := _ :: _) rfl ?_
    refine ex_assign (ev_call_fn (ev_global rfl rfl) (i := 12) (dV := .none) (kV := .none) (cdv := .ref 82) (by decide) (evs_cons (ev_name rfl (.inl rfl)) evs_nil) buffer_ok) (.inl rfl) ?_
    refine ex_assign (ev_call_fn (ev_global rfl rfl) (i := 13) (dV := .none) (kV := .none) (cdv := .ref 89) (by decide) (evs_cons (ev_name rfl (.inl rfl)) evs_nil) truth_ok) (.inl rfl) ?_
    refine ex_grow (g := "$out") (.inl rfl) rfl (fun h => nomatch h) fun a ha => ?_
    refine ex_assign ev_int (.inl rfl) ?_
    refine ex_assign ev_int (.inl rfl) ?_
    refine ex_cons ?_
    refine es_for (src := .bytes b) (ds := [.int x, .int y, .int z]) (ev_name rfl (.inl rfl)) ?_ (.inl rfl) ?_ (fun i => Jb a (lbOf i) (lcOf x y z i) (ouOf x y z i)) ⟨rfl, rfl, rfl, rfl, rfl⟩ ?_ ?_
    · have := iter_bytes (w := w) (n := n + 1) (b := b)
      rw [hb] at this
      exact this
    · intro d hd
      simp only [List.mem_cons, List.not_mem_nil, or_false] at hd
      rcases hd with rfl | rfl | rfl <;> trivial
    · intro i d X' hold ρ' hd j
      match i, hd with
      | 0, hd =>
        cases hd
        refine b2a_turn 1 (fun i => match i with | 0 => 2 | _ => 8) (fun i => match i with | 0 => [q6 x 8] | _ => []) j (by show (0:Int) ≤ 0 ∧ (0:Int) < 65536; decide) hx rfl rfl ?_ (by decide) ?_ _ ⟨_, _, _, _, rfl⟩
        · intro i hi
          have : i = 0 := by omega
          subst this
          refine ⟨rfl, by decide, ?_, by show 0 ≤ 9; decide⟩
          show [q6 ((0 * 256 + x) % 65536) 8] = [q6 x 8]
          rw [show (0 * 256 + x) % 65536 = x by omega]
        · intro ρ'' jj
          have e : (lcOf x y z 0 * 256 + x) % 65536 = x := by show (0 * 256 + x) % 65536 = x; omega
          rw [e] at jj
          exact jj
      | 1, hd =>
        cases hd
        refine b2a_turn 1 (fun i => match i with | 0 => 4 | _ => 10) (fun i => match i with | 0 => [q6 x 8, q6 (x * 256 + y) 10] | _ => [q6 x 8]) j (by show 0 ≤ x ∧ x < 65536; omega) hy rfl rfl ?_ (by decide) ?_ _ ⟨_, _, _, _, rfl⟩
        · intro i hi
          have : i = 0 := by omega
          subst this
          refine ⟨rfl, by decide, ?_, by show 1 ≤ 9; decide⟩
          show [q6 x 8, q6 ((x * 256 + y) % 65536) 10] = [q6 x 8, q6 (x * 256 + y) 10]
          rw [show (x * 256 + y) % 65536 = x * 256 + y by omega]
        · intro ρ'' jj
          have e : (lcOf x y z 1 * 256 + y) % 65536 = x * 256 + y := by show (x * 256 + y) % 65536 = x * 256 + y; omega
          rw [e] at jj
          exact jj
      | 2, hd =>
        cases hd
        refine b2a_turn 2 (fun i => match i with | 0 => 0 | 1 => 6 | _ => 12) (fun i => match i with | 0 => [q6 x 8, q6 (x * 256 + y) 10, q6 (y * 256 + z) 12, q6 (y * 256 + z) 6] | 1 => [q6 x 8, q6 (x * 256 + y) 10, q6 (y * 256 + z) 12] | _ => [q6 x 8, q6 (x * 256 + y) 10]) j (by show 0 ≤ x * 256 + y ∧ x * 256 + y < 65536; omega) hz rfl rfl ?_ (by decide) ?_ _ ⟨_, _, _, _, rfl⟩
        · have e : (lcOf x y z 2 * 256 + z) % 65536 = y * 256 + z := by show ((x * 256 + y) * 256 + z) % 65536 = y * 256 + z; omega
          rw [e]
          intro i hi
          match i, hi with
          | 0, _ => exact ⟨rfl, by decide, rfl, by show 3 ≤ 9; decide⟩
          | 1, _ => exact ⟨rfl, by decide, rfl, by show 2 ≤ 9; decide⟩
        · intro ρ'' jj
          have e : (lcOf x y z 2 * 256 + z) % 65536 = y * 256 + z := by show ((x * 256 + y) * 256 + z) % 65536 = y * 256 + z; omega
          rw [e] at jj
          exact jj
      | i + 3, hd => simp at hd
    · rintro ρ' ⟨h1, h2, h3, h4, h5⟩
      show EX _ _ _ _ _ _
      refine ex_if (et_cmp (ev_name h3 (.inl rfl)) ev_int co_eq) (fun h => absurd (show ((0 : Int) == 2) = true from h) (by decide)) fun _ => ?_
      refine ex_if (et_cmp (ev_name h3 (.inl rfl)) ev_int co_eq) (fun h => absurd (show ((0 : Int) == 4) = true from h) (by decide)) fun _ => ex_nil ?_
      show EX _ _ _ _ _ _
      refine ex_nil ?_
      show EX _ _ _ _ _ _
      refine ex_if (et_of_bool (ev_name h2 (.inl rfl))) (fun h => nomatch h) fun _ => ex_nil ?_
      show EX _ _ _ _ _ _
      have e1 : q6 x 8 = .int (sg (x / 4 % 64)) := rfl
      have e2 : q6 (x * 256 + y) 10 = .int (sg ((x * 256 + y) / 16 % 64)) := rfl
      have e3 : q6 (y * 256 + z) 12 = .int (sg ((y * 256 + z) / 64 % 64)) := rfl
      have e4 : q6 (y * 256 + z) 6 = .int (sg ((y * 256 + z) % 64)) := by
        show D.int (sg ((y * 256 + z) / 1 % 64)) = _
        rw [Int.ediv_one]
      refine ex_freeze (x := "out") (g := "$out") (a := a) (gr := []) rfl h1 h5 rfl hX (fun f ρ h => ⟨_, h⟩) ?_
      refine ex_ret (ev_call_ty (ev_builtin rfl rfl rfl) (evs_cons (ev_name (lk_self (x := "out")) (.inl rfl)) evs_nil) ?_) rfl
      show CALL _ _ _ [D.list [q6 x 8, q6 (x * 256 + y) 10, q6 (y * 256 + z) 12, q6 (y * 256 + z) 6]] _
      rw [e1, e2, e3, e4]
      refine call_bytes (ks := [(sg (x / 4 % 64) : Int), (sg ((x * 256 + y) / 16 % 64) : Int), (sg ((y * 256 + z) / 64 % 64) : Int), (sg ((y * 256 + z) % 64) : Int)]) ?_ (by show 4 ≤ _; decide)
      have key : ∀ k : Int, 0 ≤ (sg k : Int) ∧ (sg k : Int) < 256 := fun k => by
        refine ⟨by omega, ?_⟩
        have : ∀ m, AL.getD m 0 < 256 := fun m => by
          by_cases hm : m < 64
          · exact (by decide : ∀ m : Fin 64, AL.getD m.val 0 < 256) ⟨m, hm⟩
          · have : AL[m]? = none := List.getElem?_eq_none (by rw [al_len]; omega)
            simp [List.getD, this]
        have := this k.toNat
        show ((AL.getD k.toNat 0 : Nat) : Int) < 256
        omega
      intro k hk
      simp only [List.mem_cons, List.not_mem_nil, or_false] at hk
      rcases hk with rfl | rfl | rfl | rfl <;> exact key _
/-- a call with one name said -/
theorem ev_call_kw {w : World} {n : Nat} {env : Env} {ρ : Rho} {x : Str} {np pos kp : Pos} {e e' : PySem.Expr} {kn : Str} {a i : Nat} {dV kV cdv : Value} {d₁ d₂ d : D} (hf : EV w n env ρ (.Name x np) (.raw (.ref a))) (mem : (a, i, dV, kV, cdv) ∈ fnTab)
    (he : EV w n env ρ e d₁) (he' : EV w n env ρ e' d₂) (hc : ∀ (X : XS) (A : Around) (s : Shared) (Q : Value → Shared → Prop) (E : Value → Shared → Prop) (v u : Value), GA n A → Sta X s.heap → Rds X s.heap [v, u] [d₁, d₂] → (∀ v s', Go s s' → Rd X s'.heap v d → Q v s') → wpAny (model PW w) A (call (.ref a) [v] [(kn, u)]) Q E s)
    (h4 : starEach [e] env = (false, eval e env) :: starEach [] env := by rfl) (hall : (backToKw pos (keywordEach [⟨some kn, e', kp⟩] env)).all (·.1.isSome) = true := by rfl) : EV w n env ρ (.Call (.Name x np) [e] [⟨some kn, e', kp⟩] pos) d := by
  refine ⟨?_⟩
  intro X A s Q E g I q
  refine wpAny_Call_ofName (hf.run X A s _ _ g I fun f s₁ g₁ r₁ => ?_)
  cases r₁
  have I₁ := I.mono g₁
  obtain ⟨oc, od, osl, pm, ct, eo, r⟩ := I₁.sta.fns _ mem
  have hap : a ≠ PT := by
    rintro rfl
    obtain ⟨ps, e', _⟩ := I₁.sta.tab
    rw [eo] at e'
    cases e'
  refine callWith_function_kw (o := ⟨oc, od, .func (fdOf i dV kV pm cdv ct), osl⟩) (fd := fdOf i dV kV pm cdv ct) ?_
  refine evalArgs_kw2 hall ((evs_cons (p := pos) he evs_nil h4).run X A s₁ _ _ g I₁ fun vs s₂ g₂ r₂ => ?_) h4
  have I₂ := I₁.mono g₂
  refine kwAll_cons (he'.run X A s₂ _ _ g I₂ fun u s₃ g₃ r₃ => kwAll_nil ?_)
  have I₃ := I₂.mono g₃
  refine ⟨⟨(g₂.trans g₃).ext.keep _ _ hap eo, rfl⟩, ?_⟩
  match vs, r₂ with
  | [v], .cons rv .nil =>
    exact hc X A s₃ _ _ v u g I₃.sta (.cons (g₃.rd I₂.sta rv) (.cons r₃ .nil)) fun v' s' g' r' => q v' s' ((g₁.trans (g₂.trans g₃)).trans g') r'
theorem b64_ok {w : World} {n : Nat} {b : Array UInt8} {x y z : Int} (hb : KBw.bInts b = [x, y, z]) (hx : 0 ≤ x ∧ x < 256) (hy : 0 ≤ y ∧ y < 256) (hz : 0 ≤ z ∧ z < 256) : CALL w (n + 3) (.ref 106) [.bytes b] (.bytes (byteArr [(sg (x / 4 % 64) : Int), (sg ((x * 256 + y) / 16 % 64) : Int), (sg ((y * 256 + z) / 64 % 64) : Int), (sg ((y * 256 + z) % 64) : Int)])) := by
  refine ⟨fun X A s Q E vs g S R q => ?_⟩
  refine call_gen (n := n + 2) (i := 17) (dV := .ref 99) (kV := .none) (cd := .ref 105) (ds' := [.bytes b, .none]) (by decide) ["s", "altchars"] (fun vs => ⟨vs, []⟩) (fun X s vs S R pm ct => ⟨vs ++ [.none], ?_, R.append (.cons .none .nil)⟩) rfl rfl rfl rfl (by decide) (by decide) (fun L s₀ X hX => ?_) X A s Q E vs g S R q
  · match vs, R with
    | [v], _ => exact BindsTo.of_defaults (T := 99) (o := o99) rfl (S.obs (99, o99) (by simp [oTab])) rfl rfl rfl
  · refine ex_open (ss := _ :: _) rfl ?_
    refine ex_assign (ev_call_kw (ev_global rfl rfl) (i := 15) (dV := .none) (kV := .ref 91) (cdv := .ref 97) (by decide) (ev_name rfl (.inl rfl)) ev_bool fun X A s Q E v u g S R q => b2a_ok hb hx hy hz X A s Q E v u g S R q) (.inl rfl) ?_
    refine ex_if (r := false) (et_cmp (ev_name rfl (.inl rfl)) ev_none (co_isnot fun X h u v ru rv => by cases ru; cases rv; exact ⟨rfl, rfl⟩)) (fun h => nomatch h) fun _ => ex_nil ?_
    show EX _ _ _ _ _ _
    exact ex_ret (ev_name rfl (.inl rfl)) rfl
end Mine
end
section
open PySem PySem.W PyProof.Rows PySem.Calls PySem.Spec
namespace Mine
noncomputable def es52 : Array DictEntry := (spec.zipIdx.map fun (c, i) => ({ hash := c, key := .int c (341 + 6 * i), val := .str ⟨#[92, c]⟩ (345 + 6 * i) } : DictEntry)).toArray
noncomputable def f52 (k : Int) : Option Value := findBy Value.isInt es52 k
theorem map52 {w : World} {X : XS} {h : Heap} (S : Sta X h) : h.MapOf (intKind PW w) 52 f52 := by
  refine ⟨o52, es52, 24, S.obs (52, o52) (by simp [oTab]), ⟨rfl, rfl, rfl⟩, rfl, ?_, fun _ => rfl⟩
  intro e he
  have he' : e ∈ es52.toList := Array.mem_toList_iff.mpr he
  simp only [es52] at he'
  obtain ⟨⟨c, i⟩, hm, rfl⟩ := List.mem_map.mp he'
  refine ⟨c, intKind_is .., ?_⟩
  show (c : Int) = hashInt (c : Int)
  have hc : c ∈ spec := by
    have := List.mem_map_of_mem (f := Prod.fst) hm
    rwa [List.zipIdx_map_fst] at this
  exact (by decide : ∀ c ∈ spec, (c : Int) = hashInt (c : Int)) c hc
/-- what escape makes of a sign -/
noncomputable def escOf (c : Nat) : List Nat := if c = 43 then [92, 43] else [c]
theorem f52_plus : f52 43 = some (.str ⟨#[92, 43]⟩ 393) := by decide +kernel
theorem f52_none {c : Nat} (h : c ∈ AL) (h' : c ≠ 43) : f52 c = none := by
  revert h'
  revert c
  have : ∀ c ∈ AL, c ≠ 43 → f52 c = none := by decide +kernel
  exact fun {c} h => this c h
theorem sub_key_look : isSubtype (.type "KeyError") (.type "LookupError") = pure true := by rw [isSubtype_type]; kernel_rfl
section
variable {w : World} {X : XS} {A : Around} {E : Value → Shared → Prop} {s : Shared}
theorem look_keep {c : Nat} {Q : Builtin.Str.Mapped → Shared → Prop} (hh : A.handled = none) (S : Sta X s.heap) (h : c ∈ AL) (h' : c ≠ 43) (q : ∀ s', Go s s' → Q .keep s') : wpAny (model PW w) A (Builtin.Str.tableLookup (.ref 52) c) Q E s := by
  unfold Builtin.Str.tableLookup
  refine wpAny_bind (wpAny_attempt (wpAny_bind (wpAny_mkInt ?_)))
  refine wpAny_getItem_missing_of (knd := intKind PW w) (intKind_is ..) (by decide) hh (map52 (w := w) S) (f52_none h h') fun h₁ e N => ?_
  obtain ⟨ob, t, e1, e2, e3⟩ := N.there
  show wpAny _ _ (do if ← isInstance (.ref e) (.type "LookupError") then _ else _) _ _ _
  refine wpAny_bind (wpAny_isInstance (T := "KeyError") ⟨ob, e1, e2⟩ sub_key_look ?_)
  rw [if_pos rfl]
  exact wpAny_bind (wpAny_rule (wpAny_pure (q _ (Go.mk' (.of_keep N.keeps)))))
theorem look_plus {Q : Builtin.Str.Mapped → Shared → Prop} (S : Sta X s.heap) (q : ∀ s', Go s s' → Q (.text ⟨#[92, 43]⟩) s') : wpAny (model PW w) A (Builtin.Str.tableLookup (.ref 52) 43) Q E s := by
  unfold Builtin.Str.tableLookup
  refine wpAny_bind (wpAny_attempt (wpAny_bind (wpAny_mkInt ?_)))
  refine wpAny_getItem_of (knd := intKind PW w) (intKind_is ..) (map52 (w := w) S) f52_plus ?_
  refine wpAny_bind (wpAny_of_eq (a := none) rfl ?_)
  refine wpAny_bind (wpAny_of_eq (a := some ⟨#[92, 43]⟩) rfl ?_)
  exact wpAny_pure (q _ (Go.tok _ _))
theorem run_translate {c : Nat} {t : Tok} {Q : Fin → Shared → Prop} (hh : A.handled = none) (S : Sta X s.heap) (h : c ∈ AL) (q : ∀ t' s', Go s s' → Q (.done (.ret (.str (mk (escOf c)) t'))) s') : wpAny (model PW w) A (Builtin.«str.translate» ⟨[.str (mk [c]) t, .ref 52], []⟩) Q E s := by
  have c128 : c < 128 := (by decide : ∀ c ∈ AL, c < 128) c h
  unfold Builtin.«str.translate»
  refine wpAny_bind (wpAny_of_eq (a := (.str (mk [c]) t, mk [c], .ref 52)) rfl ?_)
  have e0 : ((mk [c]).length == 0) = false := rfl
  have e1 : (mk [c]).cps.all (fun x => decide (x < 128)) = true := by simp [c128]
  simp only [e0, e1, Bool.false_eq_true, if_false]
  refine wpAny_bind ?_
  rw [← Array.forIn_toList]
  rw [List.forIn_cons]
  refine wpAny_bind ?_
  refine KFB.if_not (by decide) ?_
  refine KFB.if_so rfl ?_
  dsimp only [List.lookup]
  by_cases hc : c = 43
  · subst hc
    refine wpAny_bind (look_plus S fun s₁ g₁ => ?_)
    have e2 : ((⟨#[92, 43]⟩ : Str).length == 1 && (⟨#[92, 43]⟩ : Str).cps.all fun x => decide (x < 128)) = false := rfl
    simp only [e2, Bool.false_eq_true, if_false]
    refine wpAny_bind (wpAny_pure ?_)
    dsimp only
    refine wpAny_bind (wpAny_rule ?_)
    refine wpAny_bind (look_plus (g₁.sta S) fun s₂ g₂ => ?_)
    refine wpAny_pure ?_
    dsimp only
    rw [List.forIn_nil]
    refine wpAny_pure ?_
    refine KFB.if_not (by decide) ?_
    refine wpAny_bind (wpAny_mkStr (wpAny_pure ?_) (by decide))
    exact q _ _ ((g₁.trans g₂).trans (Go.tok _ _))
  · refine wpAny_bind (look_keep hh S h hc fun s₁ g₁ => ?_)
    dsimp only
    refine wpAny_bind (wpAny_pure ?_)
    dsimp only
    refine wpAny_pure ?_
    dsimp only
    rw [List.forIn_nil]
    refine wpAny_pure ?_
    refine KFB.if_not (show Builtin.Str.tooLong (0 + 1) = false by decide) ?_
    have e3 : escOf c = [c] := by unfold escOf; rw [if_neg hc]
    rw [e3] at q
    refine wpAny_bind (wpAny_mkStr (wpAny_pure ?_) (by show 1 ≤ _; decide))
    exact q _ _ (g₁.trans (Go.tok _ _))
end
theorem call_translate {w : World} {n : Nat} {c : Nat} (h : c ∈ AL) : CALL w n (.builtin "str.translate") [.str (mk [c]), .raw (.ref 52)] (.str (mk (escOf c))) := by
  refine ⟨?_⟩
  rintro X A s Q E vs g S (_ | ⟨⟨⟩, _ | ⟨r, _ | _⟩⟩) q
  cases r
  refine wpAny_call_entry PySem.F.slot_str_translate (typeIs_str _ _ _) PySem.F.entry_str_translate ?_ (PySem.F.args_str_translate_2 _ _)
  exact run_translate (A := A.in1) g.handled S h fun t' s' g' => ⟨_, rfl, q _ _ g' (.str _ _)⟩
theorem call_isi_str {w : World} {n : Nat} {x : Str} : CALL w n (.builtin "isinstance") [.str x, .raw (.type "str")] (.bool true) := by
  refine ⟨?_⟩
  rintro X A s Q E vs g S (_ | ⟨⟨⟩, _ | ⟨r, _ | _⟩⟩) q
  cases r
  exact IsiPair.str_str (q _ _ (Go.refl _) (.bool _))
set_option maxRecDepth 20000
set_option maxHeartbeats 4000000
theorem escape_ok {w : World} {n : Nat} {c : Nat} (h : c ∈ AL) : CALL w (n + 1) (.ref 62) [.str (mk [c])] (.str (mk (escOf c))) := by
  refine call_of (i := 7) (dV := .none) (kV := .none) (cd := .ref 61) (by decide) ["pattern"] (fun vs h s pm ct => ?_) rfl rfl rfl rfl (by decide) (by decide) fun L s₀ X => ?_
  · match vs, h with
    | [v], _ => exact BindsTo.of_eq rfl
  · refine ex_open (ss := _ :: _) rfl ?_
    refine ex_if (r := true) (et_of_bool (ev_call_bi (ev_builtin rfl rfl rfl) (evs_cons (ev_name rfl (.inl rfl)) (evs_cons (ev_builtin rfl rfl rfl) evs_nil)) call_isi_str)) (fun _ => ?_) (fun h => nomatch h)
    refine ex_ret ?_ rfl
    exact ev_meth (a := .str (mk [c])) (ds := [.raw (.ref 52)]) (ev_name rfl (.inl rfl)) (fun X s v r => by cases r; exact ⟨typeIs_str s _ _, fun _ e => nomatch e⟩) (evs_cons (ev_global rfl rfl) evs_nil) (call_translate h) rfl rfl rfl PySem.F.plainAttrs_str PySem.F.slot_str_translate PySem.F.type_str_translate
end Mine
end
section
open PySem PySem.W PyProof.Rows PySem.Calls PySem.Spec
namespace Mine
open PySem.Sre PySem.Builtin.Re
noncomputable def code42 : Array Nat := #[14, 14, 4, 1, 1, 9, 0, 64, 0, 1342177280, 0, 0, 0, 0, 0, 17, 0, 13, 11, 9, 0, 64, 0, 1342177280, 0, 0, 0, 0, 0, 17, 1, 1]
theorem set_no {c : Nat} (h : c ∈ AL) (n : Nat) (seen : Sre.Seen) : ∃ seen', inSet code42 c (n + 2) 5 true seen = .ok (false, seen') := by
  have hb : (decide (c < 256) && (code42.getD (5 + (1 + c / 32)) 0).testBit (c % 32)) = false := (by decide : ∀ c ∈ AL, (decide (c < 256) && (code42.getD (5 + (1 + c / 32)) 0).testBit (c % 32)) = false) c h
  refine ⟨(seen.add 9).add 0, ?_⟩
  show (if (decide (c < 256) && (code42.getD (5 + (1 + c / 32)) 0).testBit (c % 32)) = true then _ else inSet code42 c (n + 1) 14 true (seen.add 9)) = _
  rw [hb]
  rfl
theorem admitted_no {m : M} (hc : m.code = code42) (ht : ∀ i, i < m.lim → m.text.getD i 0 ∈ AL) : ∀ (fuel s : Nat) (seen : Sre.Seen), ∃ seen', M.admitted m fuel s seen = .ok (none, seen')
  | 0, s, seen => ⟨seen, rfl⟩
  | fuel + 1, s, seen => by
    unfold M.admitted
    by_cases h : s ≥ m.lim
    · rw [if_pos h]; exact ⟨_, rfl⟩
    · rw [if_neg h, hc]
      obtain ⟨s2, e⟩ := set_no (ht s (by omega)) 30 seen
      have e' : inSet code42 (m.text.getD s 0) code42.size 5 true seen = .ok (false, s2) := e
      rw [e']
      exact admitted_no hc ht fuel (s + 1) s2
theorem from_no {text : Array Nat} {m : M} {st : Nat} {first : Bool} (hc : m.code = code42) (hx : m.text = text) (hl : m.lim = text.size) (hf : m.frames = []) (ho : m.outcome = none) (ht : ∀ i, i < text.size → text.getD i 0 ∈ AL) :
    ∃ m', m.attemptFrom st first = m' ∧ m'.answer = some false ∧ m'.frames = [] ∧ m'.outcome = none := by
  unfold M.attemptFrom
  have h2 : m.hasFirstSet = true := by unfold M.hasFirstSet; rw [hc]; rfl
  rw [if_neg (by rw [h2]; decide)]
  obtain ⟨s2, e⟩ := admitted_no (m := m) hc (fun i hi => by rw [hx]; exact ht i (by omega)) (m.lim + 1 - st) st m.seen
  rw [e]
  exact ⟨_, rfl, rfl, hf, ho⟩
theorem search_no {text : Array Nat} (hne : 0 < text.size) (ht : ∀ i, i < text.size → text.getD i 0 ∈ AL) : ∃ m, (forSearch code42 text 1 0 text.size false).runFor reTurnSteps = m ∧ m.outcome = some .failed := by
  have key : ∃ m : M, forSearch code42 text 1 0 text.size false = m ∧ m.answer = some false ∧ m.frames = [] ∧ m.outcome = none := by
    unfold forSearch
    have h1 : (decide (0 > text.size) || decide (text.size - 0 < (header code42).1)) = false := by
      have : (header code42).1 = 1 := rfl
      rw [this]
      have a1 : decide (0 > text.size) = false := by simp
      have a2 : decide (text.size - 0 < 1) = false := decide_eq_false (by omega)
      rw [a1, a2]; rfl
    dsimp only
    rw [h1]
    rw [if_neg (by decide)]
    exact from_no rfl rfl rfl rfl rfl ht
  obtain ⟨m, e, a, f, o⟩ := key
  rw [e]
  refine ⟨_, rfl, ?_⟩
  have st : m.step = { m with outcome := some .failed } := by
    unfold M.step
    rw [o, a, f]
    rfl
  unfold reTurnSteps
  have run1 : m.runFor 4 = m.step.runFor 3 := by
    show (if m.outcome.isSome then m else m.step.runFor 3) = _
    rw [o]; rfl
  rw [run1, st]
  rfl
end Mine
end
section
open PySem PySem.W PyProof.Rows PySem.Calls PySem.Spec
namespace Mine
open PySem.Builtin.Re
section
variable {w : World} {M : Model} {A : Around} {E : Value → Shared → Prop} {s : Shared}
theorem wpAny_of_eq_fwd {α : Type} {m m' : Sem α} {Q : α → Shared → Prop} (h : m = m') (q : wpAny M A m' Q E s) : wpAny M A m Q E s := h ▸ q
theorem wp_rules {l : List Nat} {p : Nat → Bool} {f : Nat → String} {Q : PUnit → Shared → Prop} (q : Q () s) : wpAny M A (forIn l () fun i _ => if p i = true then do rule (f i); pure (ForInStep.yield ()) else pure (ForInStep.yield ())) Q E s := by
  induction l with
  | nil => exact wpAny_pure q
  | cons x r ih =>
    rw [List.forIn_cons]
    refine wpAny_bind ?_
    cases p x
    · exact KFB.if_not rfl (wpAny_pure ih)
    · exact KFB.if_so rfl (wpAny_bind (wpAny_rule (wpAny_pure ih)))
theorem run_failed {m m' : Sre.M} {Q : Option Sre.M → Shared → Prop} (h : m.runFor reTurnSteps = m') (h' : m'.outcome = some .failed) (q : Q none s) : wpAny M A (reRunToEnd m) Q E s := by
  unfold reRunToEnd
  have e1 : reDrive (2 ^ 64) m = pure m' := by
    have : (2 ^ 64 : Nat) = 18446744073709551615 + 1 := rfl
    rw [this, reDrive, h]
    show (if m'.outcome.isSome = true then pure m' else _) = _
    rw [h']
    rfl
  rw [e1]
  refine wpAny_bind (wpAny_pure ?_)
  refine wpAny_bind (wp_rules ?_)
  rw [h']
  exact wpAny_pure q
theorem whole_ok {X : XS} {text : Array Nat} {tk : Tok} {Q : ReTarget → Shared → Prop} (S : Sta X s.heap) (q : Q { pattern := .ref 43, string := .str ⟨text⟩ tk, code := code42, text := text, kind := 0, groups := 1, pos := 0, lim := text.size } s) : wpAny M A (reWholeTarget (.ref 43) (.str ⟨text⟩ tk)) Q E s := by
  have h43 := S.obs (43, o43) (by simp [oTab])
  have h42 := S.obs (42, o42) (by simp [oTab])
  unfold reWholeTarget
  refine wpAny_bind (m := fieldsOf (.ref 43)) ?_
  unfold fieldsOf
  refine wpAny_bind (wpAny_load h43 (wpAny_pure ?_))
  refine wpAny_bind (wpAny_of_eq (a := (text, 0)) rfl ?_)
  refine wpAny_ite_false (by decide) ?_
  refine wpAny_ite_false (by decide) ?_
  refine wpAny_bind (wpAny_of_eq (a := ()) rfl ?_)
  refine wpAny_bind (m := reRawItems (.ref 42)) ?_
  unfold reRawItems
  refine wpAny_bind (wpAny_seqItems h42 rfl (wpAny_pure ?_))
  refine wpAny_pure ?_
  have ec : Array.map (fun x : Int => x.toNat) (Array.map reRawOf (match o42.data with | .seq xs _ => xs | _ => #[])) = code42 := by decide +kernel
  show Q { pattern := .ref 43, string := .str ⟨text⟩ tk, code := Array.map (fun x : Int => x.toNat) (Array.map reRawOf (match o42.data with | .seq xs _ => xs | _ => #[])), text := text, kind := 0, groups := 1, pos := 0, lim := text.size } s
  rw [ec]
  exact q
end
/-- a text of signs is given back -/
theorem loop_ok {w : World} {A : Around} {E : Value → Shared → Prop} {s : Shared} {X : XS} {text : Array Nat} {tk : Tok} {f l : Addr} {Q : Fin → Shared → Prop} (S : Sta X s.heap) (hh : A.handled = none) (hl : PlainL s.heap l #[]) (hne : 0 < text.size) (hz : text.size ≤ 1000) (ht : ∀ i, i < text.size → text.getD i 0 ∈ AL)
    (q : ∀ h' tk' t k, PlainL h' l #[.str ⟨text⟩ tk'] → Heap.SameBut l s.heap h' → Q (.done (.ret (.str ⟨text⟩ t))) { s with heap := h', toks := k }) :
    wpAny (model PW w) A (Builtin.«re.Pattern.sub.loop» ⟨[.ref 43, .str ⟨text⟩ tk, .ref f, rawInt 1, rawInt 0, rawInt 0, rawInt 0, rawInt 0, .bool false, .ref l, .bool false], []⟩) Q E s := by
  obtain ⟨m, e, o⟩ := search_no hne ht
  unfold Builtin.«re.Pattern.sub.loop»
  refine wpAny_bind (whole_ok S ?_)
  refine wpAny_ite_false (by decide) ?_
  refine wpAny_bind ?_
  refine wpAny_ite_false (by decide) ?_
  refine run_failed (m := Sre.forSearch code42 text 1 0 text.size false) e o ?_
  dsimp only
  refine wpAny_ite_true (decide_eq_true hne) ?_
  refine wpAny_bind ?_
  have ex : text.extract 0 text.size = text := by simp
  refine wpAny_of_eq_fwd (show reSlice text 0 (Int.toNat 0) text.size = mkStr ⟨text⟩ by show mkStr ⟨text.extract 0 text.size⟩ = _; rw [ex]) ?_
  refine wpAny_mkStr ?_ (by show text.size ≤ _; unfold sizeLine; omega)
  obtain ⟨o, n, ho, hc, hdn, hd⟩ := id hl
  obtain ⟨n', hd'⟩ := Obj.data_mapSeq hd (·.push (.str ⟨text⟩ s.toks))
  refine wpAny_bind (wpAny_updateSeq ho hd ?_)
  have g1 := Heap.get?_update_self (h := s.heap) (a := l) (fun o => o.mapSeq (·.push (.str ⟨text⟩ s.toks))) ho (Obj.isFreed_of_seq hd')
  have sb : Heap.SameBut l s.heap (s.heap.update l fun o => o.mapSeq (·.push (.str ⟨text⟩ s.toks))) := Heap.SameBut.update ..
  have hl1 : PlainL (s.heap.update l fun o => o.mapSeq (·.push (.str ⟨text⟩ s.toks))) l #[.str ⟨text⟩ s.toks] := by
    refine ⟨_, n', g1, (Obj.cls_mapSeq ..).trans hc, ?_, hd'⟩
    obtain ⟨c, d, dt, sl⟩ := o
    simp only at hd
    subst hd
    exact hdn
  refine wpAny_bind (wpAny_of_eq_fwd (show reSlice text 0 0 0 = mkStr ⟨#[]⟩ by show mkStr ⟨text.extract 0 0⟩ = _; congr 2; simp) ?_)
  refine wpAny_mkStr ?_ (by show 0 ≤ _; decide)
  refine wpAny_bind (wpAny_seqItems g1 hd' ?_)
  refine wpAny_ite_false rfl ?_
  refine wpAny_bind (join_list (ys := [⟨text⟩]) hl1.isList (.cons _ _ .nil) (by show text.size + 0 + 1 * 0 ≤ _; omega) fun t' k => ?_)
  refine wpAny_ite_false rfl ?_
  have ej : Txt.join ⟨#[]⟩ [⟨text⟩] = ⟨text⟩ := by
    have := join_flat [⟨text⟩]
    rw [show (⟨#[]⟩ : Str) = mk [] from rfl, this]
    simp
  rw [ej]
  exact wpAny_pure (q _ _ _ _ hl1 sb)
end Mine
end
section
open PySem PySem.W PyProof.Rows PySem.Calls PySem.Spec
namespace Mine
open PySem.Builtin.Re
theorem sub_slot : Slot "re.Pattern" "sub" "re.Pattern.sub" :=
  .of (owner := "re.Pattern") (n := "sub") (by rw [typeLookup_type, builtinLookup_eq_fast]; kernel_rfl) (by decide +kernel) (by decide +kernel) (by decide +kernel)
    (by first | exact .inl (by decide +kernel) | exact .inr (by decide +kernel)) (by rw [isSubtype_type]; kernel_rfl)
theorem sub_entry : entryFor table "re.Pattern.sub" = some Builtin.«re.Pattern.sub» := entryFor_of_tree (by kernel_rfl)
theorem loop_entry : entryFor table "re.Pattern.sub.loop" = some Builtin.«re.Pattern.sub.loop» := entryFor_of_tree (by kernel_rfl)
theorem sub_args (a b c : Value) : argsOk "re.Pattern.sub" ⟨[a, b, c], []⟩ := by unfold argsOk; kernel_rfl
theorem sub_type : typeOf (.builtin "re.Pattern.sub") = pure (.type "method_descriptor") := by show builtinType _ = _; rw [builtinType_eq_fast]; kernel_rfl
theorem pat_attrs : PlainAttrs "re.Pattern" := ⟨⟨"object.__getattribute__", by rw [typeLookup_type, builtinLookup_eq_fast]; kernel_rfl, by decide +kernel⟩, by rw [typeLookup_type, builtinLookup_eq_fast]; kernel_rfl⟩
theorem fn_call : ∃ v, typeLookup (.type "function") "__call__" = pure (some v) := ⟨.builtin "function.__call__", by rw [typeLookup_type, builtinLookup_eq_fast]; kernel_rfl⟩
theorem sub_str_ba : isSubtype (.type "str") (.type "bytearray") = pure false := by rw [isSubtype_type]; kernel_rfl
theorem loop_quiet {as : Args} : (Code.builtin "re.Pattern.sub.loop" as).quiet = true := Code.quiet_builtin _ (by decide +kernel)
theorem call_sub {w : World} {A : Around} {E : Value → Shared → Prop} {s : Shared} {X : XS} {text : Array Nat} {tk : Tok} {f : Addr} {of : Obj} {Q : Value → Shared → Prop} (S : Sta X s.heap) (hh : A.handled = none) (hf : s.heap.get? f = some of) (hfc : of.cls = .type "function") (hne : 0 < text.size) (hz : text.size ≤ 1000) (ht : ∀ i, i < text.size → text.getD i 0 ∈ AL)
    (q : ∀ t s', Go s s' → Q (.str ⟨text⟩ t) s') :
    wpAny (model PW w) A (call (.builtin "re.Pattern.sub") [.ref 43, .ref f, .str ⟨text⟩ tk]) Q E s := by
  have h43 := S.obs (43, o43) (by simp [oTab])
  have hT : s.TypeIs (.ref 43) "re.Pattern" := ⟨o43, h43, rfl⟩
  refine wpAny_call (codeAny_call_builtin sub_slot.plain sub_entry (sub_slot.check _ _ _ _ _ _ _ _ hT (sub_args _ _ _) ?_))
  unfold Builtin.«re.Pattern.sub» reSubstitute
  refine wpAny_bind (wpAny_of_eq (a := [some (.ref f), some (.str ⟨text⟩ tk), none]) rfl ?_)
  refine wpAny_bind (wpAny_of_eq (a := (0 : Int)) rfl ?_)
  obtain ⟨cv, hcv⟩ := fn_call
  refine wpAny_bind (wpAny_specialOf (T := "function") ⟨of, hf, hfc⟩ hcv ?_)
  refine wpAny_bind (wpAny_of_eq (a := false) rfl ?_)
  refine wpAny_bind (wpAny_of_eq (a := (.ref f, 1)) rfl ?_)
  dsimp only
  refine wpAny_bind (wpAny_holding (whole_ok S ?_))
  refine wpAny_ite_true rfl ?_
  refine wpAny_bind ?_
  unfold reNotHeld
  refine wpAny_bind (wpAny_isInstance_val (T := "str") rfl sub_str_ba ?_)
  refine wpAny_ite_false rfl ?_
  refine wpAny_pure ?_
  refine wpAny_bind (wpAny_newList ?_ (by decide))
  have g₁ := Go.push s { cls := .type "list", data := .seq ([] : List Value).toArray } s.toks
  refine wpAny_pure ⟨loop_quiet, codeAny_builtin loop_entry ?_⟩
  have hp : PlainL (s.heap.push { cls := .type "list", data := .seq ([] : List Value).toArray }) s.heap.objs.size #[] := ⟨_, 0, Heap.get?_push_size _ rfl, rfl, rfl, rfl⟩
  refine loop_ok (g₁.sta S) hh hp hne hz ht fun h' tk' t k _ sb => ?_
  exact q _ _ ⟨rfl, rfl, rfl, .of_keep fun b o e => (sb.2 b (Nat.ne_of_lt (Heap.lt_size e))).trans (Heap.get?_push_of_some _ e)⟩
section
variable {w : World} {n : Nat} {env : Env} {ρ : Rho}
/-- the lambda is made -/
theorem lam_ok {X : XS} {A : Around} {s : Shared} {E Q : Value → Shared → Prop} {largs : Arguments} {lbody : PySem.Expr} {lscope : Scope} {lp : Pos} (I : IE X env ρ s) (hcode : env.code = .ref 68) (hcl : closureFor lscope env = pure []) (hd : defaultsOf largs env = ([], []))
    (q : ∀ f s', Go s s' → (∃ o, s'.heap.get? f = some o ∧ o.cls = .type "function") → Q (.ref f) s') : wpAny (model PW w) A (eval (.Lambda largs lbody lscope lp) env) Q E s := by
  show wpAny _ _ (do let (d, kd) := defaultsOf largs env; let dv ← evalAll d; let kdv ← holding dv (evalAllOpt kd); makeFunction "<lambda>" (env.qual ++ "<lambda>") largs (.expr lbody) lscope env dv kdv [] lp lp.line) _ _ _
  rw [hd]
  refine wpAny_bind (wpAny_evalAll_nil ?_)
  refine wpAny_bind (wpAny_of_eq (a := []) rfl ?_)
  obtain ⟨mg, hm, _, hb⟩ := I.sta.ns
  obtain ⟨ps, hP, ht⟩ := I.sta.tab
  cases hf : codeAmong lp ps.toList with
  | some cv =>
    refine kla_makeFunctionHit hcl I.ok.globals hm hcode I.sta.cod hP ht hf hb fun ctv h' tk hk hs => ?_
    exact q _ _ ⟨rfl, rfl, rfl, .of_keep fun b o e => Heap.get?_push_of_some _ (hk b o e)⟩ ⟨_, Heap.get?_push_size _ rfl, rfl⟩
  | none =>
    refine kla_makeFunction hcl I.ok.globals hm hcode I.sta.cod hP ht hf (by decide) hb fun c' ctv h' tk he hc hlt hcr hP' => ?_
    refine q _ _ ⟨rfl, rfl, rfl, ⟨fun b o nb e => Heap.get?_push_of_some _ (he b o nb e), fun _ => ⟨_, Heap.get?_push_of_some _ hP', ?_⟩⟩⟩ ⟨_, Heap.get?_push_size _ rfl, rfl⟩
    have := TriplesOk_snoc lp.line lp.col (.ref c') ps.toList ht
    simpa using this
theorem ev_twin {np apos pos lp : Pos} {largs : Arguments} {lbody e : PySem.Expr} {lscope : Scope} {text : Array Nat} (kd : env.kindOf "_twin_re_1" = some .globalImplicit) (hcode : env.code = .ref 68) (hcl : closureFor lscope env = pure []) (hd : defaultsOf largs env = ([], [])) (he : EV w n env ρ e (.str ⟨text⟩))
    (hne : 0 < text.size) (hz : text.size ≤ 1000) (ht : ∀ i, i < text.size → text.getD i 0 ∈ AL)
    (h1 : attributeBase (.Name "_twin_re_1" np) "sub" env (eval (.Name "_twin_re_1" np) env) = eval (.Name "_twin_re_1" np) env) (h2 : ((((backTo pos (starEach [.Lambda largs lbody lscope lp, e] env)).all fun x => !x.fst) && (backToKw pos (keywordEach [] env)).all fun x => x.fst.isSome) && decide (([PySem.Expr.Lambda largs lbody lscope lp, e].length + ([] : List Keyword).length + if ([] : List Keyword).isEmpty = true then 0 else 1) < 30)) = true)
    (h3 : (apos.endLine == pos.line) = true) (h4 : starEach [.Lambda largs lbody lscope lp, e] env = (false, eval (.Lambda largs lbody lscope lp) env) :: starEach [e] env) (h5 : starEach [e] env = (false, eval e env) :: starEach [] env) (hn : (backTo pos (starEach [.Lambda largs lbody lscope lp, e] env)).any (·.1) = false) :
    EV w n env ρ (.Call (.Attribute (.Name "_twin_re_1" np) "sub" apos) [.Lambda largs lbody lscope lp, e] [] pos) (.str ⟨text⟩) := by
  refine ⟨?_⟩
  intro X A s Q E g I q
  refine wpAny_Call_method h1 h2 h3 pat_attrs sub_slot sub_type ((ev_global (x := "_twin_re_1") (v := .ref 43) kd rfl).run X A s _ _ g I fun v s₁ g₁ r₁ => ?_)
  cases r₁
  have I₁ := I.mono g₁
  have h43 := I₁.sta.obs (43, o43) (by simp [oTab])
  refine ⟨⟨o43, h43, rfl⟩, fun b e => by cases e; exact ⟨o43, h43, rfl⟩, ?_⟩
  refine callWith_builtin hn (evalArgs_of hn ?_)
  refine wpAny_items_cons (lam_ok I₁ hcode hcl hd fun f s₂ g₂ hf => ?_) h4
  have I₂ := I₁.mono g₂
  obtain ⟨of, hf1, hf2⟩ := hf
  have hfp : f ≠ PT := by
    rintro rfl
    obtain ⟨ps, e', _⟩ := I₂.sta.tab
    rw [hf1] at e'
    cases e'
    cases hf2
  refine wpAny_items_cons (he.run X A s₂ _ _ g I₂ fun v s₃ g₃ r₃ => ?_) h5
  have I₃ := I₂.mono g₃
  refine wpAny_items_nil ?_
  cases r₃
  exact call_sub I₃.sta g.handled (g₃.ext.keep _ _ hfp hf1) hf2 hne hz ht fun t s' g' => q _ _ (((g₁.trans g₂).trans g₃).trans g') (.str _ _)
end
end Mine
end
section
open PySem PySem.W PyProof.Rows PySem.Calls PySem.Spec
open PySem.Builtin PySem.Builtin.Str
namespace Mine
section
variable {w : World} {n : Nat} {env : Env} {ρ : Rho}
theorem co_in {c : Nat} {x : PySem.Str} : CO w n .In (.str ⟨#[c]⟩) (.str x) (decide (c ∈ x.cps.toList)) := by
  refine ⟨?_⟩
  rintro X A s Q E u v g S ⟨⟩ ⟨⟩ q
  exact PySem.P.in_str (by rw [StrLaws.found_one]; exact q _ (Go.refl _))
theorem co_notin {c : Nat} {x : PySem.Str} : CO w n .NotIn (.str ⟨#[c]⟩) (.str x) (!decide (c ∈ x.cps.toList)) := by
  refine ⟨?_⟩
  rintro X A s Q E u v g S ⟨⟩ ⟨⟩ q
  exact PySem.P.notIn_str (by rw [StrLaws.found_one]; exact q _ (Go.refl _))
theorem et_str {e : PySem.Expr} {x : PySem.Str} (h : EV w n env ρ e (.str x)) (hl : x.length ≤ 1000000) (he : isTrue e env (eval e env) = (do let v ← eval e env; standAt e.pos; holding [v] (truthy v)) := by rfl) : ET w n env ρ e (x.length != 0) :=
  et_val h (fun X A s v Q E r q => by
    cases r
    have e1 : ((x.length : Int) != 0) = (x.length != 0) := by
      by_cases hz : x.length = 0
      · rw [hz]; rfl
      · have h1 : (x.length != 0) = true := by simpa using hz
        have h2 : ((x.length : Int) != 0) = true := by simp; omega
        rw [h1, h2]
    exact PySem.P.truthy_str (by omega) (by rw [e1]; exact q _ (Go.tok _ _))) he
theorem no_occ {x : PySem.Str} {c L : Nat} (h : c ∉ x.cps.toList) : (occurrences x ⟨#[c]⟩ 0 x.length L).isEmpty = true := by
  cases hc : occurrences x ⟨#[c]⟩ 0 x.length L with
  | nil => rfl
  | cons i r =>
    have sp := StrLaws.occ_spec x ⟨#[c]⟩ 0 x.length L i (by rw [hc]; exact .head _)
    have := (StrLaws.found_iff x ⟨#[c]⟩).mpr ⟨i, sp⟩
    rw [StrLaws.found_one] at this
    exact absurd (of_decide_eq_true this) h
theorem call_replace_none {x z : PySem.Str} {c : Nat} (h : c ∉ x.cps.toList) : CALL w n (.builtin "str.replace") [.str x, .str ⟨#[c]⟩, .str z] (.str x) := by
  refine ⟨?_⟩
  rintro X A s Q E vs g S (_ | ⟨⟨⟩, _ | ⟨⟨⟩, _ | ⟨⟨⟩, _ | _⟩⟩⟩) q
  rename_i t u v
  have hc : ((occurrences x ⟨#[c]⟩ 0 x.length (x.length + 1)).isEmpty || ((⟨#[c]⟩ : PySem.Str).length == 0 && z.length == 0)) = true := by rw [no_occ h]; rfl
  refine call_gives PySem.F.slot_str_replace (typeIs_str _ _ _) PySem.F.entry_str_replace (PySem.F.args_str_replace_3 _ _ _) (gives_str_replace x ⟨#[c]⟩ z t u v fun hh => by rw [hc] at hh; cases hh) ?_
  rw [if_pos hc]
  exact q _ _ (Go.refl _) (.str _ _)
/-- one of two signs -/
theorem et_in2 {l e1 e2 : PySem.Expr} {x a b : PySem.Str} {k : Nat} {tp pos : Pos} (hl : EV w n env ρ l (.str x)) (he : EVs w n env ρ tp [e1, e2] [.str a, .str b]) : ET w n env ρ (.Compare l [.In] [.Tuple [e1, e2] k tp] pos) (a == x || b == x) := by
  refine ⟨?_⟩
  intro X A s Q E g I q
  refine wpAny_isTrue_Compare1 (hl.run X A s _ _ g I fun u s₁ g₁ r₁ => ?_) rfl
  have I₁ := I.mono g₁
  refine wpAny_Tuple_spliced (he.run X A s₁ _ _ g I₁ fun vs s₂ g₂ r₂ => ⟨by rw [r₂.length]; show 2 ≤ _; decide, ?_⟩)
  have r₁' := g₂.rd I₁.sta r₁
  cases r₁'
  obtain ⟨v1, v2, rfl, ra, rb⟩ := rds_two r₂
  cases ra
  cases rb
  refine SeqAt.in_tupleAt (fun y => match y with | .str z _ => z == x | _ => false) (items := [_, _].toArray) ⟨_, Heap.get?_push_size _ rfl, rfl, _, rfl⟩ (fun y hy => ?_) ?_
  · simp only [List.mem_toArray, List.mem_cons, List.not_mem_nil, or_false] at hy
    rcases hy with rfl | rfl <;> exact (eqGives_str _ _ _ _).at _ _
  · refine wpAny_truthy_bool ?_
    have e : ∀ t u, ([Value.str a t, Value.str b u].toArray.any fun y => match y with | .str z _ => z == x | _ => false) = (a == x || b == x) := by simp
    rw [e]
    exact q _ ((g₁.trans g₂).trans (Go.push _ _ _))

/-- a part of a text that is put together -/
inductive PArt : Type where
  | mk
structure FP (w : World) (n : Nat) (env : Env) (ρ : Rho) (es : List PySem.Expr) (ys : List PySem.Str) : Prop where
  run : ∀ (X : XS) (A : Around) (s : Shared) (acc : PySem.Str) (Q : PySem.Str → Shared → Prop) (E : Value → Shared → Prop), GA n A → IE X env ρ s → (acc.length + (ys.map (·.length)).sum ≤ sizeLine) → (∀ s', Go s s' → Q (ys.foldl (· ++ ·) acc) s') → Joins (model PW w) A E (evalEach es env) acc Q s
theorem fp_nil : FP w n env ρ [] [] := ⟨fun _ _ _ _ _ _ _ _ _ q => q _ (Go.refl _)⟩
theorem fp_str {x : PySem.Str} {k : Nat} {p : Pos} {es : List PySem.Expr} {ys : List PySem.Str} (h : FP w n env ρ es ys) : FP w n env ρ (.Constant (.str x) k p :: es) (x :: ys) := by
  refine ⟨fun X A s acc Q E g I hl q => ?_⟩
  show wpAny _ _ (eval (.Constant (.str x) k p) env) (fun v s₁ => ∃ y t, v = .str y t ∧ (acc ++ y).length ≤ sizeLine ∧ Joins _ A E (evalEach es env) (acc ++ y) Q s₁) E s
  simp only [List.map_cons, List.sum_cons] at hl
  refine wpAny_Constant_str ⟨x, _, rfl, by rw [strLen_append]; omega, ?_⟩
  exact h.run X A _ (acc ++ x) Q E g (I.mono (Go.tok _ _)) (by rw [strLen_append]; omega) fun s' g' => q s' ((Go.tok _ _).trans g')
theorem fp_val {e : PySem.Expr} {x : PySem.Str} {p : Pos} {es : List PySem.Expr} {ys : List PySem.Str} (he : EV w n env ρ e (.str x)) (h : FP w n env ρ es ys) : FP w n env ρ (.FormattedValue e (-1) none p :: es) (x :: ys) := by
  refine ⟨fun X A s acc Q E g I hl q => ?_⟩
  show wpAny _ _ (eval (.FormattedValue e (-1) none p) env) (fun v s₁ => ∃ y t, v = .str y t ∧ (acc ++ y).length ≤ sizeLine ∧ Joins _ A E (evalEach es env) (acc ++ y) Q s₁) E s
  simp only [List.map_cons, List.sum_cons] at hl
  refine wpAny_FormattedValue_plain (he.run X A s _ _ g I fun v s₁ g₁ r₁ => ?_)
  cases r₁
  have I₁ := I.mono g₁
  refine wpAny_formatField_str ⟨x, _, rfl, by rw [strLen_append]; omega, ?_⟩ ⟨x, _, rfl, by rw [strLen_append]; omega, ?_⟩ (by omega)
  · exact h.run X A _ (acc ++ x) Q E g I₁ (by rw [strLen_append]; omega) fun s' g' => q s' (g₁.trans g')
  · exact h.run X A _ (acc ++ x) Q E g (I₁.mono (Go.tok _ _)) (by rw [strLen_append]; omega) fun s' g' => q s' (g₁.trans ((Go.tok _ _).trans g'))
theorem ev_fstr {e1 e2 : PySem.Expr} {es : List PySem.Expr} {ys : List PySem.Str} {p : Pos} (h : FP w n env ρ (e1 :: e2 :: es) ys) (hl : (ys.map (·.length)).sum ≤ sizeLine) : EV w n env ρ (.JoinedStr (e1 :: e2 :: es) p) (.str (ys.foldl (· ++ ·) PySem.Str.empty)) := by
  refine ⟨fun X A s Q E g I q => ?_⟩
  refine wpAny_JoinedStr (h.run X A s _ _ E g I (by show 0 + _ ≤ _; omega) fun s' g' => ⟨?_, q _ _ (g'.trans (Go.tok _ _)) (.str _ _)⟩)
  have : ∀ (ys : List PySem.Str) (acc : PySem.Str), (ys.foldl (· ++ ·) acc).length = acc.length + (ys.map (·.length)).sum := by
    intro ys
    induction ys with
    | nil => intro acc; simp
    | cons y r ih => intro acc; rw [List.foldl_cons, ih, strLen_append, List.map_cons, List.sum_cons]; omega
  rw [this]
  show 0 + _ ≤ _
  omega
end
end Mine
end
section
open PySem PySem.W PyProof.Rows PySem.Calls PySem.Spec
set_option maxRecDepth 100000
namespace Mine
theorem ob_mro : mroOf (.type "object") = pure [.type "object"] := by rw [mroOf_type]; kernel_rfl
theorem ob_lookup_new : typeLookup (.type "object") "__new__" = pure (some (.builtin "object.__new__")) := by rw [typeLookup_type, builtinLookup_eq_fast]; kernel_rfl
theorem ob_slot_init : Slot "object" "__init__" "object.__init__" :=
  .of (owner := "object") (n := "__init__") (by rw [typeLookup_type, builtinLookup_eq_fast]; kernel_rfl) (by decide +kernel) (by decide +kernel) (by decide +kernel)
    (by first | exact .inl (by decide +kernel) | exact .inr (by decide +kernel)) (by rw [isSubtype_type]; kernel_rfl)
theorem ob_made : Bind.madeBy (.type "object") = pure (some "object.__new__") := madeBy_type ob_mro ob_lookup_new (by decide +kernel)
theorem ob_called : TypeCalled "object" "object.__new__" "object.__init__" :=
  ⟨by decide +kernel, by decide +kernel, ⟨_, _, ob_mro⟩, ob_made, by decide +kernel, by rw [isSubtype_type]; kernel_rfl, ob_slot_init⟩
theorem ob_typeCall : checkTypeCall "object" ⟨[], []⟩ = pure () := by kernel_rfl
theorem ob_newCall : checkBuiltinCall "object.__new__" ⟨[.type "object"], []⟩ = pure () := by kernel_rfl
theorem ob_plain : plainId "object.__new__" = true := by decide +kernel
theorem ob_entry : entryFor table "object.__new__" = some Builtin.«object.__new__» := by first | exact entryFor_of_fast (by kernel_rfl) | exact entryFor_of_tree (by kernel_rfl)
theorem ob_args (a : Value) : argsOk "object.__init__" ⟨[a], []⟩ := by unfold argsOk; kernel_rfl
section
variable {prog : Program} {w : World} {A : Around} {E : Value → Shared → Prop} {s : Shared}
theorem run_objnew {Q : Fin → Shared → Prop} (q : Q (.done (.ret (.ref s.heap.objs.size))) { s with heap := s.heap.push { cls := .type "object", data := .plain } }) : wpAny (model prog w) A (Builtin.«object.__new__» ⟨[.type "object"], []⟩) Q E s := by
  obtain ⟨hp, g, d, tk, os⟩ := s
  have f1 := ob_made
  unfold Builtin.«object.__new__»
  repeat (any_goals (first | assumption | wp_step))
theorem call_objnew {Q : Value → Shared → Prop} (q : Q (.ref s.heap.objs.size) { s with heap := s.heap.push { cls := .type "object", data := .plain } }) : wpAny (model prog w) A (call (.type "object") []) Q E s := by
  refine callType_codes (Q₁ := fun obj s₁ => s₁.TypeIs obj "object" ∧ Q obj s₁) ob_called ob_typeCall PySem.F.entry_object_init (codeAny_of_tree ?_) fun obj s₁ h₁ => ?_
  · show wpAny _ A.in1.in1 (do checkBuiltinCall "object.__new__" ⟨[.type "object"], []⟩; again (.builtin "object.__new__" ⟨[.type "object"], []⟩)) _ _ s
    refine wpAny_bind (wpAny_of_eq ob_newCall (wpAny_pure ⟨plainId_quiet ob_plain _, codeAny_builtin ob_entry ?_⟩))
    rw [Around.under_plainId ob_plain _]
    exact run_objnew ⟨⟨_, Heap.get?_push_size _ rfl, rfl⟩, q⟩
  · exact ⟨h₁.1, ob_args _, wpAny_pure ⟨rfl, h₁.2⟩⟩
end
end Mine
end
section
open PySem PySem.W PyProof.Rows PySem.Calls PySem.Spec
namespace Mine
theorem call_obj {w : World} {n : Nat} : CALL w n (.type "object") [] .any := by
  refine ⟨?_⟩
  rintro X A s Q E vs g S (_ | _) q
  exact call_objnew (q _ _ (Go.push _ _ s.toks) (.any _))
theorem sign_ne {c d : Nat} (h : c ≠ d) : (mk [c] == mk [d]) = false := by
  have : mk [c] ≠ mk [d] := fun e => h (by
    have e1 : (mk [c]).cps = (mk [d]).cps := congrArg Str.cps e
    simpa using e1)
  simpa using this
theorem sign_eq {c : Nat} : (mk [c] == mk [c]) = true := by simp
section
variable {w : World} {n : Nat}
theorem co_lt_t {a b : Int} (h : a < b) : CO w n .Lt (.int a) (.int b) true := by have := co_lt (w := w) (n := n) (a := a) (b := b); rwa [decide_eq_true h] at this
theorem co_lt_f {a b : Int} (h : ¬ a < b) : CO w n .Lt (.int a) (.int b) false := by have := co_lt (w := w) (n := n) (a := a) (b := b); rwa [decide_eq_false h] at this
theorem co_ge_f {a b : Int} (h : ¬ a ≥ b) : CO w n .GtE (.int a) (.int b) false := by have := co_ge (w := w) (n := n) (a := a) (b := b); rwa [decide_eq_false h] at this
theorem co_eqs_t {c : Nat} : CO w n .Eq (.str (mk [c])) (.str (mk [c])) true := by have := co_eqs (w := w) (n := n) (a := mk [c]) (b := mk [c]); rwa [sign_eq] at this
theorem co_eqs_f {c d : Nat} (h : c ≠ d) : CO w n .Eq (.str (mk [c])) (.str (mk [d])) false := by have := co_eqs (w := w) (n := n) (a := mk [c]) (b := mk [d]); rwa [sign_ne h] at this
theorem co_nes_t {c d : Nat} (h : c ≠ d) : CO w n .NotEq (.str (mk [c])) (.str (mk [d])) true := by
  have := co_nes (w := w) (n := n) (a := mk [c]) (b := mk [d])
  have e : (mk [c] != mk [d]) = true := by show (!(mk [c] == mk [d])) = true; rw [sign_ne h]; rfl
  rwa [e] at this
theorem co_nes_f {c : Nat} : CO w n .NotEq (.str (mk [c])) (.str (mk [c])) false := by
  have := co_nes (w := w) (n := n) (a := mk [c]) (b := mk [c])
  have e : (mk [c] != mk [c]) = false := by show (!(mk [c] == mk [c])) = false; rw [sign_eq]; rfl
  rwa [e] at this
end
structure JT (a : Addr) (P : List Nat) (i : Nat) (out : List D) (ρ : Rho) : Prop where
  pat : lk ρ "pat" = some (.str (mk P))
  qm : lk ρ "QUESTION_MARK" = some (.str (mk [46]))
  res : lk ρ "res" = some (.raw (.ref a))
  add : lk ρ "add" = some (.obj (boundApp a))
  n : lk ρ "n" = some (.int P.length)
  i : lk ρ "i" = some (.int i)
  out : lk ρ "$res" = some (.list out)
theorem lk_ne' {x y : Str} {d e : D} {ρ : Rho} (h : lk ρ y = some e) (n : y ≠ x) : lk (put x d ρ) y = some e := by
  show (put x d ρ).lookup y = _
  rw [put_lookup, if_neg n]
  exact h
theorem JT.other {a P i out ρ} (j : JT a P i out ρ) {x : Str} {d : D} (hx : (["pat", "QUESTION_MARK", "res", "add", "n", "i", "$res"] : List Str).all (fun y => !(y == x)) = true := by decide) : JT a P i out (put x d ρ) := by
  have k : ∀ y ∈ (["pat", "QUESTION_MARK", "res", "add", "n", "i", "$res"] : List Str), y ≠ x := fun y hy => by
    have := List.all_eq_true.mp hx y hy
    simpa using this
  exact ⟨lk_ne' j.pat (k _ (by simp)), lk_ne' j.qm (k _ (by simp)), lk_ne' j.res (k _ (by simp)), lk_ne' j.add (k _ (by simp)), lk_ne' j.n (k _ (by simp)), lk_ne' j.i (k _ (by simp)), lk_ne' j.out (k _ (by simp))⟩
theorem JT.seti {a P i out ρ} (j : JT a P i out ρ) (k : Nat) {d : D} (e : d = .int k) : JT a P k out (put "i" d ρ) := by
  subst e
  exact ⟨lk_ne j.pat, lk_ne j.qm, lk_ne j.res, lk_ne j.add, lk_ne j.n, lk_self, lk_ne j.out⟩
theorem JT.more {a P i out ρ} (j : JT a P i out ρ) (o : List D) : JT a P i o (put "$res" (.list o) ρ) :=
  ⟨lk_ne j.pat, lk_ne j.qm, lk_ne j.res, lk_ne j.add, lk_ne j.n, lk_ne j.i, lk_self⟩
noncomputable abbrev cxT (L : Nat) (s₀ : Shared) (X : XS) (a : Addr) : Cx := { env := envFn 9 69 L (.ref 68), s₀ := s₀, X := X, grow := [("$res", a)] }
noncomputable def theWhile : List PySem.Stmt := match ((theFn 9).2.2.1)[3]? with
  | some (PySem.Stmt.While _ b _ _) => b
  | _ => []
set_option maxRecDepth 20000
set_option maxHeartbeats 4000000
section
variable {w : World} {n L : Nat} {s₀ : Shared} {X : XS} {a : Addr} {P : List Nat} {i : Nat} {out : List D} {ρ : Rho} {Φ : Fl → Rho → Prop}
/-- a sign that stands for itself -/
theorem turn_sign {c : Nat} (j : JT a P i out ρ) (hc : P[i]? = some c) (hal : c ∈ AL) (hP : P.length ≤ 100) (ho : out.length ≤ 100) (q : ∀ ρ', JT a P (i + 1) (out ++ [.str (mk (escOf c))]) ρ' → Φ .next ρ') :
    EX w (n + 2) (cxT L s₀ X a) ρ theWhile Φ := by
  have ne : c ≠ 42 ∧ c ≠ 63 ∧ c ≠ 91 := (by decide : ∀ c ∈ AL, c ≠ 42 ∧ c ≠ 63 ∧ c ≠ 91) c hal
  have hi : i < P.length := by
    obtain ⟨h, _⟩ := List.getElem?_eq_some_iff.mp hc
    exact h
  refine ex_open (ss := _ :: _) rfl ?_
  refine ex_assign (d := .str (mk [c])) (ev_sign (ev_name j.pat (.inl rfl)) (ev_name j.i (.inl rfl)) (by omega) (by omega) (by simpa using hc)) (.inl rfl) ?_
  have j1 : JT a P i out (put "c" (.str (mk [c])) ρ) := j.other
  refine ex_assign (d := .int (i + 1)) (ev_bin (ev_name j1.i (.inl rfl)) ev_int op_add) (.inl rfl) ?_
  have j2 := j1.seti (d := .int (i + 1)) (i + 1) (by simp)
  have hcl : lk (put "i" (.int (i + 1)) (put "c" (.str (mk [c])) ρ)) "c" = some (.str (mk [c])) := lk_ne lk_self
  refine ex_if (r := false) (et_cmp (ev_name hcl (.inl rfl)) (ev_str (x := mk [42])) (by have := co_eqs (w := w) (n := n + 2) (a := mk [c]) (b := mk [42]); rw [sign_ne ne.1] at this; exact this)) (fun h => nomatch h) fun _ => ?_
  refine ex_if (r := false) (et_cmp (ev_name hcl (.inl rfl)) (ev_str (x := mk [63])) (by have := co_eqs (w := w) (n := n + 2) (a := mk [c]) (b := mk [63]); rw [sign_ne ne.2.1] at this; exact this)) (fun h => nomatch h) fun _ => ?_
  refine ex_if (r := false) (et_cmp (ev_name hcl (.inl rfl)) (ev_str (x := mk [91])) (by have := co_eqs (w := w) (n := n + 2) (a := mk [c]) (b := mk [91]); rw [sign_ne ne.2.2] at this; exact this)) (fun h => nomatch h) fun _ => ?_
  refine ex_cons (es_add (g := "$res") (a := a) (d := .str (mk (escOf c))) (.head _) (ev_name j2.add (.inl rfl)) (ev_call_fn (ev_global rfl rfl) (i := 7) (dV := .none) (kV := .none) (cdv := .ref 61) (by decide) (evs_cons (ev_name hcl (.inl rfl)) evs_nil) (escape_ok hal)) j2.out (Nat.le_trans ho (by decide)) ?_)
  refine ex_nil ?_
  show EX _ _ _ _ _ _
  refine ex_nil ?_
  show EX _ _ _ _ _ _
  refine ex_nil ?_
  show EX _ _ _ _ _ _
  exact ex_nil (q _ (j2.more _))
/-- a question mark -/
theorem turn_quest (j : JT a P i out ρ) (hc : P[i]? = some 63) (hP : P.length ≤ 100) (ho : out.length ≤ 100) (q : ∀ ρ', JT a P (i + 1) (out ++ [.str (mk [46])]) ρ' → Φ .next ρ') :
    EX w (n + 2) (cxT L s₀ X a) ρ theWhile Φ := by
  have hi : i < P.length := by
    obtain ⟨h, _⟩ := List.getElem?_eq_some_iff.mp hc
    exact h
  refine ex_open (ss := _ :: _) rfl ?_
  refine ex_assign (d := .str (mk [63])) (ev_sign (ev_name j.pat (.inl rfl)) (ev_name j.i (.inl rfl)) (by omega) (by omega) (by simpa using hc)) (.inl rfl) ?_
  have j1 : JT a P i out (put "c" (.str (mk [63])) ρ) := j.other
  refine ex_assign (d := .int (i + 1)) (ev_bin (ev_name j1.i (.inl rfl)) ev_int op_add) (.inl rfl) ?_
  have j2 := j1.seti (d := .int (i + 1)) (i + 1) (by simp)
  have hcl : lk (put "i" (.int (i + 1)) (put "c" (.str (mk [63])) ρ)) "c" = some (.str (mk [63])) := lk_ne lk_self
  refine ex_if (r := false) (et_cmp (ev_name hcl (.inl rfl)) (ev_str (x := mk [42])) (by have := co_eqs (w := w) (n := n + 2) (a := mk [63]) (b := mk [42]); rw [sign_ne (by decide)] at this; exact this)) (fun h => nomatch h) fun _ => ?_
  refine ex_if (r := true) (et_cmp (ev_name hcl (.inl rfl)) (ev_str (x := mk [63])) (by have := co_eqs (w := w) (n := n + 2) (a := mk [63]) (b := mk [63]); rw [sign_eq] at this; exact this)) (fun _ => ?_) (fun h => nomatch h)
  refine ex_cons (es_add (g := "$res") (a := a) (d := .str (mk [46])) (.head _) (ev_name j2.add (.inl rfl)) (ev_name j2.qm (.inl rfl)) j2.out (Nat.le_trans ho (by decide)) ?_)
  refine ex_nil ?_
  show EX _ _ _ _ _ _
  refine ex_nil ?_
  show EX _ _ _ _ _ _
  exact ex_nil (q _ (j2.more _))
/-- a set of signs -/
theorem turn_set {pre br qs : List Nat} (j : JT a (pre ++ [91] ++ br ++ [93] ++ qs) pre.length out ρ) (hbr : ∀ c ∈ br, c ∈ AL) (hne : br ≠ []) (hP : (pre ++ [91] ++ br ++ [93] ++ qs).length ≤ 100) (ho : out.length ≤ 100) (q : ∀ ρ', JT a (pre ++ [91] ++ br ++ [93] ++ qs) (pre.length + br.length + 2) (out ++ [.str (mk ([91] ++ br ++ [93]))]) ρ' → Φ .next ρ') :
    EX w (n + 2) (cxT L s₀ X a) ρ theWhile Φ := by
  generalize hPd : pre ++ [91] ++ br ++ [93] ++ qs = P at j hP q
  have len : P.length = pre.length + br.length + 2 + qs.length := by rw [← hPd]; simp; omega
  have at0 : P[pre.length]? = some 91 := by rw [← hPd]; simp
  have atb : ∀ t, t < br.length → ∃ c, c ∈ AL ∧ P[pre.length + 1 + t]? = some c ∧ br[t]? = some c := fun t ht => by
    refine ⟨br[t], hbr _ (List.getElem_mem ht), ?_, by simp [ht]⟩
    rw [← hPd]
    rw [List.append_assoc, List.append_assoc, List.append_assoc, List.getElem?_append_right (by omega), show pre.length + 1 + t - pre.length = t + 1 by omega]
    show (91 :: (br ++ ([93] ++ qs)))[t + 1]? = _
    rw [List.getElem?_cons_succ, List.getElem?_append_left ht]
    simp [ht]
  have atc : P[pre.length + 1 + br.length]? = some 93 := by
    rw [← hPd]
    rw [List.append_assoc, List.append_assoc, List.append_assoc, List.getElem?_append_right (by omega), show pre.length + 1 + br.length - pre.length = br.length + 1 by omega]
    show (91 :: (br ++ ([93] ++ qs)))[br.length + 1]? = _
    rw [List.getElem?_cons_succ, List.getElem?_append_right (by omega)]
    simp
  have hb0 : 0 < br.length := List.length_pos_iff.mpr hne
  have alne : ∀ c ∈ AL, c ≠ 33 ∧ c ≠ 93 ∧ c ≠ 45 ∧ c ≠ 92 ∧ c ≠ 94 ∧ c ≠ 91 := by decide
  refine ex_open (ss := _ :: _) rfl ?_
  refine ex_assign (d := .str (mk [91])) (ev_sign (ev_name j.pat (.inl rfl)) (ev_name j.i (.inl rfl)) (by omega) (by omega) (by simpa using at0)) (.inl rfl) ?_
  have j1 : JT a P pre.length out (put "c" (.str (mk [91])) ρ) := j.other
  refine ex_assign (d := .int (pre.length + 1)) (ev_bin (ev_name j1.i (.inl rfl)) ev_int op_add) (.inl rfl) ?_
  have j2 := j1.seti (d := .int (pre.length + 1)) (pre.length + 1) (by simp)
  have hcl : lk (put "i" (.int (pre.length + 1)) (put "c" (.str (mk [91])) ρ)) "c" = some (.str (mk [91])) := lk_ne lk_self
  refine ex_if (r := false) (et_cmp (ev_name hcl (.inl rfl)) (ev_str (x := mk [42])) (by have := co_eqs (w := w) (n := n + 2) (a := mk [91]) (b := mk [42]); rw [sign_ne (by decide)] at this; exact this)) (fun h => nomatch h) fun _ => ?_
  refine ex_if (r := false) (et_cmp (ev_name hcl (.inl rfl)) (ev_str (x := mk [63])) (by have := co_eqs (w := w) (n := n + 2) (a := mk [91]) (b := mk [63]); rw [sign_ne (by decide)] at this; exact this)) (fun h => nomatch h) fun _ => ?_
  refine ex_if (r := true) (et_cmp (ev_name hcl (.inl rfl)) (ev_str (x := mk [91])) (by have := co_eqs (w := w) (n := n + 2) (a := mk [91]) (b := mk [91]); rw [sign_eq] at this; exact this)) (fun _ => ?_) (fun h => nomatch h)
  -- j = i
  refine ex_assign (d := .int (pre.length + 1)) (ev_eq (ev_name j2.i (.inl rfl)) (by simp)) (.inl rfl) ?_
  have j3 : JT a P (pre.length + 1) out (put "j" (.int (pre.length + 1)) (put "i" (.int (pre.length + 1)) (put "c" (.str (mk [91])) ρ))) := j2.other
  have hj3 : lk (put "j" (.int (pre.length + 1)) (put "i" (.int (pre.length + 1)) (put "c" (.str (mk [91])) ρ))) "j" = some (.int (pre.length + 1)) := lk_self
  generalize (put "j" (.int (pre.length + 1)) (put "i" (.int (pre.length + 1)) (put "c" (.str (mk [91])) ρ))) = ρ3 at j3 hj3
  clear j1 j2 hcl
  obtain ⟨c0, hc0, hp0, hb1⟩ := atb 0 hb0
  have ev0 : ∀ {ρ : Rho}, lk ρ "pat" = some (.str (mk P)) → lk ρ "j" = some (.int (pre.length + 1)) → ∀ {p p' p''}, EV w (n + 2) (cxT L s₀ X a).env ρ (.Subscript (.Name "pat" p) (.Name "j" p') p'') (.str (mk [c0])) := fun h1 h2 => ev_sign (ev_name h1 (.inl rfl)) (ev_name h2 (.inl rfl)) (by omega) (by omega) (by
    have e : (((pre.length : Int) + 1).toNat) = pre.length + 1 + 0 := by omega
    rw [e]; simpa using hp0)
  refine ex_if (r := false) (et_bool (ea_and (b := true) (c := false) (et_cmp (ev_name hj3 (.inl rfl)) (ev_name j3.n (.inl rfl)) (co_lt_t (by omega))) fun _ => ea_and (b := false) (c := true) (et_cmp (ev0 j3.pat hj3) (ev_str (x := mk [33])) (co_eqs_f (alne c0 hc0).1)) fun h => nomatch h)) (fun h => nomatch h) fun _ => ex_nil ?_
  show EX _ _ _ _ _ _
  refine ex_if (r := false) (et_bool (ea_and (b := true) (c := false) (et_cmp (ev_name hj3 (.inl rfl)) (ev_name j3.n (.inl rfl)) (co_lt_t (by omega))) fun _ => ea_and (b := false) (c := true) (et_cmp (ev0 j3.pat hj3) (ev_str (x := mk [93])) (co_eqs_f (alne c0 hc0).2.1)) fun h => nomatch h)) (fun h => nomatch h) fun _ => ex_nil ?_
  show EX _ _ _ _ _ _
  -- to the end of the set
  refine ex_cons (es_while (fun k ρ' => ∃ t, t + k = br.length ∧ JT a P (pre.length + 1) out ρ' ∧ lk ρ' "j" = some (.int ((pre.length + 1 + t : Nat) : Int))) br.length ⟨0, by omega, j3, by simpa using hj3⟩ fun k ρ' hj => ?_)
  obtain ⟨t, ht, j4, hj4⟩ := hj
  have evt : ∀ {c}, P[pre.length + 1 + t]? = some c → ∀ {p p' p''}, EV w (n + 2) (cxT L s₀ X a).env ρ' (.Subscript (.Name "pat" p) (.Name "j" p') p'') (.str (mk [c])) := fun {c} hc {_ _ _} => ev_sign (ev_name j4.pat (.inl rfl)) (ev_name hj4 (.inl rfl)) (by omega) (by omega) (by rw [Int.toNat_natCast]; simpa using hc)
  by_cases hk : t < br.length
  · obtain ⟨c, hca, hcp, _⟩ := atb t hk
    refine ⟨true, et_bool (ea_and (b := true) (c := true) (et_cmp (ev_name hj4 (.inl rfl)) (ev_name j4.n (.inl rfl)) (co_lt_t (by omega))) fun _ => ea_and (b := true) (c := true) (et_cmp (evt hcp) (ev_str (x := mk [93])) (co_nes_t (alne c hca).2.1)) fun _ => ea_and_nil), fun _ => ?_, fun h => by cases h⟩
    refine ex_assign (d := .int ((pre.length + 1 + t : Nat) + 1 : Int)) (ev_bin (ev_name hj4 (.inl rfl)) ev_int op_add) (.inl rfl) (ex_nil ⟨k - 1, by omega, t + 1, by omega, j4.other, ?_⟩)
    rw [lk_self]
    congr 2
  · have htb : t = br.length := by omega
    subst htb
    refine ⟨false, ?_, ?_, ?_⟩
    · exact et_bool (ea_and (b := true) (c := false) (et_cmp (ev_name hj4 (.inl rfl)) (ev_name j4.n (.inl rfl)) (co_lt_t (by omega))) fun _ => ea_and (b := false) (c := true) (et_cmp (evt atc) (ev_str (x := mk [93])) co_nes_f) fun h => by cases h)
    · exact fun h => by cases h
    intro _
    show EX _ _ _ _ _ _
    refine ex_if (r := false) (et_cmp (ev_name hj4 (.inl rfl)) (ev_name j4.n (.inl rfl)) (co_ge_f (by omega))) (fun h => nomatch h) fun _ => ?_
    -- stuff
    have slb : Txt.slice (mk P) (some ((pre.length + 1 : Nat) : Int)) (some ((pre.length + 1 + br.length : Nat) : Int)) = mk br := by
      rw [slice_mk P (by omega) (by omega)]
      congr 1
      rw [← hPd]
      rw [show pre.length + 1 + br.length - (pre.length + 1) = br.length by omega]
      have e : pre ++ [91] ++ br ++ [93] ++ qs = (pre ++ [91]) ++ (br ++ ([93] ++ qs)) := by simp
      rw [e, List.drop_append_of_le_length (by simp)]
      have e2 : (pre ++ [91]).drop (pre.length + 1) = [] := List.drop_eq_nil_of_le (by simp)
      rw [e2]
      simp
    refine ex_assign (d := .str (mk br)) (ev_eq (ev_slice_str (lo := some ((pre.length + 1 : Nat) : Int)) (hi := some ((pre.length + 1 + br.length : Nat) : Int)) (ev_name j4.pat (.inl rfl)) (show EV _ _ _ _ _ _ from ev_name j4.i (.inl rfl)) (show EV _ _ _ _ _ _ from ev_name hj4 (.inl rfl)) (by rw [mk_len]; unfold sizeLine; omega)) (by rw [slb])) (.inl rfl) ?_
    have no : ∀ d, (∀ c ∈ AL, c ≠ d) → d ∉ (mk br).cps.toList := fun d h hd => by
      have hd' : d ∈ br := by simpa using hd
      exact h d (hbr d hd') rfl
    have n45 : CO w (n + 2) .NotIn (.str (mk [45])) (.str (mk br)) true := by
      have := co_notin (w := w) (n := n + 2) (c := 45) (x := mk br)
      rw [decide_eq_false (no 45 fun c hc => (alne c hc).2.2.1)] at this
      exact this
    have j5 : JT a P (pre.length + 1) out (put "stuff" (.str (mk br)) ρ') := j4.other
    have s5 : lk (put "stuff" (.str (mk br)) ρ') "stuff" = some (.str (mk br)) := lk_self
    have h5 : lk (put "stuff" (.str (mk br)) ρ') "j" = some (.int ((pre.length + 1 + br.length : Nat) : Int)) := lk_ne hj4
    generalize (put "stuff" (.str (mk br)) ρ') = ρ5 at j5 s5 h5
    refine ex_if (r := true) (et_cmp (ev_str (x := mk [45])) (ev_name s5 (.inl rfl)) n45) (fun _ => ?_) (fun h => by cases h)
    refine ex_assign (d := .str (mk br)) (ev_meth (a := .str (mk br)) (ds := [.str (mk [92]), .str (mk [92, 92])]) (ev_name s5 (.inl rfl)) (fun X s v r => by cases r; exact ⟨typeIs_str s _ _, fun _ e => nomatch e⟩) (evs_cons (ev_str (x := mk [92])) (evs_cons (ev_str (x := mk [92, 92])) evs_nil)) (call_replace_none (no 92 fun c hc => (alne c hc).2.2.2.1)) rfl rfl rfl PySem.F.plainAttrs_str PySem.F.slot_str_replace PySem.F.type_str_replace) (.inl rfl) (ex_nil ?_)
    show EX _ _ _ _ _ _
    have j6 : JT a P (pre.length + 1) out (put "stuff" (.str (mk br)) ρ5) := j5.other
    have s6 : lk (put "stuff" (.str (mk br)) ρ5) "stuff" = some (.str (mk br)) := lk_self
    have h6 : lk (put "stuff" (.str (mk br)) ρ5) "j" = some (.int ((pre.length + 1 + br.length : Nat) : Int)) := lk_ne h5
    generalize (put "stuff" (.str (mk br)) ρ5) = ρ6 at j6 s6 h6
    refine ex_assign (d := .str (mk br)) (ev_twin (text := br.toArray) rfl rfl rfl rfl (ev_name s6 (.inl rfl)) (by simpa using hb0) (by simp; omega) (fun i hi => ?_) rfl rfl rfl rfl rfl rfl) (.inl rfl) ?_
    · have hi' : i < br.length := by simpa using hi
      have : br.toArray.getD i 0 = br[i] := by simp [Array.getD, hi']
      rw [this]
      exact hbr _ (List.getElem_mem hi')
    have j7 : JT a P (pre.length + 1) out (put "stuff" (.str (mk br)) ρ6) := j6.other
    have s7 : lk (put "stuff" (.str (mk br)) ρ6) "stuff" = some (.str (mk br)) := lk_self
    have h7 : lk (put "stuff" (.str (mk br)) ρ6) "j" = some (.int ((pre.length + 1 + br.length : Nat) : Int)) := lk_ne h6
    generalize (put "stuff" (.str (mk br)) ρ6) = ρ7 at j7 s7 h7
    refine ex_assign (d := .int ((pre.length + 1 + br.length : Nat) + 1 : Int)) (ev_bin (ev_name h7 (.inl rfl)) ev_int op_add) (.inl rfl) ?_
    have j8 := j7.seti (d := .int ((pre.length + 1 + br.length : Nat) + 1 : Int)) (pre.length + br.length + 2) (by congr 1; omega)
    have s8 : lk (put "i" (.int ((pre.length + 1 + br.length : Nat) + 1 : Int)) ρ7) "stuff" = some (.str (mk br)) := lk_ne s7
    generalize (put "i" (.int ((pre.length + 1 + br.length : Nat) + 1 : Int)) ρ7) = ρ8 at j8 s8
    have nn : ((mk br).length != 0) = true := by rw [mk_len]; simp; omega
    have tr : ∀ {p}, ET w (n + 2) (cxT L s₀ X a).env ρ8 (.Name "stuff" p) true := fun {p} => by
      have := et_str (w := w) (n := n + 2) (env := (cxT L s₀ X a).env) (ρ := ρ8) (e := .Name "stuff" p) (x := mk br) (ev_name s8 (.inl rfl)) (by rw [mk_len]; omega)
      rw [nn] at this
      exact this
    have first : ∀ {p p' k p''}, EV w (n + 2) (cxT L s₀ X a).env ρ8 (.Subscript (.Name "stuff" p) (.Constant (.int 0) k p') p'') (.str (mk [c0])) := fun {_ _ _ _} => ev_sign (ev_name s8 (.inl rfl)) ev_int (by decide) (by decide) (by simpa using hb1)
    have one : CO w (n + 2) .Eq (.str (mk br)) (.str (mk [33])) false := by
      have := co_eqs (w := w) (n := n + 2) (a := mk br) (b := mk [33])
      have e : (mk br == mk [33]) = false := by
        have : mk br ≠ mk [33] := fun e => by
          have e1 : (mk br).cps = (mk [33]).cps := congrArg Str.cps e
          have e2 : br = [33] := by simpa using e1
          have : c0 = 33 := by
            rw [e2] at hb1
            simpa using hb1.symm
          exact (alne c0 hc0).1 this
        simpa using this
      rwa [e] at this
    refine ex_if (r := false) (et_not (b := true) tr) (fun h => by cases h) fun _ => ?_
    refine ex_if (r := false) (et_cmp (ev_name s8 (.inl rfl)) (ev_str (x := mk [33])) one) (fun h => by cases h) fun _ => ?_
    refine ex_if (r := false) (et_cmp first (ev_str (x := mk [33])) (co_eqs_f (alne c0 hc0).1)) (fun h => by cases h) fun _ => ?_
    have in2 : (mk [94] == mk [c0] || mk [91] == mk [c0]) = false := by
      rw [sign_ne (Ne.symm (alne c0 hc0).2.2.2.2.1), sign_ne (Ne.symm (alne c0 hc0).2.2.2.2.2)]; rfl
    refine ex_if (r := false) ?_ (fun h => by cases h) fun _ => ex_nil ?_
    · rw [← in2]
      exact et_in2 first (evs_cons (ev_str (x := mk [94])) (evs_cons (ev_str (x := mk [91])) evs_nil))
    show EX _ _ _ _ _ _
    refine ex_nil ?_
    show EX _ _ _ _ _ _
    have fs : ([mk [91], mk br, mk [93]].foldl (· ++ ·) Str.empty) = mk ([91] ++ br ++ [93]) := by
      have e0 : Str.empty = mk [] := rfl
      show ((Str.empty ++ mk [91]) ++ mk br) ++ mk [93] = _
      rw [e0, mk_append, mk_append, mk_append]
      rfl
    refine ex_cons (es_add (g := "$res") (a := a) (d := .str (mk ([91] ++ br ++ [93]))) (.head _) (ev_name j8.add (.inl rfl)) (ev_eq (ev_fstr (ys := [mk [91], mk br, mk [93]]) (fp_str (x := mk [91]) (fp_val (ev_name s8 (.inl rfl)) (fp_str (x := mk [93]) fp_nil))) ?_) (by rw [fs])) j8.out (Nat.le_trans ho (by decide)) ?_)
    · simp only [List.map_cons, List.map_nil, List.sum_cons, List.sum_nil, mk_len]
      simp
      unfold sizeLine
      omega
    have j9 := j8.more (out ++ [.str (mk ([91] ++ br ++ [93]))])
    refine ex_nil ?_
    repeat (show EX _ _ _ _ _ _; refine ex_nil ?_)
    exact q _ j9
end
/-- the pieces that a pattern is turned into -/
noncomputable def piecesOf (pre br : List Nat) (m : Nat) : List D := pre.map (fun c => .str (mk (escOf c))) ++ [.str (mk ([91] ++ br ++ [93]))] ++ List.replicate m (.str (mk [46]))
theorem translate1_ok {w : World} {n : Nat} {pre br : List Nat} {m : Nat} (hpre : ∀ c ∈ pre, c ∈ AL) (hl : pre.length ≤ 3) (hbr : ∀ c ∈ br, c ∈ AL) (hne : br ≠ []) (hb : br.length ≤ 64) (hm : m ≤ 3) :
    CALL w (n + 3) (.ref 69) [.str (mk (pre ++ [91] ++ br ++ [93] ++ List.replicate m 63)), .any, .str (mk [46])] (.list (piecesOf pre br m)) := by
  refine call_of' (i := 9) (dV := .none) (kV := .none) (cd := .ref 68) (by decide) ["pat", "STAR", "QUESTION_MARK"] (fun vs h s pm ct => ?_) rfl rfl rfl rfl (by decide) (by decide) fun L s₀ X hX => ?_
  · match vs, h with
    | [u, v, z], _ => exact BindsTo.of_eq rfl
  · generalize hP : pre ++ [91] ++ br ++ [93] ++ List.replicate m 63 = P
    have len : P.length = pre.length + br.length + 2 + m := by rw [← hP]; simp; omega
    refine ex_open (ss := _ :: _) rfl ?_
    refine ex_grow (g := "$res") (.inl rfl) rfl (fun h => nomatch h) fun a ha => ?_
    refine ex_cons (es_bound (g := "$res") (a := a) (.head _) (ev_name (ρ := _) rfl (.inl rfl)) (.inl rfl) ?_)
    show EX _ _ _ _ _ _
    refine ex_tup2 (evs_cons ev_int (evs_cons (ev_call_bi (ev_builtin rfl rfl rfl) (evs_cons (ev_name rfl (.inl rfl)) evs_nil) (call_len_s (by rw [mk_len]; omega))) evs_nil)) (.inl rfl) (.inl rfl) rfl ?_
    rw [mk_len]
    refine ex_cons (es_while (fun k ρ' => ∃ i out, i + k = P.length ∧ JT a P i out ρ' ∧ ((i ≤ pre.length ∧ out = (pre.take i).map (fun c => .str (mk (escOf c)))) ∨ (∃ t, t ≤ m ∧ i = pre.length + br.length + 2 + t ∧ out = piecesOf pre br t))) P.length ⟨0, [], by omega, ⟨rfl, rfl, rfl, rfl, rfl, rfl, rfl⟩, .inl ⟨by omega, rfl⟩⟩ fun k ρ' hj => ?_)
    obtain ⟨i, out, hik, j, ph⟩ := hj
    have lenO : out.length ≤ 100 := by
      rcases ph with ⟨h1, rfl⟩ | ⟨t, h1, _, rfl⟩
      · simp; omega
      · unfold piecesOf; simp; omega
    by_cases hk : i < P.length
    · refine ⟨true, et_cmp (ev_name j.i (.inl rfl)) (ev_name j.n (.inl rfl)) (co_lt_t (by omega)), fun _ => ?_, fun h => by cases h⟩
      show EX w (n + 2) (cxT L s₀ X a) ρ' theWhile _
      rcases ph with ⟨h1, rfl⟩ | ⟨t, h1, hit, rfl⟩
      · by_cases h2 : i < pre.length
        · have hc : P[i]? = some pre[i] := by
            rw [← hP, List.append_assoc, List.append_assoc, List.append_assoc, List.getElem?_append_left h2]
            simp [h2]
          refine turn_sign j hc (hpre _ (List.getElem_mem h2)) (by omega) lenO fun ρ'' j' => ⟨k - 1, by omega, i + 1, _, by omega, j', .inl ⟨by omega, ?_⟩⟩
          have e : pre.take (i + 1) = pre.take i ++ [pre[i]] := by rw [List.take_add_one]; simp [h2]
          rw [e, List.map_append]
          rfl
        · have hi : i = pre.length := by omega
          subst hi
          rw [← hP] at j
          refine turn_set j hbr hne (by rw [hP]; omega) lenO fun ρ'' j' => ⟨k - (br.length + 2), by omega, pre.length + br.length + 2, _, by omega, by rw [← hP]; exact j', .inr ⟨0, by omega, by omega, ?_⟩⟩
          unfold piecesOf
          rw [List.take_length]
          simp
      · have ht : t < m := by omega
        have hc : P[i]? = some 63 := by
          rw [← hP, List.getElem?_append_right (by simp; omega)]
          rw [List.getElem?_replicate, if_pos (by simp; omega)]
        refine turn_quest j hc (by omega) lenO fun ρ'' j' => ⟨k - 1, by omega, i + 1, _, by omega, j', .inr ⟨t + 1, by omega, by omega, ?_⟩⟩
        unfold piecesOf
        rw [List.append_assoc _ (List.replicate t _), ← List.replicate_succ']
    · refine ⟨false, et_cmp (ev_name j.i (.inl rfl)) (ev_name j.n (.inl rfl)) (co_lt_f (by omega)), ?_, ?_⟩
      · exact fun h => by cases h
      intro _
      show EX w (n + 2) (cxT L s₀ X a) ρ' _ _
      have fin : i = P.length ∧ out = piecesOf pre br m := by
        rcases ph with ⟨h1, rfl⟩ | ⟨t, h1, hit, rfl⟩
        · omega
        · have : t = m := by omega
          subst this
          exact ⟨by omega, rfl⟩
      obtain ⟨hi, rfl⟩ := fin
      subst hi
      refine ex_assert (et_cmp (ev_name j.i (.inl rfl)) (ev_name j.n (.inl rfl)) (by have := co_eq (w := w) (n := n + 2) (a := P.length) (b := P.length); rwa [beq_self_eq_true] at this)) ?_
      refine ex_freeze (x := "res") (g := "$res") (a := a) (gr := []) rfl j.res j.out rfl hX (fun f ρ h => ⟨_, h⟩) ?_
      exact ex_ret (ev_name (lk_self (x := "res")) (.inl rfl)) rfl
end Mine
end
section
open PySem PySem.W PyProof.Rows PySem.Calls PySem.Spec
namespace Mine
section
variable {w : World} {n : Nat} {c : Cx} {ρ : Rho} {Φ : Fl → Rho → Prop}
/-- an operation in place -/
structure IOP (w : World) (n : Nat) (op : Operator) (a b d : D) : Prop where
  run : ∀ (X : XS) (A : Around) (s : Shared) (Q : Value → Shared → Prop) (E : Value → Shared → Prop) (u v : Value), GA n A → Sta X s.heap → Rd X s.heap u a → Rd X s.heap v b → (∀ v s', Go s s' → Rd X s'.heap v d → Q v s') → wpAny (model PW w) A (inplaceOp op u v) Q E s
theorem iop_add {a b : Int} : IOP w n .Add (.int a) (.int b) (.int (a + b)) := by
  refine ⟨?_⟩
  rintro X A s Q E u v g S ⟨⟩ ⟨⟩ q; exact iadd_int (q _ _ (Go.tok _ _) (.int _ _))
theorem iop_or {a b : Int} : IOP w n .BitOr (.int a) (.int b) (.int (Builtin.bitOr a b)) := by
  refine ⟨?_⟩
  rintro X A s Q E u v g S ⟨⟩ ⟨⟩ q; exact ior_int (q _ _ (Go.tok _ _) (.int _ _))
theorem es_iaug {x : Str} {p' p : Pos} {op : Operator} {e : PySem.Expr} {d₀ d d' : D} (hx : lk ρ x = some d₀) (h : EV w n c.env ρ e d) (ho : IOP w n op d₀ d d')
    (k : c.env.kindOf x = some .local ∨ c.env.kindOf x = some .cell) (q : Φ .next (put x d' ρ)) (ow : c.own x = true := by rfl) : ES w n c ρ (.AugAssign (.Name x p') op e p) Φ := by
  refine ⟨?_⟩
  intro A s g I
  refine wpAny_AugAssign_Name ?_
  have load : ∀ (Q : Value → Shared → Prop), (∀ v, Rd c.cur s.heap v d₀ → Q v s) → wpAny (model PW w) A (loadName c.env x) Q (fun _ _ => False) s := by
    intro Q hq
    rcases k with k | k
    · obtain ⟨m, hm, hl⟩ := I.ie.fm.loc
      obtain ⟨v, hv, r⟩ := hl x d₀ hx k
      exact wpAny_loadName_local I.ie.ok.kind k hm hv (hq _ r)
    · obtain ⟨cc, v, hc, hv, r⟩ := I.ie.fm.cel x d₀ hx (.inl k)
      exact wpAny_loadName_cell I.ie.ok.kind k hc hv (hq _ r)
  refine load _ fun u ru => ?_
  refine h.run c.cur A s _ _ g I.ie fun v s₁ g₁ rv => ?_
  have I₁ := I.mono g₁
  exact ho.run c.cur A s₁ _ _ u v g I₁.ie.sta (g₁.rd I.ie.sta ru) rv fun r s₂ g₂ rr => ix_store (I₁.mono g₂) k ow rr fun _ _ I' _ _ => ⟨_, I', q⟩
end
theorem co_isnot_any {w : World} {n : Nat} {x : Str} : CO w n .IsNot (.str x) .any true := co_isnot fun X h u v ru rv => by
  cases ru; cases rv; exact ⟨rfl, rfl⟩
structure JJ (a : Addr) (ys : List Str) (i : Nat) (out : List D) (ρ : Rho) : Prop where
  inp : lk ρ "inp" = some (.list (ys.map .str))
  star : lk ρ "STAR" = some .any
  res : lk ρ "res" = some (.raw (.ref a))
  add : lk ρ "add" = some (.obj (boundApp a))
  n : lk ρ "n" = some (.int ys.length)
  i : lk ρ "i" = some (.int i)
  out : lk ρ "$res" = some (.list out)
noncomputable def madeOf (ys : List Str) : Str := Str.empty ++ mk [40, 63, 115, 58] ++ Txt.join (mk []) ys ++ mk [41, 92, 90]
set_option maxRecDepth 20000
set_option maxHeartbeats 4000000
theorem joinp_ok {w : World} {n : Nat} {ys : List Str} (hl : ys.length ≤ 100) (hz : (ys.map (·.length)).sum ≤ 1000) :
    CALL w (n + 2) (.ref 76) [.list (ys.map .str), .any] (.str (madeOf ys)) := by
  refine call_of' (i := 10) (dV := .none) (kV := .none) (cd := .ref 75) (by decide) ["inp", "STAR"] (fun vs h s pm ct => ?_) rfl rfl rfl rfl (by decide) (by decide) fun L s₀ X hX => ?_
  · match vs, h with
    | [u, v], _ => exact BindsTo.of_eq rfl
  · refine ex_open (ss := _ :: _) rfl ?_
    refine ex_grow (g := "$res") (.inl rfl) rfl (fun h => nomatch h) fun a ha => ?_
    refine ex_cons (es_bound (g := "$res") (a := a) (.head _) (ev_name (ρ := _) rfl (.inl rfl)) (.inl rfl) ?_)
    show EX _ _ _ _ _ _
    refine ex_cons (es_tup2 (evs_cons ev_int (evs_cons (ev_call_bi (ev_builtin rfl rfl rfl) (evs_cons (ev_name rfl (.inl rfl)) evs_nil) (call_len_l (by simp; omega))) evs_nil)) (.inl rfl) (.inl rfl) rfl ?_)
    show EX _ _ _ _ _ _
    rw [List.length_map]
    refine ex_cons (es_while (fun k ρ' => ∃ i, i + k = ys.length ∧ JJ a ys i ((ys.take i).map .str) ρ') ys.length ⟨0, by omega, ⟨rfl, rfl, rfl, rfl, rfl, rfl, rfl⟩⟩ fun k ρ' hj => ?_)
    obtain ⟨i, hik, j⟩ := hj
    by_cases hk : i < ys.length
    · have item : ∀ {p p' p''}, EV w (n + 1) (envFn 10 76 L (Value.ref 75)) ρ' (.Subscript (.Name "inp" p) (.Name "i" p') p'') (.str ys[i]) := fun {_ _ _} => ev_at (ev_name j.inp (.inl rfl)) (ev_name j.i (.inl rfl)) (by omega) (by omega) (by rw [Int.toNat_natCast]; simp [hk])
      refine ⟨true, et_bool (ea_and (b := true) (c := true) (et_cmp (ev_name j.i (.inl rfl)) (ev_name j.n (.inl rfl)) (co_lt_t (by omega))) fun _ => ea_and (b := true) (c := true) (et_cmp item (ev_name j.star (.inl rfl)) co_isnot_any) fun _ => ea_and_nil), ?_, ?_⟩
      · intro _
        refine ex_cons (es_add (g := "$res") (a := a) (d := .str ys[i]) (.head _) (ev_name j.add (.inl rfl)) item j.out (by simp; unfold sizeLine; omega) ?_)
        show EX _ _ _ _ _ _
        refine ex_cons (es_iaug (lk_ne j.i) ev_int iop_add (.inl rfl) ?_)
        refine ex_nil ⟨k - 1, by omega, i + 1, by omega, ?_⟩
        have e : (ys.take (i + 1)).map D.str = (ys.take i).map D.str ++ [.str ys[i]] := by
          have e : ys.take (i + 1) = ys.take i ++ [ys[i]] := by rw [List.take_add_one]; simp [hk]
          rw [e, List.map_append]
          rfl
        rw [e]
        exact ⟨lk_ne (lk_ne j.inp), lk_ne (lk_ne j.star), lk_ne (lk_ne j.res), lk_ne (lk_ne j.add), lk_ne (lk_ne j.n), by rw [lk_self]; simp, lk_ne lk_self⟩
      · exact fun h => by cases h
    · have hi : i = ys.length := by omega
      subst hi
      refine ⟨false, ?_, ?_, ?_⟩
      · exact et_bool (ea_and (b := false) (c := true) (et_cmp (ev_name j.i (.inl rfl)) (ev_name j.n (.inl rfl)) (co_lt_f (by omega))) fun h => by cases h)
      · exact fun h => by cases h
      intro _
      show EX _ _ _ _ _ _
      refine ex_cons (es_while (fun _ ρ'' => ρ'' = ρ') 0 rfl fun k ρ'' e => ?_)
      subst e
      refine ⟨false, et_cmp (ev_name j.i (.inl rfl)) (ev_name j.n (.inl rfl)) (co_lt_f (by omega)), ?_, ?_⟩
      · exact fun h => by cases h
      intro _
      show EX _ _ _ _ _ _
      refine ex_assert (et_cmp (ev_name j.i (.inl rfl)) (ev_name j.n (.inl rfl)) (by have := co_eq (w := w) (n := n + 1) (a := ys.length) (b := ys.length); rwa [beq_self_eq_true] at this)) ?_
      rw [List.take_length] at j
      refine ex_freeze (x := "res") (g := "$res") (a := a) (gr := []) rfl j.res j.out rfl hX (fun f ρ h => ⟨_, h⟩) ?_
      refine ex_assign (d := .str (Txt.join (mk []) ys)) (ev_join (ys := ys) (ev_str (x := mk [])) (ev_name (lk_self (x := "res")) (.inl rfl)) ?_ rfl rfl rfl rfl rfl) (.inl rfl) ?_
      · show _ + ys.length * 0 ≤ _
        omega
      refine ex_ret (ev_fstr (ys := [mk [40, 63, 115, 58], Txt.join (mk []) ys, mk [41, 92, 90]]) (fp_str (x := mk [40, 63, 115, 58]) (fp_val (ev_name (lk_self (x := "res")) (.inl rfl)) (fp_str (x := mk [41, 92, 90]) fp_nil))) ?_) ?_
      · have e : (Txt.join (mk []) ys).length = (ys.map (·.length)).sum := by
          rw [join_flat, mk_len, List.length_flatMap]
          rfl
        simp only [List.map_cons, List.map_nil, List.sum_cons, List.sum_nil, mk_len, e]
        simp
        unfold sizeLine
        omega
      · show Fl.ret _ = Fl.ret _
        rfl
noncomputable def pieceS (pre br : List Nat) (m : Nat) : List Str := pre.map (fun c => mk (escOf c)) ++ [mk ([91] ++ br ++ [93])] ++ List.replicate m (mk [46])
theorem pieces_map (pre br : List Nat) (m : Nat) : (pieceS pre br m).map D.str = piecesOf pre br m := by
  unfold pieceS piecesOf
  simp
theorem esc_len (c : Nat) : (escOf c).length ≤ 2 := by
  unfold escOf
  split <;> simp
theorem sum_le {α : Type} (f : α → Nat) (b : Nat) : ∀ (l : List α), (∀ x ∈ l, f x ≤ b) → (l.map f).sum ≤ l.length * b
  | [], _ => by simp
  | x :: r, h => by
    have ih := sum_le f b r fun y hy => h y (.tail _ hy)
    have := h x (.head _)
    rw [List.map_cons, List.sum_cons, List.length_cons, Nat.add_mul]
    omega
theorem translate_ok {w : World} {n : Nat} {pre br : List Nat} {m : Nat} (hpre : ∀ c ∈ pre, c ∈ AL) (hl : pre.length ≤ 3) (hbr : ∀ c ∈ br, c ∈ AL) (hne : br ≠ []) (hb : br.length ≤ 64) (hm : m ≤ 3) :
    CALL w (n + 4) (.ref 50) [.str (mk (pre ++ [91] ++ br ++ [93] ++ List.replicate m 63))] (.str (madeOf (pieceS pre br m))) := by
  refine call_of (i := 4) (dV := .none) (kV := .none) (cd := .ref 49) (by decide) ["pat"] (fun vs h s pm ct => ?_) rfl rfl rfl rfl (by decide) (by decide) fun L s₀ X => ?_
  · match vs, h with
    | [v], _ => exact BindsTo.of_eq rfl
  · refine ex_open (ss := _ :: _) rfl ?_
    refine ex_assign (d := .any) (ev_call_ty (ev_builtin rfl rfl rfl) evs_nil call_obj) (.inl rfl) ?_
    refine ex_assign (d := .list ((pieceS pre br m).map .str)) (ev_call_fn (ev_global rfl rfl) (i := 9) (dV := .none) (kV := .none) (cdv := .ref 68) (by decide) (evs_cons (ev_name rfl (.inl rfl)) (evs_cons (ev_name rfl (.inl rfl)) (evs_cons (ev_str (x := mk [46])) evs_nil))) ?_) (.inl rfl) ?_
    · rw [pieces_map]
      exact translate1_ok hpre hl hbr hne hb hm
    · refine ex_ret (ev_call_fn (ev_global rfl rfl) (i := 10) (dV := .none) (kV := .none) (cdv := .ref 75) (by decide) (evs_cons (ev_name rfl (.inl rfl)) (evs_cons (ev_name rfl (.inl rfl)) evs_nil)) (joinp_ok ?_ ?_)) rfl
      · unfold pieceS; simp; omega
      · unfold pieceS
        rw [List.map_append, List.map_append, List.sum_append, List.sum_append, List.map_map]
        have h1 := sum_le (fun c => (mk (escOf c)).length) 2 pre fun c _ => by rw [mk_len]; exact esc_len c
        have h2 : ((List.replicate m (mk [46])).map (·.length)).sum ≤ (List.replicate m (mk [46])).length * 1 := sum_le _ 1 _ fun x hx => by
          rw [(List.mem_replicate.mp hx).2]; exact Nat.le_refl _
        have e : (pre.map ((fun x : Str => x.length) ∘ fun c => mk (escOf c))).sum = (pre.map fun c => (mk (escOf c)).length).sum := rfl
        rw [e]
        rw [List.length_replicate] at h2
        simp only [List.map_cons, List.map_nil, List.sum_cons, List.sum_nil, mk_len, List.length_append, List.length_cons, List.length_nil]
        simp only [mk_len] at h1 ⊢
        omega
end Mine
end
section
open PySem PySem.W PyProof.Rows PySem.Calls PySem.Spec
namespace Mine
theorem pick_run {ds : List D} : ∀ (k a : Nat), a + k ≤ ds.length → ((List.range k).map (a + ·)).filterMap (ds[·]?) = (ds.drop a).take k
  | 0, a, _ => by simp
  | k + 1, a, h => by
    have ih := pick_run (ds := ds) k (a + 1) (by omega)
    have ha : a < ds.length := by omega
    rw [List.range_succ_eq_map, List.map_cons, List.map_map, List.filterMap_cons]
    have e : ds[a + 0]? = some ds[a] := by simp [ha]
    rw [e]
    dsimp only
    have e2 : (List.range k).map ((a + ·) ∘ Nat.succ) = (List.range k).map ((a + 1) + ·) := List.map_congr_left fun x _ => by simp; omega
    rw [e2, ih, List.drop_eq_getElem_cons ha, List.take_succ_cons]
theorem clip_nat (n i : Nat) : clipAt n (i : Int) = min i n := by
  unfold clipAt
  rw [if_neg (by omega)]
  omega
theorem take_min {ds : List D} {a b : Nat} (hab : a ≤ b) : (ds.drop (min a ds.length)).take (min b ds.length - min a ds.length) = (ds.drop a).take (b - a) := by
  by_cases ha : a ≤ ds.length
  · rw [Nat.min_eq_left ha]
    by_cases hb : b ≤ ds.length
    · rw [Nat.min_eq_left hb]
    · rw [Nat.min_eq_right (by omega), List.take_of_length_le (by simp), List.take_of_length_le (by simp; omega)]
  · rw [Nat.min_eq_right (a := a) (by omega), List.drop_eq_nil_of_le (Nat.le_refl _), List.drop_eq_nil_of_le (by omega)]
    simp
theorem pick_two {ds : List D} {a b : Nat} (hab : a ≤ b) : pickD ds (some (a : Int)) (some (b : Int)) = (ds.drop a).take (b - a) := by
  unfold pickD
  rw [sliceBounds_plain]
  dsimp only [Option.elim]
  rw [sliceRange_one, clip_nat, clip_nat, pick_run _ _ (by omega), take_min hab]
theorem pick_upto {ds : List D} {b : Nat} : pickD ds none (some (b : Int)) = ds.take b := by
  unfold pickD
  rw [sliceBounds_plain]
  dsimp only [Option.elim]
  rw [sliceRange_one, clip_nat, pick_run _ _ (by omega)]
  simp
section
variable {w : World} {n : Nat} {env : Env} {ρ : Rho}
open PySem.SeqAt
theorem eqat_ints {A : Around} {s : Shared} {X : XS} {u v : Value} {xs ys : List Int} (hl : xs.length = ys.length) (hu : A.units < cLine) (ru : Rd X s.heap u (.list (xs.map .int))) (rv : Rd X s.heap v (.list (ys.map .int))) : ∃ l b, u = .ref l ∧ v = .ref b ∧ RcAt A s u v (xs == ys) ∧ (l = b → xs = ys) := by
  cases ru
  rename_i l vs hL nx R
  cases rv
  rename_i b us hB ny R'
  have i1 := ints_of R
  have i2 := ints_of R'
  refine ⟨l, b, rfl, rfl, ?_, ?_⟩
  · have h1 := i1.length
    have h2 := i2.length
    have key := RcAt.lists (A := A) (s := s) (e := fun j => xs[j]? == ys[j]?) hL hB (by simp; omega) hu fun j h1 h2 => ?_
    · have e : ((List.range vs.toArray.size).all fun j => xs[j]? == ys[j]?) = (xs == ys) := by
        rw [Bool.eq_iff_iff, List.all_eq_true, beq_iff_eq]
        constructor
        · intro h
          apply List.ext_getElem? 
          intro j
          by_cases hj : j < xs.length
          · have := h j (by rw [List.mem_range]; simp; omega)
            simpa using this
          · rw [List.getElem?_eq_none (by omega), List.getElem?_eq_none (by omega)]
        · intro h j _
          rw [h]
          simp
      rw [e] at key
      exact key
    · have hj1 : j < vs.length := by simpa using h1
      have hj2 : j < us.length := by simpa using h2
      obtain ⟨u, e1, r1⟩ := R.get j (.int (xs[j]'(by omega))) (by simp)
      obtain ⟨v, e2, r2⟩ := R'.get j (.int (ys[j]'(by omega))) (by simp)
      have f1 : vs.toArray[j] = u := by
        have : vs[j]? = some vs[j] := by simp
        rw [this] at e1
        simpa using Option.some.inj e1
      have f2 : us.toArray[j] = v := by
        have : us[j]? = some us[j] := by simp
        rw [this] at e2
        simpa using Option.some.inj e2
      rw [f1, f2]
      cases r1
      cases r2
      have e : (xs[j]? == ys[j]?) = (xs[j]'(by omega) == ys[j]'(by omega)) := by
        rw [List.getElem?_eq_getElem (by omega), List.getElem?_eq_getElem (by omega)]
        rfl
      rw [e]
      exact EqAt.int_int _ _ _ _
  · rintro rfl
    obtain ⟨o, e1, _, k1, d1⟩ := hL
    obtain ⟨o', e2, _, k2, d2⟩ := hB
    rw [e1] at e2
    cases e2
    rw [d1] at d2
    have e : vs = us := by injection d2 with d _; exact congrArg Array.toList d
    subst e
    clear hl
    have inj : ∀ {vs : List Value} {a b : List Int}, IntsAre vs a → IntsAre vs b → a = b := by
      intro vs a b x
      induction x generalizing b with
      | nil => intro y; cases y; rfl
      | cons n t r ih => intro y; cases y with | cons _ _ r' => rw [ih r']
    exact inj i1 i2
theorem co_eq_ints {xs ys : List Int} (hl : xs.length = ys.length) : CO w n .Eq (.list (xs.map .int)) (.list (ys.map .int)) (xs == ys) := by
  refine ⟨fun X A s Q E u v g S ru rv q => ?_⟩
  obtain ⟨l, b, rfl, rfl, h, _⟩ := eqat_ints (A := A) hl g.unit ru rv
  exact h _ _ _ _ (q _ (Go.refl _))
end
end Mine
end
section
open PySem PySem.W PyProof.Rows PySem.Calls PySem.Spec
namespace Mine
/-- how many of the first digits are the same -/
noncomputable def sameOf (one two : List Int) : Nat := ((List.range 4).filter fun k => one.take (k + 1) == two.take (k + 1)).length
noncomputable def rawRows (one two : List Int) (same k : Nat) : List (List Int × Int × Int) :=
  [(one.take same, one.getD same 0 + 1, two.getD same 0 - 1), (one.take 3, one.getD 3 0, one.getD 3 0), (two.take 3, two.getD 3 0, two.getD 3 0)] ++
    (List.range k).flatMap fun j => [(one.take (same + 1 + j), one.getD (same + 1 + j) 0 + 1, 63), (two.take (same + 1 + j), 0, two.getD (same + 1 + j) 0 - 1)]
noncomputable def rowsOf (one two : List Int) : List (List Int × Int × Int) :=
  if sameOf one two = 4 then [(one.take 3, one.getD 3 0, one.getD 3 0)]
  else (rawRows one two (sameOf one two) (3 - sameOf one two)).filter fun r => decide (r.2.1 ≤ r.2.2)
noncomputable def rowOf (r : List Int × Int × Int) : D := rowD r.1 r.2.1 r.2.2
theorem getD_some {xs : List Int} {k : Nat} (h : k < xs.length) : (xs.map D.int)[k]? = some (.int (xs.getD k 0)) := by
  simp [List.getD, h]
noncomputable def okF (one two : List Int) : D → Bool
  | .int k => one.take (k.toNat + 1) == two.take (k.toNat + 1)
  | _ => false
noncomputable def leF : D → Bool
  | .list [_, .int a, .int b] => decide (a ≤ b)
  | _ => false
theorem len_same (one two : List Int) : sameOf one two ≤ 4 := by
  unfold sameOf
  refine Nat.le_trans (List.length_filter_le _ _) ?_
  simp
theorem lk_no {x y : Str} {d : D} {ρ : Rho} (h : lk ρ y = none) (n : (y == x) = false := by decide) : lk (put x d ρ) y = none := by
  have : y ≠ x := by simpa using n
  show (put x d ρ).lookup y = _
  rw [put_lookup, if_neg this]
  exact h
theorem raw_len (one two : List Int) (same k : Nat) : (rawRows one two same k).length = 3 + 2 * k := by
  unfold rawRows
  rw [List.length_append, List.length_flatMap]
  have : ∀ k, ((List.range k).map fun j => ([(one.take (same + 1 + j), one.getD (same + 1 + j) 0 + 1, (63 : Int)), (two.take (same + 1 + j), 0, two.getD (same + 1 + j) 0 - 1)]).length).sum = 2 * k := by
    intro k
    induction k with
    | zero => rfl
    | succ k ih => rw [List.range_succ, List.map_append, List.sum_append, ih]; simp; omega
  rw [this]
  simp
set_option maxRecDepth 20000
set_option maxHeartbeats 4000000
theorem rows_ok {w : World} {n : Nat} {one two : List Int} (h1 : one.length = 4) (h2 : two.length = 4) : CALL w (n + 1) (.ref 130) [.list (one.map .int), .list (two.map .int)] (.list ((rowsOf one two).map rowOf)) := by
  have hs := len_same one two
  generalize hsame : sameOf one two = same at hs
  refine call_of (i := 23) (dV := .none) (kV := .none) (cd := .ref 129) (by decide) ["one", "two"] (fun vs h s pm ct => ?_) rfl rfl rfl rfl (by decide) (by decide) fun L s₀ X => ?_
  · match vs, h with
    | [u, v], _ => exact BindsTo.of_eq rfl
  · refine ex_open (ss := _ :: _) rfl ?_
    have up : ∀ {env : Env} {ρ : Rho} {x : Str} {e : PySem.Expr} {xs : List Int} {k : Nat} {p p' p''}, EV w n env ρ (.Name x p) (.list (xs.map .int)) → EV w n env ρ e (.int (k : Int)) → xs.length = 4 → EV w n env ρ (.Subscript (.Name x p) (.Slice none (some e) none p') p'') (.list ((xs.take k).map .int)) := fun hx he hl => by
      refine ev_eq (ev_slice_list (lo := none) (hi := some _) hx trivial (show EV _ _ _ _ _ _ from he) (by simp [hl, sizeLine])) ?_
      rw [pick_upto, List.map_take]
    refine ex_assign (d := .int same) ?_ (.inl rfl) ?_
    · refine ev_eq (ev_call_bi (d := .int ((((List.range 4).map fun (i : Nat) => D.int (0 + i)).filter (okF one two)).map id).length) (ev_builtin rfl rfl rfl) (evs_cons (ev_comp (cl := [("two", L + 2), ("one", L + 1)]) (src := .rng 0 4) (ds := (List.range 4).map fun (i : Nat) => D.int (0 + i)) (okF one two) id (ev_call_ty (ev_builtin rfl rfl rfl) (evs_cons ev_int evs_nil) call_rng1) (iter_rng (by decide) (by decide)) ?K (by decide) rfl (by decide) rfl ?t ?b) evs_nil) (call_len_l ?l)) ?e
      case K => exact ⟨rfl, rfl, by decide, List.forall_mem_cons.mpr ⟨⟨rfl, .inl rfl, fun h => nomatch h⟩, List.forall_mem_cons.mpr ⟨⟨rfl, .inl rfl, fun h => nomatch h⟩, List.forall_mem_nil _⟩⟩, ⟨rfl, rfl⟩, rfl, by decide⟩
      case l =>
        refine Nat.lt_of_le_of_lt (by rw [List.length_map]; exact List.length_filter_le _ _) (by simp)
      case t =>
        intro C d hd
        obtain ⟨k, hk, rfl⟩ := List.mem_map.mp hd
        have hk' : k < 4 := List.mem_range.mp hk
        refine ei_one ?_
        have e1 : ((0 : Int) + k).toNat + 1 = k + 1 := by omega
        show ET _ _ _ _ _ (one.take (((0 : Int) + k).toNat + 1) == two.take (((0 : Int) + k).toNat + 1))
        rw [e1]
        refine et_cmp (up (k := k + 1) (ev_name rfl (.inr (.inl rfl))) (ev_eq (ev_bin (ev_name rfl (.inl rfl)) ev_int op_add) (by congr 1; omega)) h1) (up (k := k + 1) (ev_name rfl (.inr (.inl rfl))) (ev_eq (ev_bin (ev_name rfl (.inl rfl)) ev_int op_add) (by congr 1; omega)) h2) (co_eq_ints (by simp [h1, h2]))
      case b =>
        intro C d hd _
        exact ev_name rfl (.inl rfl)
      case e =>
        rw [← hsame]
        unfold sameOf
        rw [List.length_map, List.filter_map, List.length_map]
        congr 2
    · have at' : ∀ {ρ : Rho} {x : Str} {e : PySem.Expr} {xs : List Int} {k : Nat} {p p'} (hx : EV w n (envFn 23 130 L (.ref 129)) ρ (.Name x p) (.list (xs.map .int))) (he : EV w n (envFn 23 130 L (.ref 129)) ρ e (.int (k : Int))) (hl : xs.length = 4) (hk : k < 4) (hs : ∀ o i, ∃ l, subscripted e false o i = operate l (getItem o i)), EV w n (envFn 23 130 L (.ref 129)) ρ (.Subscript (.Name x p) e p') (.int (xs.getD k 0)) := fun hx he hl hk hs =>
        ev_at hx he (by omega) (by omega) (by rw [Int.toNat_natCast]; exact getD_some (by omega)) hs
      have row3 : ∀ {ρ : Rho} {x : Str} {xs : List Int} {p1 p2 p3 p4 p5 p6 p7 p8 p9 p10 p11 : Pos} {k1 k2 k3 : Nat} (hx : ∀ p, EV w n (envFn 23 130 L (.ref 129)) ρ (.Name x p) (.list (xs.map .int))) (hl : xs.length = 4), EV w n (envFn 23 130 L (.ref 129)) ρ (.List [.Subscript (.Name x p1) (.Slice none (some (.Constant (.int 3) k1 p2)) none p3) p4, .Subscript (.Name x p5) (.Constant (.int 3) k2 p6) p7, .Subscript (.Name x p8) (.Constant (.int 3) k3 p9) p10] p11) (rowD (xs.take 3) (xs.getD 3 0) (xs.getD 3 0)) := fun hx hl =>
        ev_list (evs_cons (up (k := 3) (hx _) ev_int hl) (evs_cons (at' (k := 3) (hx _) ev_int hl (by decide) fun _ _ => ⟨_, rfl⟩) (evs_cons (at' (k := 3) (hx _) ev_int hl (by decide) fun _ _ => ⟨_, rfl⟩) evs_nil))) (by show 3 ≤ _; decide)
      by_cases h4 : same = 4
      · subst h4
        refine ex_if (r := true) (et_cmp (ev_name (lk_self (x := "same")) (.inl rfl)) ev_int co_eq) (fun _ => ?_) (fun h => by cases h)
        refine ex_ret (ev_list (evs_cons (row3 (fun p => ev_name rfl (.inr (.inl rfl))) h1) evs_nil) (by show 1 ≤ _; decide)) ?_
        show Fl.ret _ = Fl.ret _
        unfold rowsOf
        rw [if_pos hsame]
        rfl
      · have hlt : same < 4 := by omega
        have e4 : ((same : Int) == 4) = false := by simp; omega
        refine ex_if (r := false) (et_cmp (ev_name (lk_self (x := "same")) (.inl rfl)) ev_int (by have := co_eq (w := w) (n := n) (a := same) (b := 4); rwa [e4] at this)) (fun h => by cases h) fun _ => ex_nil ?_
        show EX _ _ _ _ _ _
        generalize hρ : (put "same" (D.int same) ([("one" : Str), "two"].zip [D.list (one.map .int), D.list (two.map .int)]) : Rho) = ρ₀
        have l1 : lk ρ₀ "one" = some (.list (one.map .int)) := by rw [← hρ]; rfl
        have l2 : lk ρ₀ "two" = some (.list (two.map .int)) := by rw [← hρ]; rfl
        have l3 : lk ρ₀ "same" = some (.int same) := by rw [← hρ]; rfl
        have l4 : lk ρ₀ accN = none := by rw [← hρ]; rfl
        clear hρ
        refine ex_assign (d := .list ((rawRows one two same 0).map rowOf)) (ev_list (evs_cons (ev_list (evs_cons (up (ev_name l1 (.inr (.inl rfl))) (ev_name l3 (.inl rfl)) h1) (evs_cons (ev_bin (at' (k := same) (ev_name l1 (.inr (.inl rfl))) (ev_name l3 (.inl rfl)) h1 hlt fun _ _ => ⟨_, rfl⟩) ev_int op_add) (evs_cons (ev_bin (at' (k := same) (ev_name l2 (.inr (.inl rfl))) (ev_name l3 (.inl rfl)) h2 hlt fun _ _ => ⟨_, rfl⟩) ev_int op_sub) evs_nil))) (by show 3 ≤ _; decide)) (evs_cons (row3 (fun p => ev_name l1 (.inr (.inl rfl))) h1) (evs_cons (row3 (fun p => ev_name l2 (.inr (.inl rfl))) h2) evs_nil))) ?_) (.inl rfl) ?_
        · show 3 ≤ _
          decide
        have ro : lk (put "rows" (.list ((rawRows one two same 0).map rowOf)) ρ₀) "rows" = some (.list ((rawRows one two same 0).map rowOf)) := lk_self
        have l1' := lk_ne (x := "rows") (d := .list ((rawRows one two same 0).map rowOf)) l1
        have l2' := lk_ne (x := "rows") (d := .list ((rawRows one two same 0).map rowOf)) l2
        have l3' := lk_ne (x := "rows") (d := .list ((rawRows one two same 0).map rowOf)) l3
        have l4' := lk_no (x := "rows") (d := .list ((rawRows one two same 0).map rowOf)) l4
        generalize (put "rows" (.list ((rawRows one two same 0).map rowOf)) ρ₀) = ρ₁ at ro l1' l2' l3' l4'
        have cnt : ((4 : Int) - ((same : Int) + 1)).toNat = 3 - same := by omega
        have sm : Builtin.Range.small ((same : Int) + 1) 4 1 = true := by
          have : same = 0 ∨ same = 1 ∨ same = 2 ∨ same = 3 := by omega
          rcases this with rfl | rfl | rfl | rfl <;> decide
        refine ex_cons (es_for (src := .rng ((same : Int) + 1) 4) (ds := (List.range (3 - same)).map fun (i : Nat) => D.int ((same : Int) + 1 + i)) (ev_call_ty (ev_builtin rfl rfl rfl) (evs_cons (ev_bin (ev_name l3' (.inl rfl)) ev_int op_add) (evs_cons ev_int evs_nil)) call_rng2) ?_ (.inl rfl) ?_ (fun i ρ' => lk ρ' "one" = some (.list (one.map .int)) ∧ lk ρ' "two" = some (.list (two.map .int)) ∧ lk ρ' "rows" = some (.list ((rawRows one two same i).map rowOf)) ∧ lk ρ' accN = none) ⟨l1', l2', ro, l4'⟩ ?_ ?_)
        · have := iter_rng (w := w) (n := n) (a := (same : Int) + 1) (b := 4) (by omega) sm
          rw [cnt] at this
          exact this
        · intro d hd
          obtain ⟨i, _, rfl⟩ := List.mem_map.mp hd
          trivial
        · rintro i d X' hold ρ' hd ⟨m1, m2, m3, m4⟩
          have hi : i < 3 - same := by
            by_cases h : i < 3 - same
            · exact h
            · rw [List.getElem?_eq_none (by simp; omega)] at hd; cases hd
          have ed : d = .int ((same + 1 + i : Nat) : Int) := by
            rw [List.getElem?_map, List.getElem?_range hi] at hd
            cases hd
            congr 1
          subst ed
          have n1 := lk_ne (x := "k") (d := .int ((same + 1 + i : Nat) : Int)) m1
          have n2 := lk_ne (x := "k") (d := .int ((same + 1 + i : Nat) : Int)) m2
          have n3 := lk_ne (x := "k") (d := .int ((same + 1 + i : Nat) : Int)) m3
          have n4 := lk_no (x := "k") (d := .int ((same + 1 + i : Nat) : Int)) m4
          have nk : lk (put "k" (.int ((same + 1 + i : Nat) : Int)) ρ') "k" = some (.int ((same + 1 + i : Nat) : Int)) := lk_self
          generalize (put "k" (.int ((same + 1 + i : Nat) : Int)) ρ') = ρ₂ at n1 n2 n3 n4 nk
          show EX _ _ _ _ _ _
          have more : rawRows one two same (i + 1) = rawRows one two same i ++ [(one.take (same + 1 + i), one.getD (same + 1 + i) 0 + 1, 63), (two.take (same + 1 + i), 0, two.getD (same + 1 + i) 0 - 1)] := by
            unfold rawRows
            rw [List.range_succ, List.flatMap_append, ← List.append_assoc]
            simp
          refine ex_assign (d := .list ((rawRows one two same (i + 1)).map rowOf)) ?_ (.inl rfl) (ex_nil ⟨lk_ne n1, lk_ne n2, lk_self, lk_no n4⟩)
          rw [more, List.map_append]
          refine ev_bin (ev_name n3 (.inl rfl)) (ev_list (evs_cons (ev_list (evs_cons (up (ev_name n1 (.inr (.inl rfl))) (ev_name nk (.inl rfl)) h1) (evs_cons (ev_bin (at' (k := same + 1 + i) (ev_name n1 (.inr (.inl rfl))) (ev_name nk (.inl rfl)) h1 (by omega) fun _ _ => ⟨_, rfl⟩) ev_int op_add) (evs_cons ev_int evs_nil))) (by show 3 ≤ _; decide)) (evs_cons (ev_list (evs_cons (up (ev_name n2 (.inr (.inl rfl))) (ev_name nk (.inl rfl)) h2) (evs_cons ev_int (evs_cons (ev_bin (at' (k := same + 1 + i) (ev_name n2 (.inr (.inl rfl))) (ev_name nk (.inl rfl)) h2 (by omega) fun _ _ => ⟨_, rfl⟩) ev_int op_sub) evs_nil))) (by show 3 ≤ _; decide)) evs_nil)) (by show 2 ≤ _; decide)) (op_lists ?_)
          rw [List.length_map, raw_len]
          show 3 + 2 * i + 2 ≤ _
          unfold sizeLine
          omega
        · rintro ρ' ⟨m1, m2, m3, m4⟩
          show EX _ _ _ _ _ _
          rw [List.length_map, List.length_range] at m3
          refine ex_ret (ev_comp (cl := []) (src := .list ((rawRows one two same (3 - same)).map rowOf)) leF id (ev_name m3 (.inl rfl)) iter_list ?K (by decide) rfl ?l ?r ?t ?b) ?e
          case K => exact ⟨rfl, rfl, by decide, List.forall_mem_nil _, ⟨rfl, rfl⟩, rfl, by decide⟩
          case l =>
            rw [List.length_map, raw_len]
            unfold sizeLine
            omega
          case r => exact m4
          case t =>
            intro C d hd
            obtain ⟨r, _, rfl⟩ := List.mem_map.mp hd
            exact ei_one (et_cmp (ev_item (lk_self (x := "row")) (.inl rfl) (by decide) (by decide) rfl) (ev_item (lk_self (x := "row")) (.inl rfl) (by decide) (by decide) rfl) co_le)
          case b =>
            intro C d hd _
            exact ev_name (lk_self (x := "row")) (.inl rfl)
          case e =>
            show Fl.ret _ = Fl.ret _
            unfold rowsOf
            rw [if_neg (by omega), hsame, List.map_id, List.filter_map]
            rfl
end Mine
end
section
open PySem PySem.W PyProof.Rows PySem.Calls PySem.Spec
namespace Mine
theorem call_run {w : World} {n : Nat} {a i : Nat} {dV kV cd : Value} {ds ds' : List D} (mem : (a, i, dV, kV, cd) ∈ fnTab) (names : List Str) (sp : List Value → Args)
    (hb : ∀ (X : XS) (s : Shared) (vs : List Value), Sta X s.heap → Rds X s.heap vs ds → ∀ pm ct, ∃ us, BindsTo s (fdOf i dV kV pm cd ct) (sp vs) (names.zip us) ∧ Rds X s.heap us ds') (hlen : ds'.length = names.length)
    (hk : (theFn i).2.2.2.kind = .function) (hco : (theFn i).2.2.2.isCoroutine = false) (hge : (theFn i).2.2.2.isGenerator = false)
    (hkinds : ∀ x ∈ names, (theFn i).2.2.2.names.lookup x = some .local ∨ (theFn i).2.2.2.names.lookup x = some .cell) (hnd : names.Nodup)
    (X : XS) (A : Around) (s : Shared) (Q : Value → Shared → Prop) (E : Value → Shared → Prop) (vs₀ : List Value) (g : GA (n + 1) A) (S : Sta X s.heap) (R₀ : Rds X s.heap vs₀ ds) (body : ∀ L A' s', GA n A' → IX { env := envFn i a L cd, s₀ := s, X := X } (names.zip ds') s' → wpAny (model PW w) A' (execs (theFn i).2.2.1 (envFn i a L cd)) (fun f s'' => ∃ v, f = .ret v ∧ Q v s'') (fun _ _ => False) s') : wpAny (model PW w) A (call (.ref a) (sp vs₀).pos (sp vs₀).kw) Q E s := by
  obtain ⟨oc, od, osl, pm, ct, e, r⟩ := S.fns _ mem
  obtain ⟨vs, bt, R⟩ := hb X s vs₀ S R₀ pm ct
  have hl : vs.length = names.length := R.length.trans hlen
  refine wpAny_call (codeAny_call_function g.room e rfl hco hge rfl r (bt _ _ _ _ ?_))
  have fst : (names.zip vs).map (·.1) = names := by rw [List.map_fst_zip (by omega)]
  have inn : ∀ x ∈ names.zip vs, x.1 ∈ names := fun x hx => by rw [← fst]; exact List.mem_map_of_mem hx
  refine wpAny_newFunctionEnv_cells hk (fun x hx => (hkinds x.1 (inn x hx)).imp id fun z => ⟨z, cellsFrom_some _ _ _ (.inl z)⟩) fun env he s' C => ?_
  subst he
  have G : Go s s' := by
    obtain ⟨h', tk, rfl⟩ := C.toInCall.same
    exact ⟨rfl, rfl, rfl, .of_keep C.toInCall.keep⟩
  have S' := G.sta S
  refine ⟨S'.lim, codeAny_func ?_⟩
  have key := body s.heap.objs.size (A.deeper _) s' (g.deeper (newEnv (theFn i).2.2.2 s.heap.objs.size mainGlobals (cellsFrom (s.heap.objs.size + 1) (theFn i).2.2.2.names []) ((theFn i).1 ++ ".<locals>.") (some a) cd none builtinsNs)) ?_
  · refine wpAny_mono key (fun f s'' x => ?_) fun _ _ e => e.elim
    obtain ⟨v, rfl, hq⟩ := x
    exact hq
  · have R' := G.rds S R
    have cur : ∀ b, Cx.cur { env := envFn i a s.heap.objs.size cd, s₀ := s, X := X } b → X b := fun b y => y.elim id fun ⟨p, hp, _⟩ => (nomatch hp)
    refine ⟨⟨⟨hk, rfl, rfl⟩, S'.less fun b y => S'.low b (cur b y), ⟨⟨_, C.toInCall.ns, fun x d' e' k' => ?_⟩, fun x d' e' k' => ?_, fun x k e => ⟨_, C.cell x k e⟩⟩⟩, G, S.less (fun _ y => y.elim), get_size _, fun x k' _ => ?_, fun x y k' _ _ ex ey => ?_, fun p hp => (nomatch hp), ⟨List.nodup_nil, List.nodup_nil⟩, fun p hp => (nomatch hp)⟩
    · obtain ⟨v, m, rr⟩ := zip_in names R' x d' e'
      exact ⟨v, bindL_in _ _ _ x v (by rw [fst]; exact hnd) m k', rr.less fun b _ y => cur b y⟩
    · obtain ⟨v, m, rr⟩ := zip_in names R' x d' e'
      have hx := hkinds x (inn _ m)
      have kc : (newEnv (theFn i).2.2.2 s.heap.objs.size mainGlobals (cellsFrom (s.heap.objs.size + 1) (theFn i).2.2.2.names []) ((theFn i).1 ++ ".<locals>.") (some a) cd none builtinsNs).kindOf x = some .cell := by
        rcases k' with k' | k'
        · exact k'
        · rcases hx with hx | hx
          · have : some NameKind.free = some NameKind.local := k'.symm.trans hx
            cases this
          · exact hx
      have some' : ((cellsFrom (s.heap.objs.size + 1) (theFn i).2.2.2.names []).lookup x).isSome = true := cellsFrom_some _ _ _ (.inl kc)
      obtain ⟨cc, hcc⟩ := Option.isSome_iff_exists.mp some'
      refine ⟨cc, v, hcc, ?_, rr.less fun b _ y => cur b y⟩
      have z := C.cell x cc hcc
      rw [bindC_in _ _ _ x v (by rw [fst]; exact hnd) m (by rw [kc]; simp)] at z
      exact z
    · have some' : ((cellsFrom (s.heap.objs.size + 1) (theFn i).2.2.2.names []).lookup x).isSome = true := cellsFrom_some _ _ _ (.inl k')
      obtain ⟨cc, hcc⟩ := Option.isSome_iff_exists.mp some'
      exact ⟨cc, _, hcc, C.cell x cc hcc, get_above (Nat.le_of_lt (C.above x cc (lookup_mem hcc)))⟩
    · exact apart_inj C.apart (lookup_mem ex) (lookup_mem ey)

/-- a list iterator turns -/
theorem sta_turn {X Y : XS} {h h' : Heap} {it l : Addr} {i : Nat} (S : Sta X h) (hi : h.IsListIter it l i) (hs : Heap.SameBut it h h') (low : ∀ b, Y b → b ≠ PT ∧ ∃ o, h'.get? b = some o) : Sta Y h' := by
  obtain ⟨o, e, hc, hd⟩ := hi
  have rc : Keepable o := .inr ⟨_, _, hc, hd⟩
  have n1 : ∀ {a m}, h.Ns a m → a ≠ it := fun x z => ns_no_list x o (z ▸ e) rc
  have other : ∀ {a ob}, h.get? a = some ob → ob.cls ≠ .type "list_iterator" → h'.get? a = some ob := fun {a ob} x n => (hs.2 a (fun z => n (by rw [z, e] at x; cases x; exact hc))).trans x
  refine ⟨low, ?_, ?_, ?_, ?_, ?_, ?_, ?_⟩
  · obtain ⟨m, a, b, bm, ob, e1, e2, e3, e4, e5, e6, e7⟩ := S.ns
    exact ⟨m, a.sameBut hs (n1 a), b, bm, ob, e1, e2, e3, e4, other e5 (by rw [e6]; decide), e6, e7⟩
  · obtain ⟨m, a, b⟩ := S.bn
    exact ⟨m, a.sameBut hs (n1 a), b⟩
  · obtain ⟨m, a, b⟩ := S.lim
    exact ⟨m, a.sameBut hs (n1 a), b⟩
  · obtain ⟨ps, e1, e2⟩ := S.tab
    refine ⟨ps, ?_, e2⟩
    refine (hs.2 _ fun z => ?_).trans e1
    exact tab_no_list h e1 o (z ▸ e) rc
  · intro p hp
    obtain ⟨oc, od, osl, pm, ct, e1, c, oo, vs, tk, f1, f2, f3, f4⟩ := S.fns p hp
    refine ⟨oc, od, osl, pm, ct, ?_, c, oo, vs, tk, f1, ?_, f3, f4⟩
    · refine (hs.2 _ fun z => ?_).trans e1
      rw [z, e] at e1
      cases e1
      cases hd
    · refine (hs.2 _ fun z => ?_).trans f2
      rw [z, e] at f2
      cases f2
      rw [hd] at f3
      cases f3
      simp at f4
  · intro p hp
    refine other (S.obs p hp) ?_
    revert p hp
    decide
  · obtain ⟨oo, vs, file, tf, flags, tg, inF, text, tt, e1, e2, r⟩ := S.cod
    exact ⟨oo, vs, file, tf, flags, tg, inF, text, tt, other e1 (by rw [e2]; decide), e2, r⟩
theorem call_next {w : World} {A : Around} {E : Value → Shared → Prop} {s : Shared} {it l : Addr} {i : Nat} {items : Array Value} {x : Value} {Q : Value → Shared → Prop} (hit : s.heap.IsListIter it l i) (hl : s.heap.IsList l items) (hx : items[i]? = some x)
    (hQ : ∀ h', h'.IsListIter it l (i + 1) → Heap.SameBut it s.heap h' → Q x { s with heap := h' }) : wpAny (model PW w) A (call (.builtin "next") [.ref it]) Q E s := by
  refine call_function_entry (by decide +kernel) (by decide +kernel) kdk_entry_next (kdk_args_next _) ?_
  unfold Builtin.«next»
  refine wpAny_bind (wpAny_of_eq (a := [Value.ref it]) (by first | rfl | kernel_rfl) ?_)
  dsimp only
  refine wpAny_bind (wpAny_specialOf (name := Str.ofString "__next__") hit.typeIs slot_listiter_next.lookup ?_)
  refine wpAny_ite_split (fun hab => absurd hab (by decide)) (fun _ => ?_)
  obtain ⟨o, ho, hc, hd⟩ := id hit
  obtain ⟨ol, hol, _, nl, hdl⟩ := hl
  refine wpAny_bind (wpAny_callSpecial?_slot (name := Str.ofString "__next__") hit.typeIs slot_listiter_next
    (wpAny_call_entry slot_listiter_next hit.typeIs entry_listiter_next ?_ (args_listiter_next _)))
  show wpAny _ _ (field (.ref it) 0 >>= _) _ _ s
  refine wpAny_bind (wpAny_field ho hd (x := .ref l) rfl ?_)
  show wpAny _ _ (if (Value.ref l == Value.none) = true then _ else _) _ _ s
  rw [if_neg (show ¬ ((Value.ref l == Value.none) = true) from Bool.false_ne_true)]
  show wpAny _ _ (field (.ref it) 1 >>= _) _ _ s
  refine wpAny_bind (wpAny_field ho hd (x := .int i 0) rfl ?_)
  show wpAny _ _ (seqItems? (.ref l) >>= _) _ _ s
  refine wpAny_bind (wpAny_seqItems hol hdl ?_)
  simp only [Int.toNat_natCast, hx]
  refine wpAny_bind (wpAny_setField ho hd (by simp) (wpAny_pure ⟨x, rfl, wpAny_pure ⟨_, rfl, hQ _ ?_ (Heap.SameBut.update ..)⟩⟩))
  exact ⟨_, Heap.get?_update_self _ ho (Obj.isFreed_of_fields (Obj.data_mapFields hd _)), (Obj.cls_mapFields ..).trans hc, by
    rw [Obj.data_mapFields hd]; simp [rawInt]⟩

theorem ix_rebase {c : Cx} {ρ : Rho} {s : Shared} {it l : Addr} {i : Nat} {h' h₀' : Heap} {tk : Nat} (I : IX c ρ s) (hi : s.heap.IsListIter it l i) (hi₀ : c.s₀.heap.IsListIter it l i) (hx : c.X it) (hh : ∀ p ∈ c.hold, p.1 ≠ it) (hg : ∀ p ∈ c.grow, p.2 ≠ it)
    (hs : Heap.SameBut it s.heap h') (hs₀ : Heap.SameBut it c.s₀.heap h₀') (e : h₀'.get? it = h'.get? it) (ex : ∃ o, h'.get? it = some o) : IX { c with s₀ := { c.s₀ with heap := h₀' } } ρ { s with heap := h', toks := tk } := by
  obtain ⟨o, e1, hc, hd⟩ := id hi
  have rc : Keepable o := .inr ⟨_, _, hc, hd⟩
  have xa : c.cur it := .inl hx
  have lk : LK c.cur s.heap h' := LK.of_same_x hs xa
  have no0 : ∀ {b}, c.s₀.heap.get? b = none → h₀'.get? b = none := fun {b} n => by
    have : b ≠ it := fun z => by
      obtain ⟨o', e', _⟩ := hi₀
      rw [z, e'] at n
      cases n
    rw [hs₀.2 b this]
    exact n
  have keep : ∀ b ob, b ≠ it → s.heap.get? b = some ob → h'.get? b = some ob := fun b ob nb e => (hs.2 b nb).trans e
  have cellsame : ∀ b v, s.heap.IsCell b v → h'.IsCell b v := fun b v y => by
    have nb : b ≠ it := fun z => cell_no_list y o (z ▸ e1) rc
    obtain ⟨oo, a, d⟩ := y
    exact ⟨oo, keep _ _ nb a, d⟩
  have npt : it ≠ PT := fun z => by
    obtain ⟨ps, e', _⟩ := I.ie.sta.tab
    rw [z, e'] at e1
    cases e1
    cases hc
  have S0 : Sta No h₀' := sta_turn I.st0 hi₀ hs₀ fun _ y => y.elim
  have G : Go { c.s₀ with heap := h₀' } { s with heap := h', toks := tk } := by
    refine ⟨I.go.gens, I.go.drawn, I.go.os, ⟨fun b ob nb e2 => ?_, fun _ => ?_⟩⟩
    · by_cases hb : b = it
      · subst hb
        rw [← e]
        exact e2
      · exact keep b ob hb (I.go.ext.keep b ob nb ((hs₀.2 b hb).symm.trans e2))
    · exact tab_same I.ie.sta.tab (Ne.symm npt) hs
  refine ⟨⟨I.ie.ok, sta_turn I.ie.sta hi hs (low_same I.ie.sta hs fun _ => ex), ⟨?_, fun y d he hk => ?_, fun y k e => let ⟨v, a⟩ := I.ie.fm.cex y k e; ⟨v, cellsame _ _ a⟩⟩⟩, G, S0, no0 I.lo, fun y hk how => ?_, I.inj, fun p hp => ?_, I.mn, fun p hp => ?_⟩
  · obtain ⟨m, hm, hl⟩ := I.ie.fm.loc
    exact ⟨m, hm.sameBut hs (fun z => ns_no_list hm o (z ▸ e1) rc), fun y d he hk => let ⟨v, a, b⟩ := hl y d he hk; ⟨v, a, b.mono lk⟩⟩
  · obtain ⟨cc, v, a, b, r⟩ := I.ie.fm.cel y d he hk
    exact ⟨cc, v, a, cellsame _ _ b, r.mono lk⟩
  · obtain ⟨k, v, a, b, d⟩ := I.ce y hk how
    exact ⟨k, v, a, cellsame _ _ b, no0 d⟩
  · obtain ⟨a, b, vs, ds, f1, ⟨oo, k, g1, g2, g3, g4⟩, f3⟩ := I.mu p hp
    exact ⟨no0 a, b, vs, ds, f1, ⟨oo, k, keep _ _ (hg p hp) g1, g2, g3, g4⟩, f3.mono lk⟩
  · obtain ⟨a, b⟩ := I.ke p hp
    exact ⟨keep _ _ (hh p hp) a, b⟩
/-- within _parse_varint: k signs have been taken -/
noncomputable def VS (s₀ : Shared) (c : Cx) (it l : Addr) (i k : Nat) (items : Array Value) (ρ : Rho) (s : Shared) : Prop :=
  ∃ h₀, Heap.SameBut it s₀.heap h₀ ∧ h₀.IsListIter it l (i + k) ∧ h₀.IsList l items ∧ IX { c with s₀ := { s₀ with heap := h₀ } } ρ s
section
variable {w : World} {n : Nat} {s₀ : Shared} {c : Cx} {it l : Addr} {i k : Nat} {items : Array Value} {ρ : Rho} {s : Shared} {A : Around}
theorem vs_there (V : VS s₀ c it l i k items ρ s) : s.heap.IsListIter it l (i + k) ∧ s.heap.IsList l items := by
  obtain ⟨h₀, a, b, d, I⟩ := V
  have np : ∀ {b ob}, h₀.get? b = some ob → ob.cls ≠ .none → b ≠ PT := fun e q z => by
    obtain ⟨ps, e', _⟩ := I.st0.tab
    have e'' : h₀.get? PT = some (tabObj ps) := e'
    rw [z, e''] at e
    cases e
    exact q rfl
  obtain ⟨o, e1, e2, e3⟩ := b
  obtain ⟨o', f1, f2, f3⟩ := d
  exact ⟨⟨o, I.go.ext.keep _ _ (np e1 (by rw [e2]; decide)) e1, e2, e3⟩, ⟨o', I.go.ext.keep _ _ (np f1 (by rw [f2]; decide)) f1, f2, f3⟩⟩
theorem vs_stmt {st : Stmt} {ρ' : Rho} (ga : GA n A) (V : VS s₀ c it l i k items ρ s) (h : ∀ s₁, ES w n { c with s₀ := s₁ } ρ st (fun f ρ'' => f = .next ∧ ρ'' = ρ')) : wpAny (model PW w) A (exec st c.env) (fun fl s' => fl = .next ∧ VS s₀ c it l i k items ρ' s') (fun _ _ => False) s := by
  obtain ⟨h₀, a, b, d, I⟩ := V
  refine wpAny_mono ((h { s₀ with heap := h₀ }).run A s ga I) (fun fl s' z => ?_) fun _ _ e => e
  match fl, z with
  | .next, ⟨_, I', _, rfl⟩ => exact ⟨rfl, h₀, a, b, d, I'⟩
  | .brk, ⟨_, _, z, _⟩ => cases z
  | .cont, ⟨_, _, z, _⟩ => cases z
  | .ret v, ⟨_, _, _, _, z, _⟩ => cases z
theorem vs_next {x : Str} {px np ip cp p : Pos} {b : Int} {t : Tok} (ga : GA n A) (V : VS s₀ c it l i k items ρ s) (hx : c.X it) (hg : c.grow = []) (hh : c.hold = []) (hb : items[i + k]? = some (.int b t)) (kx : c.env.kindOf x = some .local) (ow : c.own x = true)
    (hn : c.env.kindOf "next" = some .globalImplicit) (hi : lk ρ "iterator" = some (.raw (.ref it))) (ki : c.env.kindOf "iterator" = some .local) (hs : swapsWith (.Call (.Name "next" np) [.Name "iterator" ip] [] cp) (some (.Name x px)) p.line c.env = pure false)
    (h4 : starEach [.Name "iterator" ip] c.env = (false, eval (.Name "iterator" ip) c.env) :: starEach [] c.env) (h5 : (backTo cp (starEach [.Name "iterator" ip] c.env)).any (·.1) = false) :
    wpAny (model PW w) A (exec (.Assign [.Name x px] (.Call (.Name "next" np) [.Name "iterator" ip] [] cp) p) c.env) (fun fl s' => fl = .next ∧ VS s₀ c it l i (k + 1) items (put x (.int b) ρ) s') (fun _ _ => False) s := by
  obtain ⟨T1, T2⟩ := vs_there V
  obtain ⟨h₀, a, bb, d, I⟩ := V
  refine wpAny_Assign_Name ?_ hs
  have hf : EV w n c.env ρ (.Name "next" np) (.raw (.builtin "next")) := ev_builtin (x := "next") hn rfl rfl
  refine wpAny_Call_ofName (hf.run _ A s _ _ ga I.ie fun f s₁ g₁ r₁ => ?_)
  cases r₁
  have I₁ := I.mono g₁
  refine callWith_builtin h5 (evalArgs_of h5 ((evs_cons (p := cp) (ev_name hi (.inl ki)) evs_nil h4).run _ A s₁ _ _ ga I₁.ie fun vs s₂ g₂ r₂ => ?_))
  have I₂ := I₁.mono g₂
  match vs, r₂ with
  | [_], .cons (.raw _) .nil =>
    obtain ⟨U1, U2⟩ := vs_there (⟨h₀, a, bb, d, I₂⟩ : VS s₀ c it l i k items ρ s₂)
    refine call_next U1 U2 hb fun h' hi' hs' => ?_
    obtain ⟨o', e1, e2, e3⟩ := id hi'
    obtain ⟨o0, e0, _, d0⟩ := id bb
    have nf : o'.isFreed = false := Obj.isFreed_of_fields e3
    have eu : (h₀.update it fun _ => o').get? it = some o' := Heap.get?_update_self (fun _ => o') e0 nf
    have sb : Heap.SameBut it h₀ (h₀.update it fun _ => o') := Heap.SameBut.update ..
    have ln : l ≠ it := fun z => by
      obtain ⟨ol, f1, f2, kk, f3⟩ := d
      rw [z, e0] at f1
      cases f1
      rw [d0] at f3
      cases f3
    have J := ix_rebase (tk := s₂.toks) I₂ U1 bb hx (by rw [hh]; exact fun _ h => (nomatch h)) (by rw [hg]; exact fun _ h => (nomatch h)) hs' sb (by rw [eu, e1]) ⟨o', e1⟩
    refine ix_store (c := { c with s₀ := { s₀ with heap := h₀.update it fun _ => o' } }) J (.inl kx) ow (.int b t) fun s₃ _ I₃ _ _ => ⟨rfl, _, ⟨?_, fun q hq => (sb.2 q hq).trans (a.2 q hq)⟩, ⟨o', eu, e2, e3⟩, ?_, I₃⟩
    · exact sb.1.trans a.1
    · obtain ⟨ol, f1, f2⟩ := d
      exact ⟨ol, (sb.2 _ ln).trans f1, f2⟩
end
end Mine
end
section
open PySem PySem.W PyProof.Rows PySem.Calls PySem.Spec
namespace Mine
noncomputable def Vv (dg : Nat → Int) : Nat → Int
  | 0 => dg 0
  | j + 1 => Vv dg j * 64 + dg (j + 1)
theorem iop_shl {w : World} {n : Nat} {a b : Int} (h : 0 ≤ b) (h1 : b ≤ 1000000) (h2 : a.natAbs < 2 ^ 64) : IOP w n .LShift (.int a) (.int b) (.int (a * 2 ^ b.toNat)) := by
  refine ⟨?_⟩
  rintro X A s Q E u v g S ⟨⟩ ⟨⟩ q; exact ilshift_int_small h h1 h2 (q _ _ (Go.tok _ _) (.int _ _))
theorem et_int {w : World} {n : Nat} {env : Env} {ρ : Rho} {e : PySem.Expr} {x : Int} (h : EV w n env ρ e (.int x)) (he : isTrue e env (eval e env) = (do let v ← eval e env; standAt e.pos; holding [v] (truthy v)) := by rfl) : ET w n env ρ e (x != 0) :=
  et_val h (fun X A s v Q E r q => by cases r; exact truthy_int (q _ (Go.refl _))) he
noncomputable def rv (it : Addr) (b v : Int) : Rho := [("iterator", .raw (.ref it)), ("b", .int b), ("val", .int v)]
set_option maxRecDepth 20000
set_option maxHeartbeats 4000000
theorem varint_ok {w : World} {n : Nat} {X : XS} {A : Around} {s : Shared} {Q : Value → Shared → Prop} {E : Value → Shared → Prop} {it l : Addr} {i : Nat} {items : Array Value} (dg B : Nat → Int) (g : GA (n + 1) A) (S : Sta X s.heap) (hx : X it) (hi : s.heap.IsListIter it l i) (hl : s.heap.IsList l items)
    (hB : ∀ j, j < 4 → (∃ t, items[i + j]? = some (.int (B j) t)) ∧ 0 ≤ B j ∧ B j % 64 = dg j ∧ B j / 64 % 2 = if j < 3 then 1 else 0) (q : ∀ h₀ v s', Heap.SameBut it s.heap h₀ → h₀.IsListIter it l (i + 4) → Go { s with heap := h₀ } s' → Rd X s'.heap v (.int (Vv dg 3)) → Q v s') :
    wpAny (model PW w) A (call (.ref 113) [.ref it] []) Q E s := by
  refine call_run (n := n) (i := 19) (dV := .none) (kV := .none) (cd := .ref 112) (ds := [.raw (.ref it)]) (ds' := [.raw (.ref it)]) (by decide) ["iterator"] (fun vs => ⟨vs, []⟩) (fun X s vs S R pm ct => ⟨vs, ?_, R⟩) rfl rfl rfl rfl (by decide) (by decide) X A s Q E [.ref it] g S (.cons (.raw _) .nil) (fun L A' s' ga I => ?_)
  · match vs, R with
    | [v], _ => exact BindsTo.of_eq rfl
  · have vb : ∀ j, j < 4 → 0 ≤ Vv dg j ∧ Vv dg j < 64 ^ (j + 1) := by
      intro j
      induction j with
      | zero => intro _; have := hB 0 (by decide); show 0 ≤ dg 0 ∧ dg 0 < 64; omega
      | succ j ih =>
        intro hj
        have h1 := ih (by omega)
        have h2 := hB (j + 1) hj
        have e : (64 : Int) ^ (j + 1 + 1) = 64 ^ (j + 1) * 64 := by rw [Int.pow_succ]
        show 0 ≤ Vv dg j * 64 + dg (j + 1) ∧ Vv dg j * 64 + dg (j + 1) < 64 ^ (j + 1 + 1)
        omega
    have V0 : VS s { env := envFn 19 113 L (.ref 112), s₀ := s, X := X } it l i 0 items [("iterator", .raw (.ref it))] s' := ⟨s.heap, ⟨rfl, fun _ _ => rfl⟩, hi, hl, I⟩
    have hex : (theFn 19).2.2.1 = _ :: _ := rfl
    refine wpAny_of_eq_fwd (congrArg (fun b => execs b (envFn 19 113 L (.ref 112))) hex) ?_
    let c : Cx := { env := envFn 19 113 L (.ref 112), s₀ := s, X := X }
    obtain ⟨t0, b0⟩ := (hB 0 (by decide)).1
    -- b = next(iterator)
    refine wpAny_execs_cons (wpAny_mono (vs_next (c := c) ga V0 hx rfl rfl b0 rfl rfl rfl rfl rfl rfl rfl rfl) (fun fl s₁ z => ?_) fun _ _ e => e.elim)
    obtain ⟨rfl, V1⟩ := z
    -- val = b & 63
    have e63 : ∀ j, j < 4 → Builtin.bitAnd (B j) 63 = dg j := fun j hj => by
      have := hB j hj
      rw [and_63 this.2.1]
      exact this.2.2.1
    refine wpAny_execs_cons (wpAny_mono (vs_stmt (c := c) (ρ' := rv it (B 0) (Vv dg 0)) ga V1 fun s₁ => es_assign (d := .int (dg 0)) (ev_eq (ev_bin (ev_name rfl (.inl rfl)) ev_int op_and) (by rw [e63 0 (by decide)])) (.inl rfl) ⟨rfl, rfl⟩) (fun fl s₁ z => ?_) fun _ _ e => e.elim)
    obtain ⟨rfl, V2⟩ := z
    refine wpAny_execs_cons (wpAny_While (codeAny_whileLoop (fun m s' => ∃ j, j < 4 ∧ m = 3 - j ∧ VS s c it l i (j + 1) items (rv it (B j) (Vv dg j)) s') (fun m s' hs => ?_) 3 ⟨0, by decide, rfl, V2⟩))
    obtain ⟨j, hj, rfl, V⟩ := hs
    have tst : ∀ (s₁ : Shared) (p1 p2 p3 : Pos) (kk : Nat), ET w n { c with s₀ := s₁ }.env (rv it (B j) (Vv dg j)) (.BinOp (.Name "b" p1) .BitAnd (.Constant (.int 64) kk p2) p3) (B j / 64 % 2 * 64 != 0) := fun s₁ p1 p2 p3 kk => by
      have := et_int (w := w) (n := n) (env := { c with s₀ := s₁ }.env) (ρ := rv it (B j) (Vv dg j)) (e := .BinOp (.Name "b" p1) .BitAnd (.Constant (.int 64) kk p2) p3) (x := Builtin.bitAnd (B j) 64) (ev_bin (ev_name rfl (.inl rfl)) ev_int op_and)
      rw [and_64 (hB j hj).2.1] at this
      exact this
    obtain ⟨h₀, sb, it1, li1, I1⟩ := V
    refine (tst { s with heap := h₀ } _ _ _ _).run _ A' s' _ _ ga I1.ie fun s₂ g₂ => ?_
    have I2 := I1.mono g₂
    have V' : VS s c it l i (j + 1) items (rv it (B j) (Vv dg j)) s₂ := ⟨h₀, sb, it1, li1, I2⟩
    have bit := (hB j hj).2.2.2
    by_cases h3 : j < 3
    · rw [if_pos h3] at bit
      rw [bit]
      rw [if_pos (by decide)]
      have hj1 : j + 1 < 4 := by omega
      obtain ⟨t1, b1⟩ := (hB (j + 1) hj1).1
      have vj := vb j hj
      have big : Vv dg j < 18446744073709551616 := by
        have : (64 : Int) ^ (j + 1) ≤ 16777216 := by
          have : j = 0 ∨ j = 1 ∨ j = 2 := by omega
          rcases this with rfl | rfl | rfl <;> decide
        omega
      refine wpAny_execs_cons (wpAny_mono (vs_stmt (c := c) (ρ' := rv it (B j) (Vv dg j * 64)) ga V' fun s₁ => es_iaug (d₀ := .int (Vv dg j)) (d := .int 6) rfl ev_int (iop_shl (by decide) (by decide) (by omega)) (.inl rfl) ⟨rfl, rfl⟩) (fun fl s₃ z => ?_) fun _ _ e => e.elim)
      obtain ⟨rfl, V3⟩ := z
      refine wpAny_execs_cons (wpAny_mono (vs_next (c := c) ga V3 hx rfl rfl b1 rfl rfl rfl rfl rfl rfl rfl rfl) (fun fl s₄ z => ?_) fun _ _ e => e.elim)
      obtain ⟨rfl, V4⟩ := z
      have or6 : Builtin.bitOr (Vv dg j * 64) (dg (j + 1)) = Vv dg (j + 1) := by
        have := hB (j + 1) hj1
        exact or_6 vj.1 (by omega) (by omega)
      refine wpAny_execs_cons (wpAny_mono (vs_stmt (c := c) (ρ' := rv it (B (j + 1)) (Vv dg (j + 1))) ga V4 fun s₁ => es_iaug (d₀ := .int (Vv dg j * 64)) (d := .int (dg (j + 1))) rfl (ev_eq (ev_bin (ev_name rfl (.inl rfl)) ev_int op_and) (by rw [e63 _ hj1])) iop_or (.inl rfl) ⟨rfl, by rw [or6]; rfl⟩) (fun fl s₅ z => ?_) fun _ _ e => e.elim)
      obtain ⟨rfl, V5⟩ := z
      exact wpAny_execs_nil ⟨3 - (j + 1), by omega, j + 1, hj1, rfl, V5⟩
    · have e3 : j = 3 := by omega
      subst e3
      rw [if_neg (by decide)] at bit
      rw [bit]
      rw [if_neg (by decide)]
      refine wpAny_execs_nil ?_
      obtain ⟨h₀, sb, it1, li1, I3⟩ := V'
      refine wpAny_mono ((ex_ret (w := w) (n := n) (c := { c with s₀ := { s with heap := h₀ } }) (ρ := rv it (B 3) (Vv dg 3)) (Φ := fun f _ => f = .ret (.int (Vv dg 3))) (ev_name rfl (.inl rfl)) rfl).run A' s₂ ga I3) (fun fl s₆ z => ?_) fun _ _ e => e.elim
      match fl, z with
      | .next, ⟨_, _, z⟩ => cases z
      | .brk, ⟨_, _, z⟩ => cases z
      | .cont, ⟨_, _, z⟩ => cases z
      | .ret v, ⟨d', _, r', g', h⟩ =>
        cases h
        exact ⟨v, rfl, q h₀ v s₆ sb it1 g' r'⟩
end Mine
end
section
open PySem PySem.W PyProof.Rows PySem.Calls PySem.Spec
namespace Mine
theorem walks_from {prog : Program} {w : World} {A : Around} (hh : A.handled = none) (I ax : Addr) (hne : ax ≠ I) (items : Array Value) (k m : Nat) (hk : k + m = items.size) :
    Walks prog w A I [I, ax] [I] m (fun i v => items[k + i]? = some v) (fun i h => h.IsListIter I ax (k + i) ∧ h.IsList ax items) where
  sub := fun b hb => by simp at hb; simp [hb]
  frame := fun _ _ _ st hk => ⟨st.1.at fun o e => hk I (by simp) o e, st.2.at fun o e => hk ax (by simp) o e⟩
  item := fun i s Q E hi st hQ => by
    refine wpAny_pyNext_list_item st.1 st.2 (x := items[k + i]'(by omega)) (by simp) fun h' hit' hs' => ?_
    exact hQ _ h' s.toks (by simp) ⟨hit', st.2.extBut hs'.extBut hne⟩ fun b o hb e => hs'.extBut b o (fun h => hb (by simp [h])) e
  done := fun s Q E st hQ => wpAny_pyNext_list_end hh st.1 st.2 (by simp; omega) fun h' he' => hQ h' s.toks fun b o hb e => he' b o (fun h => hb (by simp [h])) e
  self := fun _ _ _ _ st hQ => wpAny_pyIter_listiter st.1 hQ
theorem call_iter {w : World} {A : Around} {E : Value → Shared → Prop} {s : Shared} {l : Addr} {items : Array Value} {Q : Value → Shared → Prop} (hl : s.heap.IsList l items)
    (hQ : Q (.ref s.heap.objs.size) { s with heap := s.heap.push { cls := .type "list_iterator", data := .fields #[.ref l, .int 0 0] } }) : wpAny (model PW w) A (call (.builtin "iter") [.ref l]) Q E s := by
  refine call_function_entry (by decide +kernel) (by decide +kernel) kdk_entry_iter (kdk_args_iter _) ?_
  unfold Builtin.«iter»
  refine wpAny_bind (wpAny_of_eq (a := [Value.ref l]) (by first | rfl | kernel_rfl) ?_)
  show wpAny _ _ (pyIter (.ref l) >>= _) _ _ _
  refine wpAny_bind (wpAny_pyIter_list hl ?_)
  exact wpAny_pure ⟨_, rfl, hQ⟩
/-- the octets that are read -/
noncomputable def octs (dg : List Int) (turn : Int) : List Int := (List.range 4).map fun k => dg.getD k 0 + ([64, 64, 64, 0] : List Int).getD k 0 + ((k : Int) + turn) % 2 * 128
noncomputable def octF (dg : List Int) (turn : Int) : D → D
  | .int k => .int (dg.getD k.toNat 0 + ([64, 64, 64, 0] : List Int).getD k.toNat 0 + (k + turn) % 2 * 128)
  | d => d
set_option maxRecDepth 20000
set_option maxHeartbeats 4000000
theorem read_ok {w : World} {n : Nat} {dg : List Int} {turn : Int} (hl : dg.length = 4) (hd : ∀ k ∈ dg, Dig k) : CALL w (n + 2) (.ref 147) [.list (dg.map .int), .int turn] (.list [.int (Vv (fun j => dg.getD j 0) 3), .int 7]) := by
  refine call_of' (i := 26) (dV := .none) (kV := .none) (cd := .ref 146) (by decide) ["digits", "turn"] (fun vs h s pm ct => ?_) rfl rfl rfl rfl (by decide) (by decide) fun L s₀ X hX => ?_
  · match vs, h with
    | [u, v], _ => exact BindsTo.of_eq rfl
  · let c : Cx := { env := envFn 26 147 L (.ref 146), s₀ := s₀, X := X }
    let ρ₀ : Rho := [("digits", .list (dg.map .int)), ("turn", .int turn)]
    refine ex_open (ss := _ :: _) rfl ?_
    refine ⟨fun A s ga I => ?_⟩
    refine wpAny_execs_cons (wpAny_Assign_Name ?_ rfl)
    refine wpAny_Call_ofName ((ev_builtin (w := w) (n := n + 1) (env := c.env) (ρ := ρ₀) (x := "iter") rfl rfl rfl).run c.cur A s _ _ ga I.ie fun f s₁ g₁ r₁ => ?_)
    cases r₁
    have I₁ := I.mono g₁
    refine callWith_builtin rfl (evalArgs_of rfl ((evs_cons (w := w) (n := n + 1) (env := c.env) (ρ := ρ₀) (d := .list ((octs dg turn).map .int ++ [.int 7])) ?ev evs_nil rfl).run c.cur A s₁ _ _ ga I₁.ie fun vs s₂ g₂ r₂ => ?_))
    case ev =>
      refine ev_bin (ev_eq (ev_comp (cl := [("turn", L + 2), ("digits", L + 1)]) (src := .rng 0 4) (ds := (List.range 4).map fun (i : Nat) => D.int (0 + i)) (fun _ => true) (octF dg turn) (ev_call_ty (ev_builtin rfl rfl rfl) (evs_cons ev_int evs_nil) call_rng1) (iter_rng (by decide) (by decide)) ?K (by decide) rfl (by decide) rfl (fun _ _ _ => ei_nil) ?b) ?e) (ev_list (evs_cons ev_int evs_nil) (by decide)) (op_lists (by simp [octs]; decide))
      case K => exact ⟨rfl, rfl, by decide, List.forall_mem_cons.mpr ⟨⟨rfl, .inl rfl, fun h => nomatch h⟩, List.forall_mem_cons.mpr ⟨⟨rfl, .inl rfl, fun h => nomatch h⟩, List.forall_mem_nil _⟩⟩, ⟨rfl, rfl⟩, rfl, by decide⟩
      case b =>
        intro C d hd' _
        obtain ⟨k, hk, rfl⟩ := List.mem_map.mp hd'
        have hk' : k < 4 := List.mem_range.mp hk
        have ek : ((0 : Int) + k).toNat = k := by omega
        show EV _ _ _ _ _ (.int (dg.getD ((0 : Int) + k).toNat 0 + ([64, 64, 64, 0] : List Int).getD ((0 : Int) + k).toNat 0 + ((0 : Int) + k + turn) % 2 * 128))
        rw [ek]
        refine ev_bin (ev_bin (ev_at (ev_name rfl (.inr (.inl rfl))) (ev_name rfl (.inl rfl)) (by omega) (by omega) (by rw [ek]; exact getD_some (by omega))) (ev_at (ds := [.int 64, .int 64, .int 64, .int 0]) (ev_list (evs_cons ev_int (evs_cons ev_int (evs_cons ev_int (evs_cons ev_int evs_nil)))) (by decide)) (ev_name rfl (.inl rfl)) (by omega) (by omega) ?_) op_add) (ev_bin (ev_bin (ev_bin (ev_name rfl (.inl rfl)) (ev_name rfl (.inr (.inl rfl))) op_add) ev_int (op_mod (by decide))) ev_int (op_mul ?_)) op_add
        · rw [ek]
          exact getD_some (xs := [64, 64, 64, 0]) hk'
        · have : ((0 : Int) + k + turn) % 2 = 0 ∨ ((0 : Int) + k + turn) % 2 = 1 := by omega
          rcases this with h | h <;> rw [h] <;> exact IntMulOk.of_le (m := 8) (n := 8) (by decide) (by decide) (by decide)
      case e =>
        have : ((List.range 4).map fun (i : Nat) => D.int (0 + i)).filter (fun _ => true) = (List.range 4).map fun (i : Nat) => D.int (0 + i) := List.filter_eq_self.mpr fun _ _ => rfl
        rw [this]
        unfold octs
        rw [List.map_map, List.map_map]
        congr 1
    have I₂ := I₁.mono g₂
    match vs, r₂ with
    | [_], .cons (.list (a := l) (vs := items) hL nl RL) .nil =>
    refine call_iter hL ?_
    have ilen : items.length = 5 := by rw [RL.length]; simp [octs]
    have fr : s₂.heap.get? s₂.heap.objs.size = none := get_size _
    generalize hit : s₂.heap.objs.size = it at fr
    have lt : l ≠ it := by
      obtain ⟨o, e, _⟩ := hL
      exact ne_of_get fr e
    have g₃ := Go.push s₂ { cls := .type "list_iterator", data := .fields #[.ref l, .int 0 0] } s₂.toks
    have itc : ¬ c.cur it := fun y => by
      obtain ⟨_, o, e⟩ := I₂.ie.sta.low it y
      rw [fr] at e
      cases e
    have f0 : s₀.heap.get? it = none := by
      cases e : s₀.heap.get? it with
      | none => rfl
      | some o =>
        have np : it ≠ PT := fun z => by
          obtain ⟨ps, e', _⟩ := I₂.ie.sta.tab
          rw [← z, fr] at e'
          cases e'
        have := I₂.go.ext.keep it o np e
        rw [fr] at this
        cases this
    have npt : it ≠ PT := fun z => by
      obtain ⟨ps, e', _⟩ := I₂.ie.sta.tab
      rw [← z, fr] at e'
      cases e'
    have hi0 : (s₂.heap.push { cls := .type "list_iterator", data := .fields #[.ref l, .int 0 0] }).IsListIter it l 0 := ⟨_, by rw [← hit]; exact Heap.get?_push_size _ rfl, rfl, rfl⟩
    let c' : Cx := { c with X := fun b => c.X b ∨ b ∈ [it] }
    have W₃ : IX c' ρ₀ { s₂ with heap := s₂.heap.push { cls := .type "list_iterator", data := .fields #[.ref l, .int 0 0] } } := ix_wide (wr := [it]) I₂ (fun b hb => by rw [List.mem_singleton.mp hb]; exact fr) g₃ (fun b hb => by
      rw [List.mem_singleton.mp hb]
      obtain ⟨o, e, _⟩ := hi0
      exact ⟨npt, o, e⟩)
    have hL₃ : (s₂.heap.push { cls := .type "list_iterator", data := .fields #[.ref l, .int 0 0] }).IsList l items.toArray := by
      obtain ⟨o, e, r⟩ := hL
      exact ⟨o, Heap.get?_push_of_some _ e, r⟩
    refine ix_store (c := c') (d := .raw (.ref it)) W₃ (.inl rfl) rfl (.raw _) fun s₄ a₄ I₄ ha₄ k₄ => ?_
    have lk₄ : LK No _ s₄.heap := store_lk (c := c') (X := No) W₃ ha₄ k₄
    have hi₄ : s₄.heap.IsListIter it l 0 := by
      obtain ⟨o, e, c1, d1⟩ := hi0
      exact ⟨o, lk₄ it o (fun z => z) (.inr ⟨_, _, c1, d1⟩) e, c1, d1⟩
    have hL₄ : s₄.heap.IsList l items.toArray := lk₄.list (fun z => z) hL₃
    have olen : (octs dg turn).length = 4 := by simp [octs]
    have itm : ∀ j, j < 4 → ∃ t, items.toArray[0 + j]? = some (.int ((octs dg turn).getD j 0) t) := fun j hj => by
      obtain ⟨v, e, r⟩ := RL.get j (.int ((octs dg turn).getD j 0)) (by rw [List.getElem?_append_left (by simp; omega)]; exact getD_some (by omega))
      cases r
      exact ⟨_, by rw [Nat.zero_add]; simpa using e⟩
    obtain ⟨t7, e7⟩ : ∃ t, items.toArray[4 + 0]? = some (.int 7 t) := by
      obtain ⟨v, e, r⟩ := RL.get 4 (.int 7) (by rw [List.getElem?_append_right (by simp; omega)]; simp [olen])
      cases r
      exact ⟨_, by simpa using e⟩
    have oct : ∀ j, j < 4 → (octs dg turn).getD j 0 = dg.getD j 0 + ([64, 64, 64, 0] : List Int).getD j 0 + ((j : Int) + turn) % 2 * 128 := fun j hj => by
      unfold octs
      simp [List.getD, hj]
    have dig : ∀ j, j < 4 → Dig (dg.getD j 0) := fun j hj => by
      have : dg.getD j 0 = dg[j] := by simp [List.getD, show j < dg.length by omega]
      rw [this]
      exact hd _ (List.getElem_mem _)
    -- the second statement
    refine wpAny_execs_cons (wpAny_Return_some (wpAny_BinOp ?_))
    refine wpAny_List (wpAny_items_cons ?_ rfl)
    refine wpAny_Call_ofName ((ev_global (w := w) (n := n + 1) (env := c.env) (ρ := (put "rest" (.raw (.ref it)) ρ₀)) (x := "_parse_varint") (v := .ref 113) rfl rfl).run c'.cur A s₄ _ _ ga I₄.ie fun f s₅ g₅ r₅ => ?_)
    cases r₅
    have I₅ := I₄.mono g₅
    obtain ⟨oc, od, osl, pm, ct, e, r⟩ := I₅.ie.sta.fns (113, 19, .none, .none, .ref 112) (by decide)
    have hap : (113 : Addr) ≠ PT := by decide
    refine callWith_function (o := ⟨oc, od, .func (fdOf 19 .none .none pm (.ref 112) ct), osl⟩) (fd := fdOf 19 .none .none pm (.ref 112) ct) ?_
    refine evalArgs_of rfl ((evs_cons (w := w) (n := n + 1) (env := c.env) (ρ := (put "rest" (.raw (.ref it)) ρ₀)) (ev_name (d := .raw (.ref it)) rfl (.inl rfl)) evs_nil rfl).run c'.cur A s₅ _ _ ga I₅.ie fun vs s₆ g₆ r₆ => ?_)
    have I₆ := I₅.mono g₆
    match vs, r₆ with
    | [_], .cons (.raw _) .nil =>
    refine ⟨⟨g₆.ext.keep _ _ hap e, rfl⟩, ?_⟩
    have keepk : ∀ {h h' : Heap} (x : Ext h h') (t : TabOk h) {b o}, Keepable o → h.get? b = some o → h'.get? b = some o := fun x t b o q e => x.lk t (X := No) b o (fun z => z) q e
    have g₄₆ := g₅.trans g₆
    have hi₆ : s₆.heap.IsListIter it l 0 := by
      obtain ⟨o, e, c1, d1⟩ := hi₄
      exact ⟨o, g₄₆.ext.lk (X := No) I₄.ie.sta.tab it o (fun z => z) (.inr ⟨_, _, c1, d1⟩) e, c1, d1⟩
    have hL₆ : s₆.heap.IsList l items.toArray := (g₄₆.ext.lk (X := No) I₄.ie.sta.tab).list (fun z => z) hL₄
    refine varint_ok (n := n) (X := c'.cur) (fun j => dg.getD j 0) (fun j => (octs dg turn).getD j 0) ga I₆.ie.sta (.inl (.inr (.head _))) hi₆ hL₆ ?hB fun h₀ v s₇ sb it4 g₇ rV => ?_
    case hB =>
      intro j hj
      have h1 := oct j hj
      have h2 := dig j hj
      have e2 : ([64, 64, 64, 0] : List Int).getD j 0 = if j < 3 then 64 else 0 := by
        have : j = 0 ∨ j = 1 ∨ j = 2 ∨ j = 3 := by omega
        rcases this with rfl | rfl | rfl | rfl <;> rfl
      rw [e2] at h1
      refine ⟨itm j hj, ?_, ?_, ?_⟩
      · rw [h1]
        have := h2.1
        split <;> omega
      · rw [h1]
        have := h2.1
        have := h2.2
        split <;> omega
      · rw [h1]
        have := h2.1
        have := h2.2
        split <;> omega
    have sep : ∀ {ρ : Rho} {s : Shared} {k : Nat}, IX c' ρ s → s.heap.IsListIter it l k → c'.env.locals ≠ it ∧ ∀ y q, c'.env.cells.lookup y = some q → q ≠ it := fun {ρ s k} I hi => by
      obtain ⟨o, e, c1, d1⟩ := hi
      refine ⟨fun z => ?_, fun y q eq z => ?_⟩
      · obtain ⟨m, hm, _⟩ := I.ie.fm.loc
        exact ns_no_list hm o (z ▸ e) (.inr ⟨_, _, c1, d1⟩)
      · obtain ⟨v, hv⟩ := I.ie.fm.cex y q eq
        exact cell_no_list hv o (z ▸ e) (.inr ⟨_, _, c1, d1⟩)
    obtain ⟨nl6, nc6⟩ := sep I₆ hi₆
    have J₆ : IX c' (put "rest" (.raw (.ref it)) ρ₀) { s₆ with heap := h₀ } := ix_wr (tk := s₆.toks) (wr := [it]) I₆ (fun b hb => .inr hb) (fun b hb => by rw [List.mem_singleton.mp hb]; exact f0) (fun z => nl6 (List.mem_singleton.mp z)) (fun y q eq z => nc6 y q eq (List.mem_singleton.mp z)) (fun p hp => (nomatch hp)) (fun p hp => (nomatch hp))
      (fun b hb => by rw [List.mem_singleton.mp hb]; obtain ⟨o, e, _⟩ := it4; exact ⟨o, e⟩) fun b o nb e => (sb.2 b fun z => nb (z ▸ .head _)).trans e
    have J₇ := J₆.mono g₇
    have hi₇ : s₇.heap.IsListIter it l 4 := by
      obtain ⟨o, e, c1, d1⟩ := it4
      exact ⟨o, g₇.ext.lk (X := No) J₆.ie.sta.tab it o (fun z => z) (.inr ⟨_, _, c1, d1⟩) e, c1, d1⟩
    have hL₇ : s₇.heap.IsList l items.toArray := by
      refine (g₇.ext.lk (X := No) J₆.ie.sta.tab).list (fun z => z) ?_
      obtain ⟨o, e, r⟩ := hL₆
      exact ⟨o, (sb.2 l lt).trans e, r⟩
    refine wpAny_items_nil ⟨by show 1 ≤ _; decide, ?_⟩
    have g₈ := Go.push s₇ { cls := .type "list", data := .seq [v].toArray } s₇.toks
    have J₈ := J₇.mono g₈
    have fr1 : s₇.heap.get? s₇.heap.objs.size = none := get_size _
    have l1 : (s₇.heap.push { cls := .type "list", data := .seq [v].toArray }).IsList s₇.heap.objs.size [v].toArray := ⟨_, Heap.get?_push_size _ rfl, rfl, 0, rfl⟩
    have n1 : ¬ c.cur s₇.heap.objs.size := fun y => by
      have y' : c'.cur s₇.heap.objs.size := by
        rcases y with y | y
        · exact .inl (.inl y)
        · exact .inr y
      obtain ⟨_, o, e⟩ := J₇.ie.sta.low _ y'
      rw [fr1] at e
      cases e
    have n1i : s₇.heap.objs.size ≠ it := by
      obtain ⟨o, e, _⟩ := hi₇
      exact fun z => by rw [z, e] at fr1; cases fr1
    generalize s₇.heap.objs.size = L1 at l1 n1 n1i fr1
    have keep8 : ∀ b o, s₇.heap.get? b = some o → (s₇.heap.push { cls := .type "list", data := .seq [v].toArray }).get? b = some o := fun b o e => Heap.get?_push_of_some _ e
    refine wpAny_ListComp_walk (p := fun _ => true) (F := fun v y => y = v) (by decide) (by decide) rfl (by decide) rfl ?_ (fun _ => rfl)
    refine (ev_name (w := w) (n := n + 1) (env := c.env) (ρ := (put "rest" (.raw (.ref it)) ρ₀)) (x := "rest") (d := .raw (.ref it)) rfl (.inl rfl)).run c'.cur A _ _ _ ga J₈.ie fun v9 s₉ g₉ r₉ => ?_
    cases r₉
    have J₉ := J₈.mono g₉
    have up9 : ∀ b o, Keepable o → s₇.heap.get? b = some o → s₉.heap.get? b = some o := fun b o q e => g₉.ext.lk (X := No) J₈.ie.sta.tab b o (fun z => z) q (keep8 b o e)
    have hi₉ : s₉.heap.IsListIter it l (4 + 0) := by
      obtain ⟨o, e, c1, d1⟩ := hi₇
      exact ⟨o, up9 _ _ (.inr ⟨_, _, c1, d1⟩) e, c1, d1⟩
    have hL₉ : s₉.heap.IsList l items.toArray := by
      obtain ⟨o, e, c1, k1, d1⟩ := hL₇
      exact ⟨o, up9 _ _ (.inl ⟨c1, _, _, d1⟩) e, c1, k1, d1⟩
    refine wpAny_pyIter_listiter hi₉ ⟨it, [it, l], [it], 1, _, _, rfl, walks_from ga.handled it l lt items.toArray 4 1 (by simp [ilen]), by decide, ⟨hi₉, hL₉⟩, ?_, ?_, ?_⟩
    · intro b hb
      simp only [List.mem_cons, List.not_mem_nil, or_false] at hb
      rcases hb with rfl | rfl
      · obtain ⟨o, e, _⟩ := hi₉
        exact Heap.lt_size e
      · obtain ⟨o, e, _⟩ := hL₉
        exact Heap.lt_size e
    · exact ⟨fun C i v s₃ m₃ E' _ _ _ _ _ => wpAny_pure ⟨rfl, s₃.heap, s₃.toks, rfl, fun _ _ e => e⟩, fun C i v s₃ m₃ E' _ _ hn hm _ _ => wpAny_Name (wpAny_loadName_local rfl rfl hn hm ⟨rfl, s₃.heap, s₃.toks, rfl, fun _ _ e => e⟩) (by decide)⟩
    · intro D h' tk ys vs hD hDl _ hlen hP hF hk
      match vs, hlen with
      | [x], _ =>
        have hx := hP 0 x rfl
        rw [e7] at hx
        cases hx
        have hF' : Paired (fun v y : Value => y = v) [.int 7 t7] ys.toList := hF
        have ey : ys = [Value.int 7 t7].toArray := by
          cases hys : ys.toList with
          | nil => rw [hys] at hF'; cases hF'
          | cons y r =>
            rw [hys] at hF'
            cases hF' with
            | cons f p =>
              cases p
              subst f
              exact Array.ext' (by simpa using hys)
        subst ey
        obtain ⟨nl9, nc9⟩ := sep J₉ hi₉
        have K : IX c (put "rest" (.raw (.ref it)) ρ₀) { s₉ with heap := h', toks := tk } := ix_back (wr := [it]) J₉ (fun b hb => by rw [List.mem_singleton.mp hb]; exact f0) (fun b hb => by rw [List.mem_singleton.mp hb]; exact itc) (fun z => nl9 (List.mem_singleton.mp z)) (fun y q eq z => nc9 y q eq (List.mem_singleton.mp z)) (fun p hp => (nomatch hp)) hk
        have rl : Rd c.cur h' (.ref L1) (.list [.int (Vv (fun j => dg.getD j 0) 3)]) := by
          cases rV
          rename_i tv
          refine .list (vs := [.int _ tv]) ?_ n1 (.cons (.int _ _) .nil)
          obtain ⟨o, e, c1, k1, d1⟩ := l1
          exact ⟨o, hk _ _ (fun z => n1i (List.mem_singleton.mp z)) (g₉.ext.lk (X := No) J₈.ie.sta.tab _ o (fun z => z) (.inl ⟨c1, _, _, d1⟩) e), c1, k1, d1⟩
        have rD : Rd c.cur h' (.ref D) (.list [.int 7]) := by
          refine .list (vs := [.int 7 t7]) hDl (fun y => ?_) (.cons (.int _ _) .nil)
          have y' : c'.cur D := by
            rcases y with y | y
            · exact .inl (.inl y)
            · exact .inr y
          obtain ⟨_, o, e⟩ := J₉.ie.sta.low _ y'
          rw [hD] at e
          cases e
        refine (op_lists (w := w) (n := n + 1) (a := [.int (Vv (fun j => dg.getD j 0) 3)]) (b := [.int 7]) (by show 1 + 1 ≤ _; decide)).run c.cur A _ _ _ _ _ ga K.ie.sta rl rD fun vf sf gf rf => ?_
        exact ⟨_, (put "rest" (.raw (.ref it)) ρ₀), less_cur rf, K.go.trans gf, rfl⟩
end Mine
end
section
open PySem PySem.W PyProof.Rows PySem.Calls PySem.Spec
open PySem.Builtin PySem.Builtin.Str
namespace Mine
theorem gives_index_from (x y : PySem.Str) (i : Int) (t u v : Tok) (k : Nat) (r : List Nat) (h : occurrences x y (fromIndex x.length i) x.length 1 = k :: r) : Gives («str.index» ⟨[.str x t, .str y u, .int i v], []⟩) (.int k) := by
  show Gives (match occurrences x y (fromIndex x.length i) (min x.length x.length) 1 with | k :: _ => retInt k | [] => (do rule "str.index.not-found"; raiseError "ValueError" "substring not found")) _
  rw [Nat.min_self, h]
  exact .of_eq rfl
theorem call_index {w : World} {n : Nat} {x : PySem.Str} {c i q : Nat} (h : occurrences x ⟨#[c]⟩ (fromIndex x.length i) x.length 1 = [q]) : CALL w n (.builtin "str.index") [.str x, .str ⟨#[c]⟩, .int (i : Int)] (.int q) := by
  refine ⟨?_⟩
  rintro X A s Q E vs g S (_ | ⟨⟨⟩, _ | ⟨⟨⟩, _ | ⟨⟨⟩, _ | _⟩⟩⟩) qq
  rename_i t u v
  exact call_gives PySem.F.slot_str_index (typeIs_str _ _ _) PySem.F.entry_str_index (PySem.F.args_str_index_3 _ _ _) (gives_index_from x ⟨#[c]⟩ i t u v q [] h) (qq _ _ (Go.tok _ _) (.int _ _))
theorem subAt_one {x : PySem.Str} {c i : Nat} (h : i < x.length) : subAt x ⟨#[c]⟩ i = true ↔ x.cps[i]? = some c := by
  unfold subAt
  have h' : i < x.cps.size := h
  have e : x.cps.extract i (i + (⟨#[c]⟩ : PySem.Str).length) = #[x.cps[i]] := by
    show x.cps.extract i (i + 1) = _
    apply Array.ext'
    have hl : i < x.cps.toList.length := by simpa using h'
    have e2 : List.take 1 (List.drop i x.cps.toList) = [x.cps.toList[i]] := by rw [List.drop_eq_getElem_cons hl]; rfl
    simp only [Array.toList_extract, List.extract_eq_take_drop]
    rw [show i + 1 - i = 1 by omega, e2]
    simp
  rw [e, beq_iff_eq]
  simp [h']
theorem occ_at {x : PySem.Str} {c lo q : Nat} (hq : x.cps[q]? = some c) (hlo : lo ≤ q) (hu : ∀ j, x.cps[j]? = some c → j = q) : occurrences x ⟨#[c]⟩ lo x.length 1 = [q] := by
  have hlt : q < x.length := by
    obtain ⟨h, _⟩ := Array.getElem?_eq_some_iff.mp hq
    exact h
  have ne : occurrences x ⟨#[c]⟩ lo x.length 1 ≠ [] := by
    rw [StrLaws.occ_eq]
    intro h
    have h' : (forIn (List.range' lo (x.length + 1 - lo)) ((#[] : Array Nat), lo) (StrLaws.occBody x ⟨#[c]⟩ x.length 1)).run.fst = #[] := Array.ext' h
    have := (StrLaws.occ_none x ⟨#[c]⟩ x.length _ lo fun i hi => by rw [List.mem_range'_1] at hi; exact hi.1).mp h' q (by rw [List.mem_range'_1]; omega)
    exact this ⟨by show q + 1 ≤ _; omega, (subAt_one hlt).mpr hq⟩
  have len := StrLaws.occ_length_le x ⟨#[c]⟩ lo x.length 1
  have sp := StrLaws.occ_spec x ⟨#[c]⟩ lo x.length 1
  match h : occurrences x ⟨#[c]⟩ lo x.length 1 with
  | [] => exact absurd h ne
  | [i] =>
    have := sp i (by rw [h]; exact .head _)
    have hi : i < x.length := by have := this.1; exact this
    rw [hu i ((subAt_one hi).mp this.2)]
  | i :: j :: r => rw [h] at len; simp at len
end Mine
end
section
open PySem PySem.W PyProof.Rows PySem.Calls PySem.Spec
namespace Mine
structure JF (T R : List Nat) (place k : Nat) (ρ : Rho) : Prop where
  text : lk ρ "text" = some (.str (mk T))
  row : lk ρ "row" = some (.str (mk R))
  place : lk ρ "place" = some (.int place)
  k : lk ρ "k" = some (.int k)
theorem JF.other {T R p k ρ} (j : JF T R p k ρ) {x : Str} {d : D} (hx : (["text", "row", "place", "k"] : List Str).all (fun y => !(y == x)) = true := by decide) : JF T R p k (put x d ρ) := by
  have q : ∀ y ∈ (["text", "row", "place", "k"] : List Str), y ≠ x := fun y hy => by
    have := List.all_eq_true.mp hx y hy
    simpa using this
  exact ⟨lk_ne' j.text (q _ (by simp)), lk_ne' j.row (q _ (by simp)), lk_ne' j.place (q _ (by simp)), lk_ne' j.k (q _ (by simp))⟩
noncomputable abbrev cxF (L : Nat) (s₀ : Shared) (X : XS) : Cx := { env := envFn 25 142 L (.ref 141), s₀ := s₀, X := X }
noncomputable def fitsBody : List PySem.Stmt := match ((theFn 25).2.2.1)[2]? with
  | some (PySem.Stmt.While _ b _ _) => b
  | _ => []
set_option maxRecDepth 20000
set_option maxHeartbeats 4000000
section
variable {w : World} {n L : Nat} {s₀ : Shared} {X : XS} {T R : List Nat} {place k : Nat} {ρ : Rho} {Φ : Fl → Rho → Prop}
/-- the end of a turn -/
theorem fits_tail {c behind : Nat} {S : List Nat} (j : JF T R place k ρ) (hs : lk ρ "signs" = some (.str (mk S))) (hb : lk ρ "behind" = some (.int behind)) (hc : T[place]? = some c) (hk : k < R.length) (hR : R.length ≤ 100) (hT : T.length ≤ 1000) (rest : List PySem.Stmt) (hrest : rest = fitsBody.drop 2)
    (q : c = 46 ∨ R.getD k 0 ∈ S → ∀ ρ', JF T R behind (k + 1) ρ' → Φ .next ρ') (qn : c ≠ 46 → R.getD k 0 ∉ S → ∀ ρ', Φ (.ret (.bool false)) ρ') : EX w (n + 1) (cxF L s₀ X) ρ rest Φ := by
  have hpl : place < T.length := by
    obtain ⟨h, _⟩ := List.getElem?_eq_some_iff.mp hc
    exact h
  have rk : (mk R).cps[((k : Nat) : Int).toNat]? = some (R.getD k 0) := by
    rw [Int.toNat_natCast]; simp [List.getD, hk]
  subst hrest
  refine ex_open (ss := _ :: _) rfl ?_
  have t1 : ∀ {p1 p2 p3 p4 p5}, ET w (n + 1) (cxF L s₀ X).env ρ (.Compare (.Name "k" p1) [.Eq] [.Call (.Name "len" p2) [.Name "row" p3] [] p4] p5) false := fun {_ _ _ _ _} => by
    have := co_eq (w := w) (n := n + 1) (a := k) (b := (mk R).length)
    have e : ((k : Int) == ((mk R).length : Int)) = false := by rw [mk_len]; simp; omega
    rw [e] at this
    exact et_cmp (ev_name j.k (.inl rfl)) (ev_call_bi (ev_builtin rfl rfl rfl) (evs_cons (ev_name j.row (.inl rfl)) evs_nil) (call_len_s (by rw [mk_len]; omega))) this
  have dot : CO w (n + 1) .NotEq (.str (mk [c])) (.str (mk [46])) (decide (c ≠ 46)) := by
    by_cases h : c = 46
    · subst h
      exact co_nes_f
    · rw [decide_eq_true h]
      exact co_nes_t h
  have inS : CO w (n + 1) .NotIn (.str (mk [R.getD k 0])) (.str (mk S)) (!decide (R.getD k 0 ∈ S)) := by
    have := co_notin (w := w) (n := n + 1) (c := R.getD k 0) (x := mk S)
    simpa using this
  have cont : (c = 46 ∨ R.getD k 0 ∈ S) → EX w (n + 1) (cxF L s₀ X) ρ (fitsBody.drop 3) Φ := fun h => by
    refine ex_open (ss := _ :: _) rfl ?_
    refine ex_tup2 (evs_cons (ev_name hb (.inl rfl)) (evs_cons (ev_bin (ev_name j.k (.inl rfl)) ev_int op_add) evs_nil)) (.inl rfl) (.inl rfl) rfl (ex_nil (q h _ ⟨lk_ne (lk_ne j.text), lk_ne (lk_ne j.row), lk_self, ?_⟩))
    rw [lk_ne lk_self]
    rfl
  by_cases h : c = 46 ∨ R.getD k 0 ∈ S
  · refine ex_if (r := false) (et_bool (ea_or (b := false) (c := false) t1 fun _ => ea_or (b := false) (c := false) (et_bool ?_) fun _ => ea_or_nil)) (fun h => by cases h) fun _ => ex_nil ?_
    · by_cases h46 : c = 46
      · refine ea_and (b := false) (c := true) (et_cmp (ev_sign (ev_name j.text (.inl rfl)) (ev_name j.place (.inl rfl)) (by omega) (by omega) (by rw [Int.toNat_natCast]; simpa using hc)) (ev_str (x := mk [46])) ?_) fun h => by cases h
        rw [decide_eq_false (by simpa using h46)] at dot
        exact dot
      · refine ea_and (b := true) (c := false) (et_cmp (ev_sign (ev_name j.text (.inl rfl)) (ev_name j.place (.inl rfl)) (by omega) (by omega) (by rw [Int.toNat_natCast]; simpa using hc)) (ev_str (x := mk [46])) ?_) fun _ => ea_and (b := false) (c := true) (et_cmp (ev_sign (ev_name j.row (.inl rfl)) (ev_name j.k (.inl rfl)) (by omega) (by omega) rk) (ev_name hs (.inl rfl)) ?_) fun h => by cases h
        · rw [decide_eq_true h46] at dot
          exact dot
        · rw [decide_eq_true (h.resolve_left h46)] at inS
          exact inS
    · exact cont h
  · have h46 : c ≠ 46 := fun e => h (.inl e)
    have hS : R.getD k 0 ∉ S := fun e => h (.inr e)
    refine ex_if (r := true) (et_bool (ea_or (b := false) (c := true) t1 fun _ => ea_or (b := true) (c := true) (et_bool (ea_and (b := true) (c := true) (et_cmp (ev_sign (ev_name j.text (.inl rfl)) (ev_name j.place (.inl rfl)) (by omega) (by omega) (by rw [Int.toNat_natCast]; simpa using hc)) (ev_str (x := mk [46])) ?_) fun _ => ea_and (b := true) (c := true) (et_cmp (ev_sign (ev_name j.row (.inl rfl)) (ev_name j.k (.inl rfl)) (by omega) (by omega) rk) (ev_name hs (.inl rfl)) ?_) fun _ => ea_and_nil)) fun h => by cases h)) (fun _ => ?_) (fun h => by cases h)
    · rw [decide_eq_true h46] at dot
      exact dot
    · rw [decide_eq_false hS] at inS
      exact inS
    · exact ex_ret ev_bool (qn h46 hS _)
theorem head_ok {c : Nat} (j : JF T R place k ρ) (hc : T[place]? = some c) (hT : T.length ≤ 1000) (rest : List PySem.Stmt)
    (hrest : rest = fitsBody.drop 1) (q : ∀ ρ', JF T R place k ρ' → lk ρ' "signs" = some (.str (mk [c])) → lk ρ' "behind" = some (.int (place + 1 : Nat)) → EX w (n + 1) (cxF L s₀ X) ρ' rest Φ) : EX w (n + 1) (cxF L s₀ X) ρ fitsBody Φ := by
  have hpl : place < T.length := by
    obtain ⟨h, _⟩ := List.getElem?_eq_some_iff.mp hc
    exact h
  refine ex_open (ss := _ :: _) rfl ?_
  refine ex_tup2 (evs_cons (ev_sign (ev_name j.text (.inl rfl)) (ev_name j.place (.inl rfl)) (by omega) (by omega) (by rw [Int.toNat_natCast]; simpa using hc)) (evs_cons (ev_bin (ev_name j.place (.inl rfl)) ev_int op_add) evs_nil)) (.inl rfl) (.inl rfl) rfl ?_
  subst hrest
  exact q _ j.other.other lk_self (lk_ne lk_self)
theorem fits_plain {c : Nat} (j : JF T R place k ρ) (hc : T[place]? = some c) (h92 : c ≠ 92) (h91 : c ≠ 91) (hk : k < R.length) (hR : R.length ≤ 100) (hT : T.length ≤ 1000)
    (q : c = 46 ∨ R.getD k 0 ∈ [c] → ∀ ρ', JF T R (place + 1) (k + 1) ρ' → Φ .next ρ') (qn : c ≠ 46 → R.getD k 0 ∉ [c] → ∀ ρ', Φ (.ret (.bool false)) ρ') : EX w (n + 1) (cxF L s₀ X) ρ fitsBody Φ := by
  refine head_ok j hc hT _ rfl fun ρ' j' hs hb => ?_
  refine ex_open (ss := _ :: _) rfl ?_
  refine ex_if (r := false) (et_cmp (ev_name hs (.inl rfl)) (ev_str (x := mk [92])) (co_eqs_f h92)) (fun h => by cases h) fun _ => ?_
  refine ex_if (r := false) (et_cmp (ev_name hs (.inl rfl)) (ev_str (x := mk [91])) (co_eqs_f h91)) (fun h => by cases h) fun _ => ex_nil ?_
  show EX _ _ _ _ _ _
  refine ex_nil ?_
  show EX _ _ _ _ _ _
  exact fits_tail j' hs hb hc hk hR hT _ rfl q qn
theorem fits_esc {c : Nat} (j : JF T R place k ρ) (hc : T[place]? = some 92) (hc1 : T[place + 1]? = some c) (hk : k < R.length) (hR : R.length ≤ 100) (hT : T.length ≤ 1000)
    (q : R.getD k 0 ∈ [c] → ∀ ρ', JF T R (place + 2) (k + 1) ρ' → Φ .next ρ') (qn : R.getD k 0 ∉ [c] → ∀ ρ', Φ (.ret (.bool false)) ρ') : EX w (n + 1) (cxF L s₀ X) ρ fitsBody Φ := by
  have hpl : place + 1 < T.length := by
    obtain ⟨h, _⟩ := List.getElem?_eq_some_iff.mp hc1
    exact h
  refine head_ok j hc hT _ rfl fun ρ' j' hs hb => ?_
  refine ex_open (ss := _ :: _) rfl ?_
  refine ex_if (r := true) (et_cmp (ev_name hs (.inl rfl)) (ev_str (x := mk [92])) co_eqs_t) (fun _ => ?_) (fun h => by cases h)
  refine ex_tup2 (a := .str (mk [c])) (b := .int (place + 2 : Nat)) (evs_cons (ev_sign (ev_name j'.text (.inl rfl)) (ev_name hb (.inl rfl)) (by omega) (by omega) (by rw [Int.toNat_natCast]; simpa using hc1)) (evs_cons (ev_eq (ev_bin (ev_name hb (.inl rfl)) ev_int op_add) (by congr 1)) evs_nil)) (.inl rfl) (.inl rfl) rfl (ex_nil ?_)
  show EX _ _ _ _ _ _
  exact fits_tail (S := [c]) (behind := place + 2) j'.other.other lk_self (lk_ne lk_self) hc hk hR hT _ rfl (fun h => q (h.resolve_left (by decide))) fun _ h => qn h
theorem fits_set {br : List Nat} (j : JF T R place k ρ) (hc : T[place]? = some 91) (hbr : (T.drop (place + 1)).take br.length = br) (h93 : T[place + 1 + br.length]? = some 93) (hu : ∀ i, T[i]? = some 93 → i = place + 1 + br.length) (hk : k < R.length) (hR : R.length ≤ 100) (hT : T.length ≤ 1000)
    (q : R.getD k 0 ∈ br → ∀ ρ', JF T R (place + br.length + 2) (k + 1) ρ' → Φ .next ρ') (qn : R.getD k 0 ∉ br → ∀ ρ', Φ (.ret (.bool false)) ρ') : EX w (n + 1) (cxF L s₀ X) ρ fitsBody Φ := by
  have hpl : place + 1 + br.length < T.length := by
    obtain ⟨h, _⟩ := List.getElem?_eq_some_iff.mp h93
    exact h
  refine head_ok j hc hT _ rfl fun ρ' j' hs hb => ?_
  refine ex_open (ss := _ :: _) rfl ?_
  refine ex_if (r := false) (et_cmp (ev_name hs (.inl rfl)) (ev_str (x := mk [92])) (co_eqs_f (by decide))) (fun h => by cases h) fun _ => ?_
  refine ex_if (r := true) (et_cmp (ev_name hs (.inl rfl)) (ev_str (x := mk [91])) co_eqs_t) (fun _ => ?_) (fun h => by cases h)
  have fi : PySem.fromIndex (mk T).length (place : Int) = place := by
    unfold PySem.fromIndex
    rw [if_neg (by omega)]
    omega
  have oc : Builtin.Str.occurrences (mk T) ⟨#[93]⟩ (PySem.fromIndex (mk T).length (place : Int)) (mk T).length 1 = [place + 1 + br.length] := by
    rw [fi]
    exact occ_at (by simpa using h93) (by omega) fun i hi => hu i (by simpa using hi)
  refine ex_assign (d := .int (place + br.length + 2 : Nat)) (ev_eq (ev_bin (ev_meth (a := .str (mk T)) (ds := [.str (mk [93]), .int place]) (ev_name j'.text (.inl rfl)) (fun X s v r => by cases r; exact ⟨typeIs_str s _ _, fun _ e => nomatch e⟩) (evs_cons (ev_str (x := mk [93])) (evs_cons (ev_name j'.place (.inl rfl)) evs_nil)) (call_index oc) rfl rfl rfl PySem.F.plainAttrs_str PySem.F.slot_str_index PySem.F.type_str_index) ev_int op_add) (by congr 1; omega)) (.inl rfl) ?_
  have j2 : JF T R place k (put "behind" (.int (place + br.length + 2 : Nat)) ρ') := j'.other
  have hb2 : lk (put "behind" (.int (place + br.length + 2 : Nat)) ρ') "behind" = some (.int (place + br.length + 2 : Nat)) := lk_self
  generalize (put "behind" (.int (place + br.length + 2 : Nat)) ρ') = ρ2 at j2 hb2
  have slb : Txt.slice (mk T) (some ((place + 1 : Nat) : Int)) (some ((place + 1 + br.length : Nat) : Int)) = mk br := by
    rw [slice_mk T (by omega) (by omega), show place + 1 + br.length - (place + 1) = br.length by omega, hbr]
  refine ex_assign (d := .str (mk br)) (ev_eq (ev_slice_str (lo := some ((place + 1 : Nat) : Int)) (hi := some ((place + 1 + br.length : Nat) : Int)) (ev_name j2.text (.inl rfl)) (show EV _ _ _ _ _ _ from ev_bin (ev_name j2.place (.inl rfl)) ev_int op_add) (show EV _ _ _ _ _ _ from ev_eq (ev_bin (ev_name hb2 (.inl rfl)) ev_int op_sub) (by congr 1; omega)) (by rw [mk_len]; unfold sizeLine; omega)) (by rw [slb])) (.inl rfl) (ex_nil ?_)
  show EX _ _ _ _ _ _
  refine ex_nil ?_
  show EX _ _ _ _ _ _
  exact fits_tail (S := br) (behind := place + br.length + 2) j2.other lk_self (lk_ne hb2) hc hk hR hT _ rfl (fun h => q (h.resolve_left (by decide))) fun _ h => qn h
end
end Mine
end
section
open PySem PySem.W PyProof.Rows PySem.Calls PySem.Spec
namespace Mine
open PySem.Builtin.Str
theorem sr_eq {p q r t : Int} (h1 : p = r) (h2 : q = t) : sliceRange p q 1 = sliceRange r t 1 := by rw [h1, h2]
theorem idx_upto {b len : Nat} : strSliceIndices none (some (b : Int)) 1 len = strSliceIndices (some ((0 : Nat) : Int)) (some (b : Int)) 1 len := by
  unfold strSliceIndices
  dsimp only
  refine sr_eq ?_ rfl
  simp
  omega
theorem idx_back {k len : Nat} (hk : 0 < k) (h : k ≤ len) : strSliceIndices (some (-(k : Int))) none 1 len = strSliceIndices (some ((len - k : Nat) : Int)) (some ((len : Nat) : Int)) 1 len := by
  unfold strSliceIndices
  dsimp only
  refine sr_eq ?_ ?_
  · simp only [show (1 : Int) > 0 from by decide, if_true]
    rw [if_pos (show -(k : Int) < 0 by omega), if_neg (show ¬ (((len - k : Nat) : Int) < 0) by omega)]
    omega
  · simp only [show (1 : Int) > 0 from by decide, if_true]
    rw [if_neg (show ¬ ((len : Int) < 0) by omega)]
    omega
theorem idx_mid {a k len : Nat} (hk : 0 < k) (h : k ≤ len) : strSliceIndices (some (a : Int)) (some (-(k : Int))) 1 len = strSliceIndices (some (a : Int)) (some ((len - k : Nat) : Int)) 1 len := by
  unfold strSliceIndices
  dsimp only
  refine sr_eq rfl ?_
  simp only [show (1 : Int) > 0 from by decide, if_true]
  rw [if_pos (show -(k : Int) < 0 by omega), if_neg (show ¬ (((len - k : Nat) : Int) < 0) by omega)]
  omega
theorem slice_upto {x : List Nat} {b : Nat} (h : b ≤ x.length) : Txt.slice (mk x) none (some (b : Int)) = mk (x.take b) := by
  have := slice_mk x (a := 0) (Nat.zero_le b) h
  unfold Txt.slice at this ⊢
  rw [idx_upto]
  rw [this]
  simp
theorem slice_back {x : List Nat} {k : Nat} (hk : 0 < k) (h : k ≤ x.length) : Txt.slice (mk x) (some (-(k : Int))) none = mk (x.drop (x.length - k)) := by
  have := slice_mk x (a := x.length - k) (b := x.length) (by omega) (Nat.le_refl _)
  unfold Txt.slice at this ⊢
  have e := idx_back (len := (mk x).length) hk (by rw [mk_len]; exact h)
  rw [e, mk_len]
  rw [mk_len] at this
  rw [this, List.take_of_length_le (by simp)]
theorem slice_mid {x : List Nat} {a k : Nat} (hk : 0 < k) (h : k ≤ x.length) (ha : a ≤ x.length - k) : Txt.slice (mk x) (some (a : Int)) (some (-(k : Int))) = mk ((x.drop a).take (x.length - k - a)) := by
  have := slice_mk x (a := a) (b := x.length - k) ha (by omega)
  unfold Txt.slice at this ⊢
  have e := idx_mid (a := a) (len := (mk x).length) hk (by rw [mk_len]; exact h)
  rw [e, mk_len]
  rw [mk_len] at this
  rw [this]
end Mine
end
section
open PySem PySem.W PyProof.Rows PySem.Calls PySem.Spec
namespace Mine
/-- the text within -/
noncomputable def textOf' (pre br : List Nat) (m : Nat) : List Nat := pre.flatMap escOf ++ ([91] ++ br ++ [93]) ++ List.replicate m 46
theorem made_is (pre br : List Nat) (m : Nat) : madeOf (pieceS pre br m) = mk ([40, 63, 115, 58] ++ textOf' pre br m ++ [41, 92, 90]) := by
  unfold madeOf
  rw [join_flat]
  have e0 : Str.empty = mk [] := rfl
  rw [e0, mk_append, mk_append, mk_append]
  congr 1
  have : (pieceS pre br m).flatMap (fun y => y.cps.toList) = textOf' pre br m := by
    unfold pieceS textOf'
    rw [List.flatMap_append, List.flatMap_append]
    congr 1
    · congr 1
      · rw [List.flatMap_map]
      · simp
    · induction m with
      | zero => rfl
      | succ m ih => rw [List.replicate_succ, List.flatMap_cons, ih, List.replicate_succ]; rfl
  rw [this]
  simp
noncomputable def fitsOf (pre br R : List Nat) : Bool := (R.take pre.length == pre) && decide (R.getD pre.length 0 ∈ br)
section
variable {w : World} {n : Nat} {env : Env} {ρ : Rho}
theorem ev_neg {e : PySem.Expr} {p : Pos} {a : Int} (h : EV w n env ρ e (.int a)) : EV w n env ρ (.UnaryOp .USub e p) (.int (-a)) := by
  refine ⟨fun X A s Q E g I q => ?_⟩
  refine wpAny_UnaryOp (h.run X A s _ _ g I fun v s₁ g₁ r₁ => ?_)
  cases r₁
  exact PyProof.Rows.neg_int (q _ _ (g₁.trans (Go.tok _ _)) (.int _ _))
theorem co_nes_same {x : Str} : CO w n .NotEq (.str x) (.str x) false := by
  have := co_nes (w := w) (n := n) (a := x) (b := x)
  have e : (x != x) = false := by simp
  rwa [e] at this
end
theorem esc_al {c : Nat} (h : c ∈ AL) : (c = 43 ∧ escOf c = [92, 43]) ∨ (c ≠ 43 ∧ escOf c = [c]) := by
  unfold escOf
  by_cases e : c = 43
  · exact .inl ⟨e, by rw [if_pos e]⟩
  · exact .inr ⟨e, by rw [if_neg e]⟩
set_option maxRecDepth 20000
set_option maxHeartbeats 4000000
theorem fits_ok {w : World} {n : Nat} {pre br R : List Nat} {m : Nat} (hpre : ∀ c ∈ pre, c ∈ AL) (hl : pre.length + 1 + m = 4) (hbr : ∀ c ∈ br, c ∈ AL) (hb : br.length ≤ 64) (hR : R.length = 4) :
    CALL w (n + 2) (.ref 142) [.str (madeOf (pieceS pre br m)), .str (mk R)] (.bool (fitsOf pre br R)) := by
  rw [made_is]
  generalize hT : textOf' pre br m = T
  have elen : ∀ l : List Nat, (l.flatMap escOf).length ≤ 2 * l.length := by
    intro l
    induction l with
    | nil => simp
    | cons x r ih => rw [List.flatMap_cons, List.length_append, List.length_cons]; have := esc_len x; omega
  have tlen : T.length = (pre.flatMap escOf).length + (br.length + 2) + m := by rw [← hT]; unfold textOf'; simp; omega
  have tmax : T.length ≤ 100 := by have := elen pre; omega
  refine call_of (i := 25) (dV := .none) (kV := .none) (cd := .ref 141) (by decide) ["made", "row"] (fun vs h s pm ct => ?_) rfl rfl rfl rfl (by decide) (by decide) fun L s₀ X => ?_
  · match vs, h with
    | [u, v], _ => exact BindsTo.of_eq rfl
  · generalize hM : [40, 63, 115, 58] ++ T ++ [41, 92, 90] = M
    have mlen : M.length = T.length + 7 := by rw [← hM]; simp
    have m1 : M.take 4 = [40, 63, 115, 58] := by rw [← hM]; rfl
    have m2 : M.drop (M.length - 3) = [41, 92, 90] := by
      rw [← hM, List.drop_append_of_le_length (by simp)]
      have : (([40, 63, 115, 58] : List Nat) ++ T).drop (([40, 63, 115, 58] ++ T ++ [41, 92, 90]).length - 3) = [] := List.drop_eq_nil_of_le (by simp)
      rw [this]; rfl
    have m3 : (M.drop 4).take (M.length - 3 - 4) = T := by
      rw [mlen, ← hM, List.append_assoc, show T.length + 7 - 3 - 4 = T.length by omega]
      show (T ++ [41, 92, 90]).take T.length = T
      simp
    refine ex_open (ss := _ :: _) rfl ?_
    have s1 : Txt.slice (mk M) none (some 4) = mk [40, 63, 115, 58] := by
      have := slice_upto (x := M) (b := 4) (by omega)
      rw [m1] at this
      exact this
    have s2 : Txt.slice (mk M) (some (-3)) none = mk [41, 92, 90] := by
      have := slice_back (x := M) (k := 3) (by decide) (by omega)
      rw [m2] at this
      exact this
    have s3 : Txt.slice (mk M) (some 4) (some (-3)) = mk T := by
      have := slice_mid (x := M) (a := 4) (k := 3) (by decide) (by omega) (by omega)
      rw [m3] at this
      exact this
    refine ex_if (r := false) (et_bool (ea_or (b := false) (c := false) (et_cmp (ev_eq (ev_slice_str (lo := none) (hi := some 4) (ev_name rfl (.inl rfl)) trivial (show EV _ _ _ _ _ _ from ev_int) (by rw [mk_len]; unfold sizeLine; omega)) (by rw [s1])) (ev_str (x := mk [40, 63, 115, 58])) co_nes_same) fun _ => ea_or (b := false) (c := false) (et_cmp (ev_eq (ev_slice_str (lo := some (-3)) (hi := none) (ev_name rfl (.inl rfl)) (show EV _ _ _ _ _ _ from ev_neg ev_int) trivial (by rw [mk_len]; unfold sizeLine; omega)) (by rw [s2])) (ev_str (x := mk [41, 92, 90])) co_nes_same) fun _ => ea_or_nil)) (fun h => by cases h) fun _ => ex_nil ?_
    show EX _ _ _ _ _ _
    refine ex_tup3 (evs_cons (ev_eq (ev_slice_str (lo := some 4) (hi := some (-3)) (ev_name rfl (.inl rfl)) (show EV _ _ _ _ _ _ from ev_int) (show EV _ _ _ _ _ _ from ev_neg ev_int) (by rw [mk_len]; unfold sizeLine; omega)) (by rw [s3])) (evs_cons ev_int (evs_cons ev_int evs_nil))) (.inl rfl) (.inl rfl) (.inl rfl) rfl ?_
    refine ex_cons (es_while (fun k ρ' => ∃ t place, t + k = 4 ∧ JF T R place t ρ' ∧ ((t ≤ pre.length ∧ place = ((pre.take t).flatMap escOf).length ∧ R.take t = pre.take t) ∨ (pre.length < t ∧ place + (4 - t) = T.length ∧ fitsOf pre br R = true))) 4 ⟨0, 0, rfl, ⟨rfl, rfl, rfl, rfl⟩, .inl ⟨by omega, rfl, rfl⟩⟩ fun k ρ' hj => ?_)
    obtain ⟨t, place, htk, j, ph⟩ := hj
    have AA : ∀ t, t < pre.length → T = (pre.take t).flatMap escOf ++ (escOf (pre.getD t 0) ++ ((pre.drop (t + 1)).flatMap escOf ++ ([91] ++ br ++ [93]) ++ List.replicate m 46)) := fun t ht => by
      rw [← hT]
      unfold textOf'
      have e : pre = pre.take t ++ (pre.getD t 0 :: pre.drop (t + 1)) := by
        have e1 : pre.getD t 0 = pre[t] := by simp [List.getD, ht]
        rw [e1, ← List.drop_eq_getElem_cons ht, List.take_append_drop]
      conv => lhs; rw [e]
      rw [List.flatMap_append, List.flatMap_cons]
      simp only [List.append_assoc]
    have BB : T = pre.flatMap escOf ++ (91 :: (br ++ (93 :: List.replicate m 46))) := by
      rw [← hT]
      unfold textOf'
      simp only [List.append_assoc, List.cons_append, List.nil_append]
    have rt : ∀ {A B : List Nat} {i : Nat}, (A ++ B)[A.length + i]? = B[i]? := fun {A B i} => by rw [List.getElem?_append_right (by omega), Nat.add_sub_cancel_left]
    by_cases ht4 : t < 4
    · have hk : t < R.length := by omega
      have lt : place < T.length := by
        rcases ph with ⟨h1, rfl, _⟩ | ⟨h1, h2, _⟩
        · have e : (pre.flatMap escOf).length = ((pre.take t).flatMap escOf).length + ((pre.drop t).flatMap escOf).length := by
            rw [← List.length_append, ← List.flatMap_append, List.take_append_drop]
          omega
        · omega
      refine ⟨true, ?_, ?_, ?_⟩
      · exact et_cmp (ev_name j.place (.inl rfl)) (ev_call_bi (ev_builtin rfl rfl rfl) (evs_cons (ev_name j.text (.inl rfl)) evs_nil) (call_len_s (by rw [mk_len]; omega))) (by rw [mk_len]; exact co_lt_t (by omega))
      · intro _
        show EX w (n + 1) (cxF L s₀ X) ρ' fitsBody _
        rcases ph with ⟨h1, rfl, h3⟩ | ⟨h1, h2, h3⟩
        · by_cases hp : t < pre.length
          · have hmem : pre.getD t 0 ∈ AL := by
              have e1 : pre.getD t 0 = pre[t] := by simp [List.getD, hp]
              rw [e1]
              exact hpre _ (List.getElem_mem hp)
            have tk : pre.take (t + 1) = pre.take t ++ [pre.getD t 0] := by rw [List.take_add_one]; simp [List.getD, hp]
            have rtk : R.take (t + 1) = R.take t ++ [R.getD t 0] := by rw [List.take_add_one]; simp [List.getD, hk]
            have good : R.getD t 0 ∈ [pre.getD t 0] → R.take (t + 1) = pre.take (t + 1) := fun h => by
              rw [tk, rtk, h3, List.mem_singleton.mp h]
            have bad : R.getD t 0 ∉ [pre.getD t 0] → false = fitsOf pre br R := fun h => by
              have : (R.take pre.length == pre) = false := by
                have ne : R.take pre.length ≠ pre := fun e => by
                  have e1 : (R.take pre.length)[t]? = pre[t]? := by rw [e]
                  rw [List.getElem?_take, if_pos hp] at e1
                  apply h
                  rw [List.mem_singleton]
                  simp only [List.getD, e1]
                simpa using ne
              unfold fitsOf
              rw [this]
              rfl
            have ne3 := (by decide : ∀ c ∈ AL, c ≠ 92 ∧ c ≠ 91 ∧ c ≠ 46) _ hmem
            rcases esc_al hmem with ⟨e43, ee⟩ | ⟨e43, ee⟩
            · have p0 : T[((pre.take t).flatMap escOf).length]? = some 92 := by
                rw [AA t hp, ee]; exact rt (i := 0)
              have p1 : T[((pre.take t).flatMap escOf).length + 1]? = some (pre.getD t 0) := by
                rw [AA t hp, ee, e43]; exact rt (i := 1)
              refine fits_esc j p0 p1 hk (by omega) (by omega) (fun h ρ'' j' => ⟨k - 1, by omega, t + 1, _, by omega, j', .inl ⟨by omega, ?_, good h⟩⟩) fun h ρ'' => by
                show Fl.ret _ = Fl.ret _
                rw [bad h]
              rw [tk, List.flatMap_append, List.length_append, List.flatMap_singleton, ee]
              rfl
            · have p0 : T[((pre.take t).flatMap escOf).length]? = some (pre.getD t 0) := by
                rw [AA t hp, ee]; exact rt (i := 0)
              refine fits_plain j p0 ne3.1 ne3.2.1 hk (by omega) (by omega) (fun h ρ'' j' => ⟨k - 1, by omega, t + 1, _, by omega, j', .inl ⟨by omega, ?_, good (h.resolve_left ne3.2.2)⟩⟩) fun _ h ρ'' => by
                show Fl.ret _ = Fl.ret _
                rw [bad h]
              rw [tk, List.flatMap_append, List.length_append, List.flatMap_singleton, ee]
              rfl
          · have hp' : t = pre.length := by omega
            subst hp'
            rw [List.take_length] at j h3
            have p0 : T[(pre.flatMap escOf).length]? = some 91 := by
              rw [BB]; exact rt (i := 0)
            have pb : (T.drop ((pre.flatMap escOf).length + 1)).take br.length = br := by
              rw [BB, ← List.drop_drop, List.drop_left]
              show ((br ++ (93 :: List.replicate m 46))).take br.length = br
              simp
            have p93 : T[(pre.flatMap escOf).length + 1 + br.length]? = some 93 := by
              rw [BB, show (pre.flatMap escOf).length + 1 + br.length = (pre.flatMap escOf).length + (br.length + 1) by omega, rt, List.getElem?_cons_succ, List.getElem?_append_right (by omega)]
              simp
            have no93 : ∀ c ∈ AL, c ≠ 93 := by decide
            have noE : ∀ x ∈ pre.flatMap escOf, x ≠ 93 := fun x hx => by
              obtain ⟨c, hc, hx'⟩ := List.mem_flatMap.mp hx
              rcases esc_al (hpre c hc) with ⟨_, ee⟩ | ⟨_, ee⟩
              · rw [ee] at hx'
                simp only [List.mem_cons, List.not_mem_nil, or_false] at hx'
                rcases hx' with rfl | rfl <;> decide
              · rw [ee, List.mem_singleton] at hx'
                rw [hx']
                exact no93 c (hpre c hc)
            have uniq : ∀ i, T[i]? = some 93 → i = (pre.flatMap escOf).length + 1 + br.length := fun i hi => by
              rw [BB] at hi
              by_cases h1 : i < (pre.flatMap escOf).length
              · rw [List.getElem?_append_left h1] at hi
                exact absurd rfl (noE 93 (List.mem_of_getElem? hi))
              · obtain ⟨d, rfl⟩ : ∃ d, i = (pre.flatMap escOf).length + d := ⟨i - (pre.flatMap escOf).length, by omega⟩
                rw [rt] at hi
                cases d with
                | zero => simp at hi
                | succ d =>
                  rw [List.getElem?_cons_succ] at hi
                  by_cases h2 : d < br.length
                  · rw [List.getElem?_append_left h2] at hi
                    exact absurd rfl (no93 93 (hbr 93 (List.mem_of_getElem? hi)))
                  · obtain ⟨d', rfl⟩ : ∃ d', d = br.length + d' := ⟨d - br.length, by omega⟩
                    rw [rt] at hi
                    cases d' with
                    | zero => omega
                    | succ d' =>
                      rw [List.getElem?_cons_succ, List.getElem?_replicate] at hi
                      split at hi
                      · cases hi
                      · cases hi
            have eq1 : (R.take pre.length == pre) = true := by rw [h3]; simp
            refine fits_set j p0 pb p93 uniq hk (by omega) (by omega) (fun h ρ'' j' => ⟨k - 1, by omega, pre.length + 1, _, by omega, j', .inr ⟨by omega, by omega, ?_⟩⟩) fun h ρ'' => ?_
            · unfold fitsOf
              rw [eq1, decide_eq_true h]
              rfl
            · show Fl.ret _ = Fl.ret _
              unfold fitsOf
              rw [eq1, decide_eq_false h]
              rfl
        · have p0 : T[place]? = some 46 := by
            rw [← hT]
            unfold textOf'
            have xl : (pre.flatMap escOf ++ ([91] ++ br ++ [93])).length = (pre.flatMap escOf).length + (br.length + 2) := by
              rw [List.length_append]
              congr 1
              simp
            have hlen : place = (pre.flatMap escOf ++ ([91] ++ br ++ [93])).length + (place - (pre.flatMap escOf ++ ([91] ++ br ++ [93])).length) := by
              omega
            rw [hlen, rt, List.getElem?_replicate, if_pos (by omega)]
          refine fits_plain j p0 (by decide) (by decide) hk (by omega) (by omega) (fun h ρ'' j' => ⟨k - 1, by omega, t + 1, _, by omega, j', .inr ⟨by omega, by omega, h3⟩⟩) fun h => absurd rfl h
      · exact fun h => by cases h
    · have ht : t = 4 := by omega
      subst ht
      have h3 : place = T.length ∧ fitsOf pre br R = true := by
        rcases ph with ⟨h1, _⟩ | ⟨_, h2, h3⟩
        · omega
        · exact ⟨by omega, h3⟩
      obtain ⟨rfl, h3⟩ := h3
      refine ⟨false, ?_, ?_, ?_⟩
      · exact et_cmp (ev_name j.place (.inl rfl)) (ev_call_bi (ev_builtin rfl rfl rfl) (evs_cons (ev_name j.text (.inl rfl)) evs_nil) (call_len_s (by rw [mk_len]; omega))) (by rw [mk_len]; exact co_lt_f (by omega))
      · exact fun h => by cases h
      · intro _
        show EX _ _ _ _ _ _
        refine ex_ret (ev_cmp (ev_name j.k (.inl rfl)) (ev_call_bi (ev_builtin rfl rfl rfl) (evs_cons (ev_name j.row (.inl rfl)) evs_nil) (call_len_s (by rw [mk_len]; omega))) co_eq) ?_
        show Fl.ret _ = Fl.ret _
        rw [mk_len, hR, h3]
        rfl
end Mine
end
section
open PySem PySem.W PyProof.Rows PySem.Calls PySem.Spec
namespace Mine
/-- a number's row lies within a row of the rows -/
noncomputable def rowFits (d : List Int) (r : List Int × Int × Int) : Bool := (d.take r.1.length == r.1) && decide (r.2.1 ≤ d.getD r.1.length 0 ∧ d.getD r.1.length 0 ≤ r.2.2)
noncomputable def ind (p : Prop) [Decidable p] : Nat := if p then 1 else 0
noncomputable def valOf (a b c d : Int) : Int := a * 262144 + b * 4096 + c * 64 + d
theorem same_0 {o0 o1 o2 o3 t0 t1 t2 t3 : Int} (h : o0 ≠ t0) : sameOf [o0, o1, o2, o3] [t0, t1, t2, t3] = 0 := by
  unfold sameOf
  simp [List.range, List.range.loop, h]
theorem same_1 {o0 o1 o2 o3 t1 t2 t3 : Int} (h : o1 ≠ t1) : sameOf [o0, o1, o2, o3] [o0, t1, t2, t3] = 1 := by
  unfold sameOf
  simp [List.range, List.range.loop, h]
theorem same_2 {o0 o1 o2 o3 t2 t3 : Int} (h : o2 ≠ t2) : sameOf [o0, o1, o2, o3] [o0, o1, t2, t3] = 2 := by
  unfold sameOf
  simp [List.range, List.range.loop, h]
theorem same_3 {o0 o1 o2 o3 t3 : Int} (h : o3 ≠ t3) : sameOf [o0, o1, o2, o3] [o0, o1, o2, t3] = 3 := by
  unfold sameOf
  simp [List.range, List.range.loop, h]
theorem same_4 {o0 o1 o2 o3 : Int} : sameOf [o0, o1, o2, o3] [o0, o1, o2, o3] = 4 := by
  unfold sameOf
  simp [List.range, List.range.loop]
/-- the rows that are turned round do no harm -/
theorem fits_le (d : List Int) (l : List (List Int × Int × Int)) : ((l.filter fun r => decide (r.2.1 ≤ r.2.2)).filter (rowFits d)).length = l.countP (rowFits d) := by
  rw [List.filter_filter, List.countP_eq_length_filter]
  congr 1
  refine List.filter_congr fun r _ => ?_
  unfold rowFits
  by_cases h : r.2.1 ≤ r.2.2
  · simp [h]
  · have : ¬ (r.2.1 ≤ d.getD r.1.length 0 ∧ d.getD r.1.length 0 ≤ r.2.2) := by omega
    simp only [decide_eq_false this, Bool.and_false, Bool.false_and]
theorem cons_count {d : List Int} {r : List Int × Int × Int} {l : List (List Int × Int × Int)} : (r :: l).countP (rowFits d) = ind (rowFits d r = true) + l.countP (rowFits d) := by
  rw [List.countP_cons]
  unfold ind
  omega
theorem fit0 {d0 d1 d2 d3 a b : Int} : (rowFits [d0, d1, d2, d3] ([], a, b) = true) ↔ (a ≤ d0 ∧ d0 ≤ b) := by simp [rowFits]
theorem fit1 {d0 d1 d2 d3 x0 a b : Int} : (rowFits [d0, d1, d2, d3] ([x0], a, b) = true) ↔ (d0 = x0 ∧ a ≤ d1 ∧ d1 ≤ b) := by simp [rowFits]
theorem fit2 {d0 d1 d2 d3 x0 x1 a b : Int} : (rowFits [d0, d1, d2, d3] ([x0, x1], a, b) = true) ↔ (d0 = x0 ∧ d1 = x1 ∧ a ≤ d2 ∧ d2 ≤ b) := by simp [rowFits, and_assoc]
theorem fit3 {d0 d1 d2 d3 x0 x1 x2 a b : Int} : (rowFits [d0, d1, d2, d3] ([x0, x1, x2], a, b) = true) ↔ (d0 = x0 ∧ d1 = x1 ∧ d2 = x2 ∧ a ≤ d3 ∧ d3 ≤ b) := by simp [rowFits, and_assoc]
theorem ind_iff {p q : Prop} [Decidable p] [Decidable q] (h : p ↔ q) : ind p = ind q := by
  unfold ind
  by_cases hp : p
  · rw [if_pos hp, if_pos (h.mp hp)]
  · rw [if_neg hp, if_neg (fun x => hp (h.mpr x))]
theorem raw_0 {o0 o1 o2 o3 t0 t1 t2 t3 : Int} : rawRows [o0, o1, o2, o3] [t0, t1, t2, t3] 0 3 = [([], o0 + 1, t0 - 1), ([o0, o1, o2], o3, o3), ([t0, t1, t2], t3, t3), ([o0], o1 + 1, 63), ([t0], 0, t1 - 1), ([o0, o1], o2 + 1, 63), ([t0, t1], 0, t2 - 1), ([o0, o1, o2], o3 + 1, 63), ([t0, t1, t2], 0, t3 - 1)] := rfl
theorem raw_1 {o0 o1 o2 o3 t0 t1 t2 t3 : Int} : rawRows [o0, o1, o2, o3] [t0, t1, t2, t3] 1 2 = [([o0], o1 + 1, t1 - 1), ([o0, o1, o2], o3, o3), ([t0, t1, t2], t3, t3), ([o0, o1], o2 + 1, 63), ([t0, t1], 0, t2 - 1), ([o0, o1, o2], o3 + 1, 63), ([t0, t1, t2], 0, t3 - 1)] := rfl
theorem raw_2 {o0 o1 o2 o3 t0 t1 t2 t3 : Int} : rawRows [o0, o1, o2, o3] [t0, t1, t2, t3] 2 1 = [([o0, o1], o2 + 1, t2 - 1), ([o0, o1, o2], o3, o3), ([t0, t1, t2], t3, t3), ([o0, o1, o2], o3 + 1, 63), ([t0, t1, t2], 0, t3 - 1)] := rfl
theorem raw_3 {o0 o1 o2 o3 t0 t1 t2 t3 : Int} : rawRows [o0, o1, o2, o3] [t0, t1, t2, t3] 3 0 = [([o0, o1, o2], o3 + 1, t3 - 1), ([o0, o1, o2], o3, o3), ([t0, t1, t2], t3, t3)] := rfl
/-- four digits -/
noncomputable def Dig4 (a b c d : Int) : Prop := Dig a ∧ Dig b ∧ Dig c ∧ Dig d
section
variable {P X : Prop} [Decidable P] [Decidable X] {d o d1 d2 d3 o1 o2 o3 : Int}
theorem under {A B C : Prop} [Decidable A] [Decidable B] [Decidable C] (h : ind A + ind B = ind C) : ind (P ∧ A) + ind (P ∧ B) = ind (P ∧ C) := by
  by_cases p : P
  · rw [ind_iff (p := P ∧ A) (q := A) ⟨And.right, fun a => ⟨p, a⟩⟩, ind_iff (p := P ∧ B) (q := B) ⟨And.right, fun a => ⟨p, a⟩⟩, ind_iff (p := P ∧ C) (q := C) ⟨And.right, fun a => ⟨p, a⟩⟩]
    exact h
  · unfold ind
    rw [if_neg (fun y => p y.1), if_neg (fun y => p y.1), if_neg (fun y => p y.1)]
theorem low_step (h : d ≤ 63) : ind (P ∧ o + 1 ≤ d ∧ d ≤ 63) + ind (P ∧ d = o ∧ X) = ind (P ∧ (o < d ∨ (d = o ∧ X))) := by
  refine under ?_
  unfold ind
  rcases Int.lt_trichotomy d o with e | e | e
  · rw [if_neg (fun y => absurd y.1 (by omega)), if_neg (fun y => absurd y.1 (by omega)), if_neg (fun y => y.elim (by omega) fun y => absurd y.1 (by omega))]
  · subst e
    rw [if_neg (fun y => absurd y.1 (by omega))]
    by_cases x : X
    · rw [if_pos ⟨rfl, x⟩, if_pos (.inr ⟨rfl, x⟩)]
    · rw [if_neg (fun y => x y.2), if_neg (fun y => y.elim (fun z => absurd z (Int.lt_irrefl _)) fun z => x z.2)]
  · rw [if_pos ⟨e, h⟩, if_neg (fun y => absurd y.1 (by omega)), if_pos (.inl e)]
theorem up_step (h : 0 ≤ d) : ind (P ∧ 0 ≤ d ∧ d ≤ o - 1) + ind (P ∧ d = o ∧ X) = ind (P ∧ (d < o ∨ (d = o ∧ X))) := by
  refine under ?_
  unfold ind
  rcases Int.lt_trichotomy d o with e | e | e
  · rw [if_pos ⟨h, Int.le_sub_one_of_lt e⟩, if_neg (fun y => absurd y.1 (by omega)), if_pos (.inl e)]
  · subst e
    rw [if_neg (fun y => absurd y.2 (by omega))]
    by_cases x : X
    · rw [if_pos ⟨rfl, x⟩, if_pos (.inr ⟨rfl, x⟩)]
    · rw [if_neg (fun y => x y.2), if_neg (fun y => y.elim (fun z => absurd z (Int.lt_irrefl _)) fun z => x z.2)]
  · rw [if_neg (fun y => absurd y.2 (by omega)), if_neg (fun y => absurd y.1 (by omega)), if_neg (fun y => y.elim (by omega) fun y => absurd y.1 (by omega))]
theorem low1 (h3 : d3 ≤ 63) : ind (P ∧ o3 + 1 ≤ d3 ∧ d3 ≤ 63) + ind (P ∧ o3 ≤ d3 ∧ d3 ≤ o3) = ind (P ∧ o3 ≤ d3) := by
  have := low_step (P := P) (X := True) (d := d3) (o := o3) h3
  rw [ind_iff (p := P ∧ o3 ≤ d3 ∧ d3 ≤ o3) (q := P ∧ d3 = o3 ∧ True) (and_congr_right fun _ => ⟨fun y => ⟨Int.le_antisymm y.2 y.1, trivial⟩, fun y => by omega⟩), this]
  exact ind_iff (and_congr_right fun _ => by rw [and_true]; omega)
theorem up1 (h3 : 0 ≤ d3) : ind (P ∧ 0 ≤ d3 ∧ d3 ≤ o3 - 1) + ind (P ∧ o3 ≤ d3 ∧ d3 ≤ o3) = ind (P ∧ d3 ≤ o3) := by
  have := up_step (P := P) (X := True) (d := d3) (o := o3) h3
  rw [ind_iff (p := P ∧ o3 ≤ d3 ∧ d3 ≤ o3) (q := P ∧ d3 = o3 ∧ True) (and_congr_right fun _ => ⟨fun y => ⟨Int.le_antisymm y.2 y.1, trivial⟩, fun y => by omega⟩), this]
  exact ind_iff (and_congr_right fun _ => by rw [and_true]; omega)
theorem low2 (h2 : 0 ≤ d2 ∧ d2 ≤ 63) (h3 : 0 ≤ d3 ∧ d3 ≤ 63) (k3 : 0 ≤ o3 ∧ o3 ≤ 63) : ind (P ∧ o2 + 1 ≤ d2 ∧ d2 ≤ 63) + (ind (P ∧ d2 = o2 ∧ o3 + 1 ≤ d3 ∧ d3 ≤ 63) + ind (P ∧ d2 = o2 ∧ o3 ≤ d3 ∧ d3 ≤ o3)) = ind (P ∧ o2 * 64 + o3 ≤ d2 * 64 + d3) := by
  have a := low1 (P := P ∧ d2 = o2) (d3 := d3) (o3 := o3) h3.2
  rw [ind_iff and_assoc, ind_iff and_assoc, ind_iff and_assoc] at a
  rw [a, low_step h2.2]
  exact ind_iff (and_congr_right fun _ => by omega)
theorem up2 (h2 : 0 ≤ d2 ∧ d2 ≤ 63) (h3 : 0 ≤ d3 ∧ d3 ≤ 63) (k3 : 0 ≤ o3 ∧ o3 ≤ 63) : ind (P ∧ 0 ≤ d2 ∧ d2 ≤ o2 - 1) + (ind (P ∧ d2 = o2 ∧ 0 ≤ d3 ∧ d3 ≤ o3 - 1) + ind (P ∧ d2 = o2 ∧ o3 ≤ d3 ∧ d3 ≤ o3)) = ind (P ∧ d2 * 64 + d3 ≤ o2 * 64 + o3) := by
  have a := up1 (P := P ∧ d2 = o2) (d3 := d3) (o3 := o3) h3.1
  rw [ind_iff and_assoc, ind_iff and_assoc, ind_iff and_assoc] at a
  rw [a, up_step h2.1]
  exact ind_iff (and_congr_right fun _ => by omega)
theorem low3 (h1 : 0 ≤ d1 ∧ d1 ≤ 63) (h2 : 0 ≤ d2 ∧ d2 ≤ 63) (h3 : 0 ≤ d3 ∧ d3 ≤ 63) (k2 : 0 ≤ o2 ∧ o2 ≤ 63) (k3 : 0 ≤ o3 ∧ o3 ≤ 63) : ind (P ∧ o1 + 1 ≤ d1 ∧ d1 ≤ 63) + (ind (P ∧ d1 = o1 ∧ o2 + 1 ≤ d2 ∧ d2 ≤ 63) + (ind (P ∧ d1 = o1 ∧ d2 = o2 ∧ o3 + 1 ≤ d3 ∧ d3 ≤ 63) + ind (P ∧ d1 = o1 ∧ d2 = o2 ∧ o3 ≤ d3 ∧ d3 ≤ o3))) = ind (P ∧ o1 * 4096 + o2 * 64 + o3 ≤ d1 * 4096 + d2 * 64 + d3) := by
  have a := low2 (P := P ∧ d1 = o1) (o2 := o2) h2 h3 k3
  rw [ind_iff and_assoc, ind_iff and_assoc, ind_iff and_assoc, ind_iff and_assoc] at a
  rw [a, low_step h1.2]
  exact ind_iff (and_congr_right fun _ => by omega)
theorem up3 (h1 : 0 ≤ d1 ∧ d1 ≤ 63) (h2 : 0 ≤ d2 ∧ d2 ≤ 63) (h3 : 0 ≤ d3 ∧ d3 ≤ 63) (k2 : 0 ≤ o2 ∧ o2 ≤ 63) (k3 : 0 ≤ o3 ∧ o3 ≤ 63) : ind (P ∧ 0 ≤ d1 ∧ d1 ≤ o1 - 1) + (ind (P ∧ d1 = o1 ∧ 0 ≤ d2 ∧ d2 ≤ o2 - 1) + (ind (P ∧ d1 = o1 ∧ d2 = o2 ∧ 0 ≤ d3 ∧ d3 ≤ o3 - 1) + ind (P ∧ d1 = o1 ∧ d2 = o2 ∧ o3 ≤ d3 ∧ d3 ≤ o3))) = ind (P ∧ d1 * 4096 + d2 * 64 + d3 ≤ o1 * 4096 + o2 * 64 + o3) := by
  have a := up2 (P := P ∧ d1 = o1) (o2 := o2) h2 h3 k3
  rw [ind_iff and_assoc, ind_iff and_assoc, ind_iff and_assoc, ind_iff and_assoc] at a
  rw [a, up_step h1.1]
  exact ind_iff (and_congr_right fun _ => by omega)
/-- between, the lowest, the highest -/
theorem three {P : Prop} [Decidable P] {m d o t V W : Int} (hot : o < t) : ind (P ∧ o + 1 ≤ d ∧ d ≤ t - 1) + (ind (P ∧ d = o ∧ V ≤ m) + ind (P ∧ d = t ∧ m ≤ W)) = ind (P ∧ ((o < d ∨ (d = o ∧ V ≤ m)) ∧ (d < t ∨ (d = t ∧ m ≤ W)))) := by
  rw [under (C := (d = o ∧ V ≤ m) ∨ (d = t ∧ m ≤ W))]
  · refine under ?_
    unfold ind
    rcases Int.lt_trichotomy d o with e | e | e
    · rw [if_neg (by omega), if_neg (by omega), if_neg (by omega)]
    · rw [if_neg (by omega)]
      by_cases x : V ≤ m
      · rw [if_pos (.inl ⟨e, x⟩), if_pos ⟨.inr ⟨e, x⟩, .inl (by omega)⟩]
      · rw [if_neg (by omega), if_neg (by omega)]
    · rcases Int.lt_trichotomy d t with f | f | f
      · rw [if_pos (by omega), if_neg (by omega), if_pos ⟨.inl e, .inl f⟩]
      · rw [if_neg (by omega)]
        by_cases x : m ≤ W
        · rw [if_pos (.inr ⟨f, x⟩), if_pos ⟨.inl e, .inr ⟨f, x⟩⟩]
        · rw [if_neg (by omega), if_neg (by omega)]
      · rw [if_neg (by omega), if_neg (by omega), if_neg (by omega)]
  · unfold ind
    by_cases x : d = o
    · rw [if_neg (show ¬ (d = t ∧ m ≤ W) by omega)]
      by_cases y : V ≤ m
      · rw [if_pos ⟨x, y⟩, if_pos (.inl ⟨x, y⟩)]
      · rw [if_neg (fun z => y z.2), if_neg (by omega)]
    · rw [if_neg (fun z => x z.1), Nat.zero_add]
      exact ind_iff ⟨.inr, fun z => z.resolve_left fun q => x q.1⟩
end
theorem count_3 {x y z o t d0 d1 d2 d3 : Int} (hd : Dig4 d0 d1 d2 d3) (hx : Dig4 x y z o) (ht : Dig t) (h : o < t) : (rawRows [x, y, z, o] [x, y, z, t] 3 0).countP (rowFits [d0, d1, d2, d3]) = ind (valOf x y z o ≤ valOf d0 d1 d2 d3 ∧ valOf d0 d1 d2 d3 ≤ valOf x y z t) := by
  obtain ⟨⟨a1, a2⟩, ⟨a3, a4⟩, ⟨a5, a6⟩, ⟨a7, a8⟩⟩ := hd
  obtain ⟨⟨b1, b2⟩, ⟨b3, b4⟩, ⟨b5, b6⟩, ⟨b7, b8⟩⟩ := hx
  obtain ⟨c1, c2⟩ := ht
  rw [raw_3, cons_count, cons_count, cons_count, List.countP_nil, ind_iff fit3, ind_iff fit3, ind_iff fit3]
  have k := three (P := d0 = x ∧ d1 = y ∧ d2 = z) (m := 0) (d := d3) (o := o) (t := t) (V := 0) (W := 0) h
  simp only [and_assoc] at k
  rw [Nat.add_zero, ind_iff (p := d0 = x ∧ d1 = y ∧ d2 = z ∧ o ≤ d3 ∧ d3 ≤ o) (q := d0 = x ∧ d1 = y ∧ d2 = z ∧ d3 = o ∧ (0 : Int) ≤ 0) (by omega), ind_iff (p := d0 = x ∧ d1 = y ∧ d2 = z ∧ t ≤ d3 ∧ d3 ≤ t) (q := d0 = x ∧ d1 = y ∧ d2 = z ∧ d3 = t ∧ (0 : Int) ≤ 0) (by omega), k]
  exact ind_iff (by unfold valOf; omega)
theorem count_2 {x y o2 o3 t2 t3 d0 d1 d2 d3 : Int} (hd : Dig4 d0 d1 d2 d3) (hx : Dig4 x y o2 o3) (ht : Dig t2 ∧ Dig t3) (h : o2 < t2) : (rawRows [x, y, o2, o3] [x, y, t2, t3] 2 1).countP (rowFits [d0, d1, d2, d3]) = ind (valOf x y o2 o3 ≤ valOf d0 d1 d2 d3 ∧ valOf d0 d1 d2 d3 ≤ valOf x y t2 t3) := by
  obtain ⟨⟨a1, a2⟩, ⟨a3, a4⟩, ⟨a5, a6⟩, ⟨a7, a8⟩⟩ := hd
  obtain ⟨⟨b1, b2⟩, ⟨b3, b4⟩, ⟨b5, b6⟩, ⟨b7, b8⟩⟩ := hx
  obtain ⟨⟨c1, c2⟩, ⟨c3, c4⟩⟩ := ht
  rw [raw_2, cons_count, cons_count, cons_count, cons_count, cons_count, List.countP_nil, ind_iff fit2, ind_iff fit3, ind_iff fit3, ind_iff fit3, ind_iff fit3]
  have l := low1 (P := d0 = x ∧ d1 = y ∧ d2 = o2) (d3 := d3) (o3 := o3) (by omega)
  have u := up1 (P := d0 = x ∧ d1 = y ∧ d2 = t2) (d3 := d3) (o3 := t3) (by omega)
  have k := three (P := d0 = x ∧ d1 = y) (m := d3) (d := d2) (o := o2) (t := t2) (V := o3) (W := t3) h
  simp only [and_assoc] at l u k
  rw [show ind (valOf x y o2 o3 ≤ valOf d0 d1 d2 d3 ∧ valOf d0 d1 d2 d3 ≤ valOf x y t2 t3) = _ from (ind_iff (by unfold valOf; omega)).trans k.symm]
  clear k
  omega
theorem count_1 {x o1 o2 o3 t1 t2 t3 d0 d1 d2 d3 : Int} (hd : Dig4 d0 d1 d2 d3) (hx : Dig4 x o1 o2 o3) (ht : Dig t1 ∧ Dig t2 ∧ Dig t3) (h : o1 < t1) : (rawRows [x, o1, o2, o3] [x, t1, t2, t3] 1 2).countP (rowFits [d0, d1, d2, d3]) = ind (valOf x o1 o2 o3 ≤ valOf d0 d1 d2 d3 ∧ valOf d0 d1 d2 d3 ≤ valOf x t1 t2 t3) := by
  obtain ⟨⟨a1, a2⟩, ⟨a3, a4⟩, ⟨a5, a6⟩, ⟨a7, a8⟩⟩ := hd
  obtain ⟨⟨b1, b2⟩, ⟨b3, b4⟩, ⟨b5, b6⟩, ⟨b7, b8⟩⟩ := hx
  obtain ⟨⟨c1, c2⟩, ⟨c3, c4⟩, ⟨c5, c6⟩⟩ := ht
  rw [raw_1, cons_count, cons_count, cons_count, cons_count, cons_count, cons_count, cons_count, List.countP_nil, ind_iff fit1, ind_iff fit3, ind_iff fit3, ind_iff fit2, ind_iff fit2, ind_iff fit3, ind_iff fit3]
  have l := low2 (P := d0 = x ∧ d1 = o1) (d2 := d2) (d3 := d3) (o2 := o2) (o3 := o3) (by omega) (by omega) (by omega)
  have u := up2 (P := d0 = x ∧ d1 = t1) (d2 := d2) (d3 := d3) (o2 := t2) (o3 := t3) (by omega) (by omega) (by omega)
  have k := three (P := d0 = x) (m := d2 * 64 + d3) (d := d1) (o := o1) (t := t1) (V := o2 * 64 + o3) (W := t2 * 64 + t3) h
  simp only [and_assoc] at l u k
  rw [show ind (valOf x o1 o2 o3 ≤ valOf d0 d1 d2 d3 ∧ valOf d0 d1 d2 d3 ≤ valOf x t1 t2 t3) = _ from (ind_iff (by unfold valOf; omega)).trans k.symm]
  clear k
  omega
theorem count_0 {o0 o1 o2 o3 t0 t1 t2 t3 d0 d1 d2 d3 : Int} (hd : Dig4 d0 d1 d2 d3) (hx : Dig4 o0 o1 o2 o3) (ht : Dig4 t0 t1 t2 t3) (h : o0 < t0) : (rawRows [o0, o1, o2, o3] [t0, t1, t2, t3] 0 3).countP (rowFits [d0, d1, d2, d3]) = ind (valOf o0 o1 o2 o3 ≤ valOf d0 d1 d2 d3 ∧ valOf d0 d1 d2 d3 ≤ valOf t0 t1 t2 t3) := by
  obtain ⟨⟨a1, a2⟩, ⟨a3, a4⟩, ⟨a5, a6⟩, ⟨a7, a8⟩⟩ := hd
  obtain ⟨⟨b1, b2⟩, ⟨b3, b4⟩, ⟨b5, b6⟩, ⟨b7, b8⟩⟩ := hx
  obtain ⟨⟨c1, c2⟩, ⟨c3, c4⟩, ⟨c5, c6⟩, ⟨c7, c8⟩⟩ := ht
  rw [raw_0, cons_count, cons_count, cons_count, cons_count, cons_count, cons_count, cons_count, cons_count, cons_count, List.countP_nil, ind_iff fit0, ind_iff fit3, ind_iff fit3, ind_iff fit1, ind_iff fit1, ind_iff fit2, ind_iff fit2, ind_iff fit3, ind_iff fit3]
  have l := low3 (P := d0 = o0) (d1 := d1) (d2 := d2) (d3 := d3) (o1 := o1) (o2 := o2) (o3 := o3) (by omega) (by omega) (by omega) (by omega) (by omega)
  have u := up3 (P := d0 = t0) (d1 := d1) (d2 := d2) (d3 := d3) (o1 := t1) (o2 := t2) (o3 := t3) (by omega) (by omega) (by omega) (by omega) (by omega)
  have k := three (P := True) (m := d1 * 4096 + d2 * 64 + d3) (d := d0) (o := o0) (t := t0) (V := o1 * 4096 + o2 * 64 + o3) (W := t1 * 4096 + t2 * 64 + t3) h
  simp only [true_and] at k
  rw [show ind (valOf o0 o1 o2 o3 ≤ valOf d0 d1 d2 d3 ∧ valOf d0 d1 d2 d3 ≤ valOf t0 t1 t2 t3) = _ from (ind_iff (by unfold valOf; omega)).trans k.symm]
  clear k
  omega
end Mine
end
section
open PySem PySem.W PyProof.Rows PySem.Calls PySem.Spec
namespace Mine
theorem count_all {o0 o1 o2 o3 t0 t1 t2 t3 d0 d1 d2 d3 : Int} (hd : Dig4 d0 d1 d2 d3) (hx : Dig4 o0 o1 o2 o3) (ht : Dig4 t0 t1 t2 t3) (h : valOf o0 o1 o2 o3 ≤ valOf t0 t1 t2 t3) :
    ((rowsOf [o0, o1, o2, o3] [t0, t1, t2, t3]).filter (rowFits [d0, d1, d2, d3])).length = ind (valOf o0 o1 o2 o3 ≤ valOf d0 d1 d2 d3 ∧ valOf d0 d1 d2 d3 ≤ valOf t0 t1 t2 t3) := by
  have hd' := hd
  have hx' := hx
  have ht' := ht
  obtain ⟨⟨a1, a2⟩, ⟨a3, a4⟩, ⟨a5, a6⟩, ⟨a7, a8⟩⟩ := hd'
  obtain ⟨⟨b1, b2⟩, ⟨b3, b4⟩, ⟨b5, b6⟩, ⟨b7, b8⟩⟩ := hx'
  obtain ⟨⟨c1, c2⟩, ⟨c3, c4⟩, ⟨c5, c6⟩, ⟨c7, c8⟩⟩ := ht'
  have hv := h
  unfold valOf at hv
  unfold rowsOf
  by_cases e0 : o0 = t0
  · subst e0
    by_cases e1 : o1 = t1
    · subst e1
      by_cases e2 : o2 = t2
      · subst e2
        by_cases e3 : o3 = t3
        · subst e3
          rw [same_4, if_pos rfl]
          show (List.filter (rowFits [d0, d1, d2, d3]) [([o0, o1, o2], o3, o3)]).length = _
          rw [← List.countP_eq_length_filter, cons_count, List.countP_nil, ind_iff fit3]
          unfold ind valOf
          repeat (first | omega | split)
        · rw [same_3 e3, if_neg (by decide), fits_le]
          exact count_3 hd hx ⟨c7, c8⟩ (by omega)
      · rw [same_2 e2, if_neg (by decide), fits_le]
        exact count_2 hd hx ⟨⟨c5, c6⟩, ⟨c7, c8⟩⟩ (by omega)
    · rw [same_1 e1, if_neg (by decide), fits_le]
      exact count_1 hd hx ⟨⟨c3, c4⟩, ⟨c5, c6⟩, ⟨c7, c8⟩⟩ (by omega)
  · rw [same_0 e0, if_neg (by decide), fits_le]
    exact count_0 hd hx ht (by omega)
end Mine
end
section
open PySem PySem.W PyProof.Rows PySem.Calls PySem.Spec
namespace Mine
theorem sg_inj : ∀ {a b : Int}, Dig a → Dig b → sg a = sg b → a = b := by
  have key : ∀ a b : Fin 64, AL.getD a.val 0 = AL.getD b.val 0 → a = b := by decide +kernel
  intro a b ha hb e
  obtain ⟨m, rfl⟩ := Int.eq_ofNat_of_zero_le ha.1
  obtain ⟨k, rfl⟩ := Int.eq_ofNat_of_zero_le hb.1
  have h1 : m < 64 := by have := ha.2; omega
  have h2 : k < 64 := by have := hb.2; omega
  have := key ⟨m, h1⟩ ⟨k, h2⟩ e
  have : m = k := congrArg Fin.val this
  rw [this]
theorem sg_al {a : Int} (h : Dig a) : sg a ∈ AL := by
  obtain ⟨m, rfl⟩ := Int.eq_ofNat_of_zero_le h.1
  have h1 : m < 64 := by have := h.2; omega
  exact (by decide +kernel : ∀ a : Fin 64, AL.getD a.val 0 ∈ AL) ⟨m, h1⟩
end Mine
end
section
open PySem PySem.W PyProof.Rows PySem.Calls PySem.Spec
namespace Mine
noncomputable abbrev brOf (a b : Int) : List Nat := (AL.drop a.toNat).take (b.toNat + 1 - a.toNat)
theorem al_at {k : Int} (h : Dig k) : AL[k.toNat]? = some (sg k) := by
  have hl : k.toNat < AL.length := by rw [al_len]; have := h.1; have := h.2; omega
  simp [sg, List.getD, hl]
theorem mem_br {a b x : Int} (ha : Dig a) (hb : Dig b) (hx : Dig x) (hab : a ≤ b) : sg x ∈ brOf a b ↔ a ≤ x ∧ x ≤ b := by
  have ha' := ha; have hb' := hb; have hx' := hx
  obtain ⟨a1, a2⟩ := ha'
  obtain ⟨b1, b2⟩ := hb'
  obtain ⟨x1, x2⟩ := hx'
  constructor
  · intro h
    obtain ⟨i, hi⟩ := List.mem_iff_getElem?.mp h
    rw [List.getElem?_take] at hi
    split at hi
    · rename_i hlt
      rw [List.getElem?_drop] at hi
      have hi2 : a.toNat + i < 64 := by
        obtain ⟨h, _⟩ := List.getElem?_eq_some_iff.mp hi
        rw [al_len] at h
        exact h
      have hd : Dig ((a.toNat + i : Nat) : Int) := ⟨by omega, by omega⟩
      have e := al_at hd
      rw [Int.toNat_natCast, hi] at e
      have := sg_inj hx hd (Option.some.inj e)
      omega
    · cases hi
  · rintro ⟨h1, h2⟩
    refine List.mem_iff_getElem?.mpr ⟨x.toNat - a.toNat, ?_⟩
    rw [List.getElem?_take, if_pos (by omega), List.getElem?_drop, show a.toNat + (x.toNat - a.toNat) = x.toNat by omega]
    exact al_at hx
end Mine
end
section
open PySem PySem.W PyProof.Rows PySem.Calls PySem.Spec
namespace Mine
theorem map_sg_inj : ∀ {xs ys : List Int}, (∀ x ∈ xs, Dig x) → (∀ y ∈ ys, Dig y) → xs.map sg = ys.map sg → xs = ys
  | [], [], _, _, _ => rfl
  | [], y :: ys, _, _, e => by simp at e
  | x :: xs, [], _, _, e => by simp at e
  | x :: xs, y :: ys, hx, hy, e => by
    simp only [List.map_cons, List.cons.injEq] at e
    rw [sg_inj (hx x (.head _)) (hy y (.head _)) e.1, map_sg_inj (fun x h => hx x (.tail _ h)) (fun y h => hy y (.tail _ h)) e.2]
theorem fit_same {pre d : List Int} {a b : Int} (hp : ∀ x ∈ pre, Dig x) (hd : ∀ x ∈ d, Dig x) (ha : Dig a) (hb : Dig b) (hab : a ≤ b) (hl : pre.length < d.length) : fitsOf (pre.map sg) (brOf a b) (d.map sg) = rowFits d (pre, a, b) := by
  unfold fitsOf rowFits
  have e1 : ((d.map sg).take (pre.map sg).length == pre.map sg) = (d.take pre.length == pre) := by
    rw [List.length_map, ← List.map_take, Bool.eq_iff_iff, beq_iff_eq, beq_iff_eq]
    exact ⟨map_sg_inj (fun x h => hd x (List.mem_of_mem_take h)) hp, fun e => by rw [e]⟩
  have e2 : (d.map sg).getD (pre.map sg).length 0 = sg (d.getD pre.length 0) := by
    rw [List.length_map]
    simp [List.getD, hl]
  have hx : Dig (d.getD pre.length 0) := by
    have : d.getD pre.length 0 = d[pre.length] := by simp [List.getD, hl]
    rw [this]
    exact hd _ (List.getElem_mem _)
  rw [e1, e2]
  congr 1
  exact decide_eq_decide.mpr (mem_br ha hb hx hab)
end Mine
end
section
open PySem PySem.W PyProof.Rows PySem.Calls PySem.Spec
namespace Mine
theorem rds_ints {X : XS} {h : Heap} : ∀ {vs : List Value} {ks : List Int}, IntsAre vs ks → Rds X h vs (ks.map .int)
  | _, _, .nil => .nil
  | _, _, .cons k t r => .cons (.int k t) (rds_ints r)
section
variable {w : World} {n : Nat} {env : Env} {ρ : Rho}
theorem call_sorted2 {a b : Int} : CALL w n (.builtin "sorted") [.list [.int a, .int b]] (.list [.int (min a b), .int (max a b)]) := by
  refine ⟨?_⟩
  rintro X A s Q E vs g S (_ | ⟨r, _ | _⟩) q
  cases r
  rename_i l ws hL nx R
  have hI : IntsAre ws [a, b] := ints_of (ks := [a, b]) R
  refine sorted_ints hL hI (by rw [R.length]; show 2 < 64; decide) fun out ns' a1 a2 a3 => ?_
  have en : ns' = [min a b, max a b] := by
    refine List.Perm.eq_of_pairwise (le := (· ≤ ·)) (fun _ _ _ _ x y => Int.le_antisymm x y) a3 ?_ (a2.trans ?_)
    · simp only [List.pairwise_cons, List.mem_singleton, forall_eq, List.not_mem_nil, false_imp_iff, implies_true, List.Pairwise.nil, and_true]
      omega
    · by_cases h : a ≤ b
      · rw [Int.min_eq_left h, Int.max_eq_right h]
      · rw [Int.min_eq_right (by omega), Int.max_eq_left (by omega)]
        exact List.Perm.swap _ _ _
  subst en
  obtain ⟨e, he⟩ := sortedAll_at s.heap ws out
  have G : Go s { s with heap := sortedAll s.heap ws out } := ⟨rfl, rfl, rfl, .of_keep fun _ _ => sortedAll_old⟩
  refine q _ _ G (.list (vs := out.toList) ⟨_, he, rfl, e, by simp⟩ (fun y => ?_) (rds_ints a1))
  obtain ⟨_, o, e⟩ := S.low _ y
  rw [get_above (Nat.le_succ _)] at e
  cases e
open PySem.SeqAt
theorem isList_same {h : Heap} {l : Addr} {a b : Array Value} (x : h.IsList l a) (y : h.IsList l b) : a = b := by
  obtain ⟨o, e1, _, k1, d1⟩ := x
  obtain ⟨o', e2, _, k2, d2⟩ := y
  rw [e1] at e2
  cases e2
  rw [d1] at d2
  injection d2
/-- the same rows of ints, twice -/
theorem co_ne_rows {L : List (List Int)} : CO w (n + 1) .NotEq (.list (L.map fun r => .list (r.map .int))) (.list (L.map fun r => .list (r.map .int))) false := by
  refine ⟨fun X A s Q E u v g S ru rv q => ?_⟩
  cases ru
  rename_i l vs hL nx R
  cases rv
  rename_i b us hB ny R'
  have h1 := R.length
  have h2 := R'.length
  have key := RcNeAt.lists (A := A) (s := s) (e := fun _ => true) hL hB (by simp; omega) g.unit fun j j1 j2 => ?_
  · have e : (!(List.range vs.toArray.size).all fun _ => true) = false := by simp
    rw [e] at key
    exact key _ _ _ _ (q _ (Go.refl _))
  · have hj1 : j < vs.length := by simpa using j1
    have hj2 : j < us.length := by simpa using j2
    have hj : j < L.length := by rw [h1, List.length_map] at hj1; exact hj1
    obtain ⟨u, e1, r1⟩ := R.get j (.list ((L[j]).map .int)) (by simp [hj])
    obtain ⟨v, e2, r2⟩ := R'.get j (.list ((L[j]).map .int)) (by simp [hj])
    have f1 : vs.toArray[j] = u := by
      have : vs[j]? = some vs[j] := by simp
      rw [this] at e1
      simpa using Option.some.inj e1
    have f2 : us.toArray[j] = v := by
      have : us[j]? = some us[j] := by simp
      rw [this] at e2
      simpa using Option.some.inj e2
    rw [f1, f2]
    obtain ⟨l1, l2, rfl, rfl, k, _⟩ := eqat_ints (A := A.in1) rfl g.in1.unit r1 r2
    by_cases hl : l1 = l2
    · subst hl
      exact EqAt.same _
    · have := EqAt.of_refs hl k
      rwa [beq_self_eq_true] at this
theorem et_between {e1 e2 e3 : PySem.Expr} {a b c : Int} {pos : Pos} (h1 : EV w n env ρ e1 (.int a)) (h2 : EV w n env ρ e2 (.int b)) (h3 : EV w n env ρ e3 (.int c)) (hm : lastMarks [.LtE, .LtE] [e2, e3] = false := by rfl) : ET w n env ρ (.Compare e1 [.LtE, .LtE] [e2, e3] pos) (decide (a ≤ b) && decide (b ≤ c)) := by
  refine ⟨fun X A s Q E g I q => ?_⟩
  refine isTrue_chain (h1.run X A s _ _ g I fun u s₁ g₁ r₁ => ?_) hm
  have I₁ := I.mono g₁
  refine test_link (h2.run X A s₁ _ _ g I₁ fun v s₂ g₂ r₂ => ?_)
  have I₂ := I₁.mono g₂
  refine (co_le (n := n)).run X A s₂ _ _ u v g I₂.sta (g₂.rd I₁.sta r₁) r₂ fun s₃ g₃ => wpAny_truthy_bool ?_
  have I₃ := I₂.mono g₃
  have G := (g₁.trans g₂).trans g₃
  cases hd : decide (a ≤ b) with
  | false =>
    rw [hd] at q
    rw [if_neg (by simp)]
    exact q _ G
  | true =>
    rw [hd] at q
    rw [if_pos rfl]
    refine test_last (h3.run X A s₃ _ _ g I₃ fun z s₄ g₄ r₄ => ?_)
    have I₄ := I₃.mono g₄
    exact (co_le (n := n)).run X A s₄ _ _ v z g I₄.sta (g₄.rd I₃.sta (g₃.rd I₂.sta r₂)) r₄ fun s₅ g₅ => wpAny_truthy_bool (q _ ((G.trans g₄).trans g₅))
end
end Mine
end
section
open PySem PySem.W PyProof.Rows PySem.Calls PySem.Spec
namespace Mine
theorem app_inj {x : Nat} : ∀ {A A' B B' : List Nat}, x ∉ A → x ∉ A' → A ++ x :: B = A' ++ x :: B' → A = A' ∧ B = B'
  | [], [], B, B', _, _, e => by simp at e; exact ⟨rfl, e⟩
  | [], y :: r, B, B', _, h, e => by
    simp only [List.nil_append, List.cons_append, List.cons.injEq] at e
    exact absurd (by rw [e.1]; exact .head _) h
  | y :: r, [], B, B', h, _, e => by
    simp only [List.nil_append, List.cons_append, List.cons.injEq] at e
    exact absurd (by rw [e.1]; exact .head _) h
  | y :: r, z :: t, B, B', h, h', e => by
    simp only [List.cons_append, List.cons.injEq] at e
    obtain ⟨a, b⟩ := app_inj (fun m => h (.tail _ m)) (fun m => h' (.tail _ m)) e.2
    exact ⟨by rw [e.1, a], b⟩
theorem n91 : 91 ∉ AL := by decide
theorem n92 : 92 ∉ AL := by decide
theorem n93 : 93 ∉ AL := by decide
theorem esc_inj : ∀ {xs ys : List Nat}, (∀ c ∈ xs, c ∈ AL) → (∀ c ∈ ys, c ∈ AL) → xs.flatMap escOf = ys.flatMap escOf → xs = ys
  | [], [], _, _, _ => rfl
  | [], y :: r, _, hy, e => by
    rcases esc_al (hy y (.head _)) with ⟨_, f⟩ | ⟨_, f⟩ <;> rw [List.flatMap_cons, f] at e <;> simp at e
  | x :: r, [], hx, _, e => by
    rcases esc_al (hx x (.head _)) with ⟨_, f⟩ | ⟨_, f⟩ <;> rw [List.flatMap_cons, f] at e <;> simp at e
  | x :: xs, y :: ys, hx, hy, e => by
    have ih := fun e => esc_inj (fun c h => hx c (.tail _ h)) (fun c h => hy c (.tail _ h)) e
    rw [List.flatMap_cons, List.flatMap_cons] at e
    rcases esc_al (hx x (.head _)) with ⟨x1, f⟩ | ⟨x1, f⟩ <;> rcases esc_al (hy y (.head _)) with ⟨y1, f'⟩ | ⟨y1, f'⟩ <;> rw [f, f'] at e <;> simp only [List.cons_append, List.nil_append, List.cons.injEq] at e
    · rw [x1, y1, ih e.2.2]
    · exact absurd (by rw [e.1]; exact hy y (.head _)) n92
    · exact absurd (by rw [← e.1]; exact hx x (.head _)) n92
    · rw [e.1, ih e.2]
theorem esc_91 : ∀ {xs : List Nat}, (∀ c ∈ xs, c ∈ AL) → 91 ∉ xs.flatMap escOf
  | [], _, h => by simp at h
  | x :: xs, hx, h => by
    rw [List.flatMap_cons, List.mem_append] at h
    rcases h with h | h
    · rcases esc_al (hx x (.head _)) with ⟨_, f⟩ | ⟨_, f⟩ <;> rw [f] at h
      · revert h; decide
      · rw [List.mem_singleton] at h
        exact n91 (by rw [h]; exact hx x (.head _))
    · exact esc_91 (fun c h => hx c (.tail _ h)) h
theorem mk_inj {a b : List Nat} (h : mk a = mk b) : a = b := by
  have := congrArg (fun s : Str => s.cps.toList) h
  simpa using this
theorem made_inj {pre pre' br br' : List Nat} {m m' : Nat} (hp : ∀ c ∈ pre, c ∈ AL) (hp' : ∀ c ∈ pre', c ∈ AL) (hb : ∀ c ∈ br, c ∈ AL) (hb' : ∀ c ∈ br', c ∈ AL) (e : madeOf (pieceS pre br m) = madeOf (pieceS pre' br' m')) : pre = pre' ∧ br = br' := by
  rw [made_is, made_is] at e
  have e1 := List.append_cancel_left (List.append_cancel_right (mk_inj e) |> fun h => (by simpa only [List.append_assoc] using h))
  unfold textOf' at e1
  simp only [List.append_assoc, List.cons_append, List.nil_append] at e1
  obtain ⟨a, b⟩ := app_inj (esc_91 hp) (esc_91 hp') e1
  obtain ⟨b1, _⟩ := app_inj (fun h => n93 (hb _ h)) (fun h => n93 (hb' _ h)) b
  exact ⟨esc_inj hp hp' a, b1⟩
open Classical in
/-- a made text takes a row -/
noncomputable def fitF (row d : D) : Bool := decide (∃ pre br m R, row = .str (mk R) ∧ d = .str (madeOf (pieceS pre br m)) ∧ (∀ c ∈ pre, c ∈ AL) ∧ (∀ c ∈ br, c ∈ AL) ∧ fitsOf pre br R = true)
open Classical in
theorem fitF_eq {pre br R : List Nat} {m : Nat} (hp : ∀ c ∈ pre, c ∈ AL) (hb : ∀ c ∈ br, c ∈ AL) : fitF (.str (mk R)) (.str (madeOf (pieceS pre br m))) = fitsOf pre br R := by
  unfold fitF
  rw [Bool.eq_iff_iff, decide_eq_true_iff]
  constructor
  · rintro ⟨pre', br', m', R', e1, e2, hp', hb', h⟩
    have e1' := mk_inj (D.str.inj e1)
    obtain ⟨rfl, rfl⟩ := made_inj hp hp' hb hb' (D.str.inj e2)
    rw [e1']; exact h
  · exact fun h => ⟨pre, br, m, R, rfl, rfl, hp, hb, h⟩
noncomputable def digs (x : Int) : List Int := [x / 262144 % 64, x / 4096 % 64, x / 64 % 64, x % 64]
theorem digs_dig {x : Int} : ∀ k ∈ digs x, Dig k := by
  intro k hk
  unfold digs at hk
  simp only [List.mem_cons, List.not_mem_nil, or_false] at hk
  rcases hk with rfl | rfl | rfl | rfl <;> exact ⟨by omega, by omega⟩
theorem digs_dig4 {x : Int} : Dig4 (x / 262144 % 64) (x / 4096 % 64) (x / 64 % 64) (x % 64) := ⟨⟨by omega, by omega⟩, ⟨by omega, by omega⟩, ⟨by omega, by omega⟩, ⟨by omega, by omega⟩⟩
theorem val_digs {x : Int} (h0 : 0 ≤ x) (h1 : x < 16777216) : valOf (x / 262144 % 64) (x / 4096 % 64) (x / 64 % 64) (x % 64) = x := by
  unfold valOf
  omega
theorem Vv_digs {x : Int} (h0 : 0 ≤ x) (h1 : x < 16777216) : Vv (fun j => (digs x).getD j 0) 3 = x := by
  show (((x / 262144 % 64) * 64 + x / 4096 % 64) * 64 + x / 64 % 64) * 64 + x % 64 = x
  omega
theorem count_digs {lo hi x : Int} (h0 : 0 ≤ lo) (h1 : lo ≤ hi) (h2 : hi < 16777216) (hx : 0 ≤ x) (hx' : x < 16777216) : ((rowsOf (digs lo) (digs hi)).filter (rowFits (digs x))).length = ind (lo ≤ x ∧ x ≤ hi) := by
  have := count_all (digs_dig4 (x := x)) (digs_dig4 (x := lo)) (digs_dig4 (x := hi)) (by rw [val_digs h0 (by omega), val_digs (by omega) h2]; exact h1)
  rw [val_digs h0 (by omega), val_digs (by omega) h2, val_digs hx hx'] at this
  exact this
/-- what holds of every row -/
structure RowOk (r : List Int × Int × Int) : Prop where
  pre : ∀ k ∈ r.1, Dig k
  len : r.1.length ≤ 3
  lo : Dig r.2.1
  hi : Dig r.2.2
  le : r.2.1 ≤ r.2.2
theorem getD_dig {l : List Int} (h : ∀ k ∈ l, Dig k) (i : Nat) : Dig (l.getD i 0) := by
  rw [List.getD_eq_getElem?_getD]
  cases e : l[i]? with
  | none => exact ⟨by decide, by decide⟩
  | some v => exact h v (List.mem_of_getElem? e)
theorem rows_are {one two : List Int} (h1 : ∀ k ∈ one, Dig k) (h2 : ∀ k ∈ two, Dig k) : ∀ r ∈ rowsOf one two, RowOk r := by
  intro r hr
  have hs := len_same one two
  unfold rowsOf at hr
  have tk : ∀ {l : List Int} (i : Nat), (∀ k ∈ l, Dig k) → ∀ k ∈ l.take i, Dig k := fun i h k hk => h k (List.mem_of_mem_take hk)
  have ln : ∀ {l : List Int} {i : Nat}, i ≤ 3 → (l.take i).length ≤ 3 := fun {l i} h => Nat.le_trans (List.length_take_le _ _) h
  split at hr
  · rw [List.mem_singleton.mp hr]
    exact ⟨tk 3 h1, ln (by decide), getD_dig h1 3, getD_dig h1 3, Int.le_refl _⟩
  · rw [List.mem_filter] at hr
    obtain ⟨hm, hle⟩ := hr
    have hle' : r.2.1 ≤ r.2.2 := of_decide_eq_true hle
    clear hle
    unfold rawRows at hm
    have gd1 := fun i => getD_dig h1 i
    have gd2 := fun i => getD_dig h2 i
    rcases List.mem_append.mp hm with hm | hm
    · simp only [List.mem_cons, List.not_mem_nil, or_false] at hm
      rcases hm with rfl | rfl | rfl
      · have a := gd1 (sameOf one two)
        have b := gd2 (sameOf one two)
        obtain ⟨a1, a2⟩ := a
        obtain ⟨b1, b2⟩ := b
        dsimp only at hle'
        exact ⟨tk _ h1, ln (by omega), ⟨by dsimp only; omega, by dsimp only; omega⟩, ⟨by dsimp only; omega, by dsimp only; omega⟩, hle'⟩
      · exact ⟨tk 3 h1, ln (by decide), gd1 3, gd1 3, Int.le_refl _⟩
      · exact ⟨tk 3 h2, ln (by decide), gd2 3, gd2 3, Int.le_refl _⟩
    · obtain ⟨j, hj, hm⟩ := List.mem_flatMap.mp hm
      have hj' := List.mem_range.mp hj
      simp only [List.mem_cons, List.not_mem_nil, or_false] at hm
      rcases hm with rfl | rfl
      · obtain ⟨a1, a2⟩ := gd1 (sameOf one two + 1 + j)
        dsimp only at hle'
        exact ⟨tk _ h1, ln (by omega), ⟨by dsimp only; omega, by dsimp only; omega⟩, ⟨by dsimp only; omega, by dsimp only; omega⟩, hle'⟩
      · obtain ⟨a1, a2⟩ := gd2 (sameOf one two + 1 + j)
        dsimp only at hle'
        exact ⟨tk _ h2, ln (by omega), ⟨by dsimp only; omega, by dsimp only; omega⟩, ⟨by dsimp only; omega, by dsimp only; omega⟩, hle'⟩
noncomputable def madeD (r : List Int × Int × Int) : D := .str (madeOf (pieceS (r.1.map sg) (brOf r.2.1 r.2.2) (3 - r.1.length)))
theorem map_sg_al {l : List Int} (h : ∀ k ∈ l, Dig k) : ∀ c ∈ l.map sg, c ∈ AL := by
  intro c hc
  obtain ⟨k, hk, rfl⟩ := List.mem_map.mp hc
  exact sg_al (h k hk)
theorem br_al {a b : Int} : ∀ c ∈ brOf a b, c ∈ AL := fun _ h => List.mem_of_mem_drop (List.mem_of_mem_take h)
theorem br_len {a b : Int} : (brOf a b).length ≤ 64 := by
  unfold brOf
  rw [List.length_take, List.length_drop, al_len]
  omega
theorem br_ne {a b : Int} (ha : Dig a) (hb : Dig b) (h : a ≤ b) : brOf a b ≠ [] := by
  intro e
  have := (mem_br ha hb ha h).mpr ⟨Int.le_refl _, h⟩
  rw [e] at this
  cases this
theorem fitF_row {r : List Int × Int × Int} {d : List Int} (k : RowOk r) (hd : ∀ x ∈ d, Dig x) (hl : d.length = 4) : fitF (.str (mk (d.map sg))) (madeD r) = rowFits d r := by
  unfold madeD
  rw [fitF_eq (map_sg_al k.pre) br_al]
  exact fit_same k.pre hd k.lo k.hi k.le (by have := k.len; omega)
theorem told_len {lo hi x : Int} (h0 : 0 ≤ lo) (h1 : lo ≤ hi) (h2 : hi < 16777216) (hx : 0 ≤ x) (hx' : x < 16777216) :
    (((rowsOf (digs lo) (digs hi)).map madeD).filter (fitF (.str (mk ((digs x).map sg))))).length = ind (lo ≤ x ∧ x ≤ hi) := by
  rw [← count_digs h0 h1 h2 hx hx', List.filter_map, List.length_map]
  congr 1
  refine List.filter_congr fun r hr => ?_
  exact fitF_row (rows_are digs_dig digs_dig r hr) digs_dig rfl
end Mine
end
section
open PySem PySem.W PyProof.Rows PySem.Calls PySem.Spec
namespace Mine
/-- the expression of law's i-th statement -/
noncomputable def lawE (i : Nat) : PySem.Expr := match ((theFn 27).2.2.1)[i]? with
  | some (PySem.Stmt.Assign _ e _) => e
  | some (PySem.Stmt.Return (some e) _) => e
  | some (PySem.Stmt.If e _ _ _) => e
  | _ => default
noncomputable abbrev envL (L : Nat) : Env := envFn 27 152 L (.ref 151)
noncomputable def mod24 : D → D
  | .int x => .int (x % 16777216)
  | d => d
noncomputable def mods (l : List Int) : List Int := l.map (· % 16777216)
theorem mods_in {l : List Int} : ∀ x ∈ mods l, 0 ≤ x ∧ x < 16777216 := by
  intro x hx
  obtain ⟨y, _, rfl⟩ := List.mem_map.mp hx
  exact ⟨by show 0 ≤ y % 16777216; omega, by show y % 16777216 < 16777216; omega⟩
theorem filter_true {α : Type} (l : List α) : l.filter (fun _ => true) = l := List.filter_eq_self.mpr fun _ _ => rfl
theorem map_mod24 (l : List Int) : ((l.map D.int).filter fun _ => true).map mod24 = (mods l).map D.int := by
  rw [filter_true, List.map_map]
  unfold mods
  rw [List.map_map]
  rfl
/-- the two that the range is told by -/
noncomputable def two (xs : List Int) : List Int := (mods (xs.take 2) ++ [70000, 12599351]).take 2
theorem two_is (xs : List Int) : ∃ a b, two xs = [a, b] ∧ (0 ≤ a ∧ a < 16777216) ∧ (0 ≤ b ∧ b < 16777216) := by
  match xs with
  | [] => exact ⟨_, _, rfl, by decide, by decide⟩
  | [x] => exact ⟨_, _, rfl, ⟨by show 0 ≤ x % 16777216; omega, by show x % 16777216 < 16777216; omega⟩, by decide⟩
  | x :: y :: r => exact ⟨_, _, rfl, ⟨by show 0 ≤ x % 16777216; omega, by show x % 16777216 < 16777216; omega⟩, ⟨by show 0 ≤ y % 16777216; omega, by show y % 16777216 < 16777216; omega⟩⟩
set_option maxRecDepth 20000
set_option maxHeartbeats 4000000
section
variable {w : World} {n L : Nat} {ρ : Rho} {xs : List Int}
theorem ev_mod {env : Env} {ρ : Rho} {x : Int} {e : PySem.Expr} {p p1 p2 p3 : Pos} {k1 k2 : Nat} (h : EV w n env ρ e (.int x)) : EV w n env ρ (.BinOp e .Mod (.BinOp (.Constant (.int 2) k1 p1) .Pow (.Constant (.int 24) k2 p2) p3) p) (.int (x % 16777216)) := by
  have e1 : (2 : Int) ^ (24 : Int).toNat = 16777216 := by decide
  have := ev_bin (pos := p) h (ev_bin (pos := p3) (ev_int (i := 2) (k := k1) (pos := p1)) (ev_int (i := 24) (k := k2) (pos := p2)) (op_pow (by decide) (by decide))) (op_mod (w := w) (n := n) (a := x) (b := 2 ^ (24 : Int).toNat) (by decide))
  rwa [e1] at this
theorem st0 {a b : Int} (hs : lk ρ "script" = some (.list (xs.map .int))) (hl : xs.length ≤ 63) (ha : lk ρ accN = none) (ht : two xs = [a, b]) : EV w (n + 4) (envL L) ρ (lawE 0) (.list [.int (min a b), .int (max a b)]) := by
  refine ev_call_bi (ds := [.list [.int a, .int b]]) (ev_builtin rfl rfl rfl) (evs_cons ?_ evs_nil) call_sorted2
  refine ev_eq (ev_slice_list (ds := (mods (xs.take 2) ++ [70000, 12599351]).map .int) (lo := none) (hi := some 2) ?_ trivial (show EV _ _ _ _ _ _ from ev_int) ?_) ?_
  · rw [List.map_append]
    refine ev_bin (ev_eq (ev_comp (cl := []) (src := .list ((xs.take 2).map .int)) (ds := (xs.take 2).map .int) (fun _ => true) mod24 ?it iter_list ?K (by decide) rfl ?l ha (fun _ _ _ => ei_nil) ?b) (by rw [map_mod24])) (ev_list (ds := ([70000, 12599351] : List Int).map .int) (evs_cons ev_int (evs_cons ev_int evs_nil)) (by show 2 ≤ _; decide)) (op_lists ?o)
    case it =>
      refine ev_eq (ev_slice_list (lo := none) (hi := some ((2 : Nat) : Int)) (ev_name hs (.inl rfl)) trivial (show EV _ _ _ _ _ _ from ev_int) (by simp; unfold sizeLine; omega)) ?_
      rw [pick_upto, List.map_take]
    case K => exact ⟨rfl, rfl, by decide, List.forall_mem_nil _, ⟨rfl, rfl⟩, rfl, by decide⟩
    case l => simp; unfold sizeLine; omega
    case b =>
      intro C d hd _
      obtain ⟨x, _, rfl⟩ := List.mem_map.mp hd
      exact ev_mod (ev_name (lk_self (x := "x")) (.inl rfl))
    case o => simp [mods]; unfold sizeLine; omega
  · simp [mods]; unfold sizeLine; omega
  · have := pick_upto (ds := (mods (xs.take 2) ++ [70000, 12599351]).map D.int) (b := 2)
    have e : ((2 : Nat) : Int) = 2 := rfl
    rw [e] at this
    rw [this, ← List.map_take]
    show D.list ((two xs).map .int) = _
    rw [ht]
    rfl
end
end Mine
end
section
open PySem PySem.W PyProof.Rows PySem.Calls PySem.Spec
namespace Mine
/-- the numbers beside the bounds -/
noncomputable def bes (lo hi : Int) : List Int := [lo - 1, lo, hi, hi + 1, 70100, 327680, 16777215]
noncomputable def nums (lo hi : Int) (xs : List Int) : List Int := mods (bes lo hi ++ (xs.drop 2).take 2)
theorem nums_len {lo hi : Int} {xs : List Int} : (nums lo hi xs).length = 7 ∨ (nums lo hi xs).length = 8 ∨ (nums lo hi xs).length = 9 := by
  have : (nums lo hi xs).length = 7 + ((xs.drop 2).take 2).length := by simp [nums, mods, bes]; omega
  have h2 : ((xs.drop 2).take 2).length ≤ 2 := List.length_take_le _ _
  omega
theorem nums_in {lo hi : Int} {xs : List Int} : ∀ x ∈ nums lo hi xs, 0 ≤ x ∧ x < 16777216 := mods_in
noncomputable def unI : D → Int
  | .int k => k
  | _ => 0
noncomputable def rowG : D → D
  | .list [.list pre, .int a, .int b] => madeD (pre.map unI, a, b)
  | d => d
theorem rowG_row (r : List Int × Int × Int) : rowG (rowOf r) = madeD r := by
  obtain ⟨pre, a, b⟩ := r
  show madeD ((pre.map D.int).map unI, a, b) = _
  rw [List.map_map]
  have : pre.map (unI ∘ D.int) = pre := by
    have : unI ∘ D.int = id := rfl
    rw [this, List.map_id]
  rw [this]
noncomputable def readG (ns : List Int) : D → D
  | .int k => .list [.int (ns.getD k.toNat 0), .int 7]
  | d => d
noncomputable def lawS (i : Nat) : PySem.Stmt := (((theFn 27).2.2.1)[i]?).getD default
noncomputable abbrev cxL (L : Nat) (s₀ : Shared) (X : XS) : Cx := { env := envL L, s₀ := s₀, X := X }
noncomputable def sgs (x : Int) : List Int := (digs x).map fun k => (sg k : Int)
noncomputable def textG : D → D
  | .int x => .bytes (byteArr (sgs x))
  | d => d
noncomputable def chrG : D → D
  | .int i => .str (mk [i.toNat])
  | d => d
noncomputable def strG : D → D
  | .bytes b => .str (mk ((KBw.bInts b).map Int.toNat))
  | d => d
set_option maxRecDepth 20000
set_option maxHeartbeats 4000000
section
variable {w : World} {n L : Nat} {ρ : Rho} {xs ns : List Int} {lo hi : Int} {s₀ : Shared} {X : XS} {Φ : Fl → Rho → Prop} {rest : List PySem.Stmt}
theorem st1 (hb : lk ρ "bounds" = some (.list [.int lo, .int hi])) : EV w (n + 4) (envL L) ρ (lawE 1) (.list ((bes lo hi).map .int)) := by
  have b0 : ∀ {p p' p''}, EV w (n + 4) (envL L) ρ (.Subscript (.Name "bounds" p) (.Constant (.int 0) 0 p') p'') (.int lo) := fun {_ _ _} => ev_item hb (.inr (.inl rfl)) (by decide) (by decide) rfl
  have b1 : ∀ {p p' p''}, EV w (n + 4) (envL L) ρ (.Subscript (.Name "bounds" p) (.Constant (.int 1) 0 p') p'') (.int hi) := fun {_ _ _} => ev_item hb (.inr (.inl rfl)) (by decide) (by decide) rfl
  exact ev_list (evs_cons (ev_bin b0 ev_int op_sub) (evs_cons b0 (evs_cons b1 (evs_cons (ev_bin b1 ev_int op_add) (evs_cons ev_int (evs_cons ev_int (evs_cons ev_int evs_nil))))))) (by show 7 ≤ _; decide)
theorem st2 (hs : lk ρ "script" = some (.list (xs.map .int))) (hl : xs.length ≤ 63) (ha : lk ρ accN = none) (hb : lk ρ "beside" = some (.list ((bes lo hi).map .int))) : EV w (n + 4) (envL L) ρ (lawE 2) (.list ((nums lo hi xs).map .int)) := by
  refine ev_eq (ev_comp (cl := []) (src := .list ((bes lo hi ++ (xs.drop 2).take 2).map .int)) (ds := (bes lo hi ++ (xs.drop 2).take 2).map .int) (fun _ => true) mod24 ?it iter_list ?K (by decide) rfl ?l ha (fun _ _ _ => ei_nil) ?b) (by rw [map_mod24]; rfl)
  case it =>
    rw [List.map_append]
    refine ev_bin (ev_name hb (.inl rfl)) (ev_eq (ev_slice_list (lo := some ((2 : Nat) : Int)) (hi := some ((4 : Nat) : Int)) (ev_name hs (.inl rfl)) (show EV _ _ _ _ _ _ from ev_int) (show EV _ _ _ _ _ _ from ev_int) (by simp; unfold sizeLine; omega)) ?_) (op_lists ?_)
    · rw [pick_two (by decide), ← List.map_drop, ← List.map_take]
    · simp [bes]; unfold sizeLine; omega
  case K => exact ⟨rfl, rfl, by decide, List.forall_mem_nil _, ⟨rfl, rfl⟩, rfl, by decide⟩
  case l => simp [bes]; unfold sizeLine; omega
  case b =>
    intro C d hd _
    obtain ⟨x, _, rfl⟩ := List.mem_map.mp hd
    exact ev_mod (ev_name (lk_self (x := "number")) (.inl rfl))
theorem st3 (ha : lk ρ accN = none) (hb : lk ρ "bounds" = some (.list [.int lo, .int hi])) (h0 : 0 ≤ lo ∧ lo < 16777216) (h1 : 0 ≤ hi ∧ hi < 16777216) : EV w (n + 4) (envL L) ρ (lawE 3) (.list ((rowsOf (digs lo) (digs hi)).map madeD)) := by
  have b0 : ∀ {p p' p''}, EV w (n + 4) (envL L) ρ (.Subscript (.Name "bounds" p) (.Constant (.int 0) 0 p') p'') (.int lo) := fun {_ _ _} => ev_item hb (.inr (.inl rfl)) (by decide) (by decide) rfl
  have b1 : ∀ {p p' p''}, EV w (n + 4) (envL L) ρ (.Subscript (.Name "bounds" p) (.Constant (.int 1) 0 p') p'') (.int hi) := fun {_ _ _} => ev_item hb (.inr (.inl rfl)) (by decide) (by decide) rfl
  have hrl : (rowsOf (digs lo) (digs hi)).length ≤ 9 := by
    unfold rowsOf
    split
    · show 1 ≤ 9; decide
    · refine Nat.le_trans (List.length_filter_le _ _) ?_
      rw [raw_len]
      omega
  refine ev_eq (ev_comp (cl := []) (src := .list ((rowsOf (digs lo) (digs hi)).map rowOf)) (ds := (rowsOf (digs lo) (digs hi)).map rowOf) (fun _ => true) rowG ?it iter_list ?K (by decide) rfl ?l ha (fun _ _ _ => ei_nil) ?b) ?e
  case it =>
    refine ev_call_fn (ev_global rfl rfl) (i := 23) (dV := .none) (kV := .none) (cdv := .ref 129) (by decide) (evs_cons (d := .list ((digs lo).map .int)) ?_ (evs_cons (d := .list ((digs hi).map .int)) ?_ evs_nil)) (rows_ok rfl rfl)
    · exact ev_call_fn (ev_global rfl rfl) (i := 22) (dV := .none) (kV := .none) (cdv := .ref 124) (by decide) (evs_cons b0 evs_nil) (digits_ok h0.1 h0.2)
    · exact ev_call_fn (ev_global rfl rfl) (i := 22) (dV := .none) (kV := .none) (cdv := .ref 124) (by decide) (evs_cons b1 evs_nil) (digits_ok h1.1 h1.2)
  case K => exact ⟨rfl, rfl, by decide, List.forall_mem_nil _, ⟨rfl, rfl⟩, rfl, by decide⟩
  case l => rw [List.length_map]; unfold sizeLine; omega
  case e =>
    rw [filter_true, List.map_map]
    congr 1
    exact List.map_congr_left fun r _ => rowG_row r
  case b =>
    intro C d hd _
    obtain ⟨r, hr, rfl⟩ := List.mem_map.mp hd
    have k := rows_are digs_dig digs_dig r hr
    rw [rowG_row]
    refine ev_call_fn (ev_global rfl rfl) (i := 4) (dV := .none) (kV := .none) (cdv := .ref 49) (by decide) (evs_cons (ev_call_fn (ev_global rfl rfl) (i := 24) (dV := .none) (kV := .none) (cdv := .ref 134) (by decide) (evs_cons (ev_name (lk_self (x := "row")) (.inl rfl)) evs_nil) (pattern_ok k.pre k.len k.lo k.hi k.le)) evs_nil) ?_
    exact translate_ok (n := n) (pre := r.1.map sg) (br := brOf r.2.1 r.2.2) (m := 3 - r.1.length) (map_sg_al k.pre) (by rw [List.length_map]; exact k.len) br_al (br_ne k.lo k.hi k.le) br_len (by omega)
theorem st4 (ha : lk ρ accN = none) (hn : lk ρ "numbers" = some (.list (ns.map .int))) (hin : ∀ x ∈ ns, 0 ≤ x ∧ x < 16777216) (hlen : ns.length = 7 ∨ ns.length = 8 ∨ ns.length = 9) 
    (q : EX w (n + 4) (cxL L s₀ X) (put "read" (.list (ns.map fun x => .list [.int x, .int 7])) ρ) rest Φ) : EX w (n + 4) (cxL L s₀ X) ρ (lawS 4 :: rest) Φ := by
  refine ex_comp (cl := [("numbers", L + 2)]) (src := .rng 0 (ns.length : Int)) (ds := (List.range ns.length).map fun (i : Nat) => D.int (0 + i)) (fun _ => true) (readG ns) ?it ?iter ?K (by decide) rfl ?l ha (fun _ _ _ => ei_nil) ?b ?e rfl rfl q
  case it => exact ev_call_ty (ev_builtin rfl rfl rfl) (evs_cons (ev_eq (ev_call_bi (ev_builtin rfl rfl rfl) (evs_cons (ev_name hn (.inr (.inl rfl))) evs_nil) (call_len_l (by rw [List.length_map]; omega))) (by rw [List.length_map])) evs_nil) call_rng1
  case iter =>
    have := iter_rng (w := w) (n := n + 4) (a := 0) (b := (ns.length : Int)) (by omega) (by rcases hlen with h | h | h <;> rw [h] <;> decide)
    rw [show ((ns.length : Int) - 0).toNat = ns.length by omega] at this
    exact this
  case K => exact ⟨rfl, rfl, by decide, List.forall_mem_cons.mpr ⟨⟨rfl, .inl rfl, fun h => nomatch h⟩, List.forall_mem_nil _⟩, ⟨rfl, rfl⟩, rfl, by decide⟩
  case l => simp; unfold sizeLine; omega
  case e =>
    rw [filter_true, List.map_map]
    congr 1
    refine List.ext_getElem (by simp) fun i h1 h2 => ?_
    have hi : i < ns.length := by simpa using h1
    rw [List.getElem_map, List.getElem_map, List.getElem_range]
    show D.list [.int (ns.getD ((0 : Int) + i).toNat 0), .int 7] = _
    rw [show ((0 : Int) + i).toNat = i by omega]
    simp [List.getD, hi]
  case b =>
    intro C d hd _
    obtain ⟨i, hi, rfl⟩ := List.mem_map.mp hd
    have hi' : i < ns.length := List.mem_range.mp hi
    have ei : ((0 : Int) + i).toNat = i := by omega
    show EV _ _ _ _ _ (D.list [.int (ns.getD ((0 : Int) + i).toNat 0), .int 7])
    have hx := hin (ns.getD ((0 : Int) + i).toNat 0) (by rw [ei]; simp [List.getD, hi'])
    have rd := read_ok (w := w) (n := n + 2) (dg := digs (ns.getD ((0 : Int) + i).toNat 0)) (turn := 0 + i) rfl digs_dig
    rw [Vv_digs hx.1 hx.2] at rd
    refine ev_call_fn (ev_global rfl rfl) (i := 26) (dV := .none) (kV := .none) (cdv := .ref 146) (by decide) (evs_cons ?_ (evs_cons (ev_name (lk_self (x := "k")) (.inl rfl)) evs_nil)) rd
    refine ev_call_fn (ev_global rfl rfl) (i := 22) (dV := .none) (kV := .none) (cdv := .ref 124) (by decide) (evs_cons (ev_at (ds := ns.map .int) (d := .int (ns.getD ((0 : Int) + i).toNat 0)) (ev_name ?_ (.inr (.inl rfl))) (ev_name (lk_self (x := "k")) (.inl rfl)) (by omega) (by omega) (by rw [ei]; exact getD_some hi')) evs_nil) (digits_ok hx.1 hx.2)
    refine lk_ne ?_
    show (seen _ ρ).lookup _ = _
    rw [seen_lookup]
    exact hn
theorem st5 (ha : lk ρ accN = none) (hn : lk ρ "numbers" = some (.list (ns.map .int))) (hin : ∀ x ∈ ns, 0 ≤ x ∧ x < 16777216) (hlen : ns.length ≤ 9) 
    (q : EX w (n + 4) (cxL L s₀ X) (put "texts" (.list (ns.map fun x => .bytes (byteArr (sgs x)))) ρ) rest Φ) : EX w (n + 4) (cxL L s₀ X) ρ (lawS 5 :: rest) Φ := by
  refine ex_comp (cl := []) (src := .list (ns.map .int)) (ds := ns.map .int) (fun _ => true) textG (ev_name hn (.inr (.inl rfl))) iter_list ?K (by decide) rfl ?l ha (fun _ _ _ => ei_nil) ?b (by rw [filter_true, List.map_map]; rfl) rfl rfl q
  case K => exact ⟨rfl, rfl, by decide, List.forall_mem_nil _, ⟨rfl, rfl⟩, rfl, by decide⟩
  case l => simp; unfold sizeLine; omega
  case b =>
    intro C d hd _
    obtain ⟨x, hx, rfl⟩ := List.mem_map.mp hd
    obtain ⟨x0, x1⟩ := hin x hx
    have q1 : 0 ≤ x / 65536 ∧ x / 65536 < 256 := by omega
    have q2 : 0 ≤ x / 256 % 256 ∧ x / 256 % 256 < 256 := by omega
    have q3 : 0 ≤ x % 256 ∧ x % 256 < 256 := by omega
    have hr : ∀ k ∈ [x / 65536, x / 256 % 256, x % 256], 0 ≤ k ∧ k < 256 := by
      intro k hk
      simp only [List.mem_cons, List.not_mem_nil, or_false] at hk
      rcases hk with rfl | rfl | rfl <;> assumption
    have e : byteArr [(sg (x / 65536 / 4 % 64) : Int), (sg ((x / 65536 * 256 + x / 256 % 256) / 16 % 64) : Int), (sg ((x / 256 % 256 * 256 + x % 256) / 64 % 64) : Int), (sg ((x / 256 % 256 * 256 + x % 256) % 64) : Int)] = byteArr (sgs x) := by
      unfold sgs digs
      rw [show x / 65536 / 4 % 64 = x / 262144 % 64 by omega, show (x / 65536 * 256 + x / 256 % 256) / 16 % 64 = x / 4096 % 64 by omega, show (x / 256 % 256 * 256 + x % 256) / 64 % 64 = x / 64 % 64 by omega, show (x / 256 % 256 * 256 + x % 256) % 64 = x % 64 by omega]
      rfl
    have b64 := b64_ok (w := w) (n := n + 1) (b := byteArr [x / 65536, x / 256 % 256, x % 256]) (KBa.ints_make hr) q1 q2 q3
    rw [e] at b64
    refine ev_call_fn (ev_global rfl rfl) (i := 17) (dV := .ref 99) (kV := .none) (cdv := .ref 105) (by decide) (evs_cons (ev_call_ty (ev_builtin rfl rfl rfl) (evs_cons (ev_list (ds := [x / 65536, x / 256 % 256, x % 256].map .int) (evs_cons (ev_bin (ev_name (lk_self (x := "number")) (.inl rfl)) ev_int (op_div (by decide) ?_)) (evs_cons (ev_bin (ev_bin (ev_name (lk_self (x := "number")) (.inl rfl)) ev_int (op_div (by decide) ?_)) ev_int (op_mod (by decide))) (evs_cons (ev_bin (ev_name (lk_self (x := "number")) (.inl rfl)) ev_int (op_mod (by decide))) evs_nil))) (by show 3 ≤ _; decide)) evs_nil) (call_bytes hr (by show 3 ≤ _; decide))) evs_nil) b64
    · rfl
    · rfl
theorem bInts_text {x : Int} : KBw.bInts (byteArr (sgs x)) = sgs x := by
  refine KBa.ints_make fun k hk => ?_
  obtain ⟨d, hd, rfl⟩ := List.mem_map.mp hk
  have h := sg_al (digs_dig d hd)
  have : ∀ c ∈ AL, c < 256 := by decide
  exact ⟨by omega, by have := this _ h; omega⟩
theorem toNat_text {x : Int} : (sgs x).map Int.toNat = (digs x).map sg := by
  unfold sgs
  rw [List.map_map]
  rfl
theorem st6 (ha : lk ρ accN = none) (ht : lk ρ "texts" = some (.list (ns.map fun x => .bytes (byteArr (sgs x))))) (hlen : ns.length ≤ 9) 
    (q : EX w (n + 4) (cxL L s₀ X) (put "rows" (.list (ns.map fun x => .str (mk ((digs x).map sg)))) ρ) rest Φ) : EX w (n + 4) (cxL L s₀ X) ρ (lawS 6 :: rest) Φ := by
  refine ex_comp (cl := []) (src := .list (ns.map fun x => .bytes (byteArr (sgs x)))) (ds := ns.map fun x => .bytes (byteArr (sgs x))) (fun _ => true) strG (ev_name ht (.inl rfl)) iter_list ?K (by decide) rfl ?l ha (fun _ _ _ => ei_nil) ?b ?e rfl rfl q
  case K => exact ⟨rfl, rfl, by decide, List.forall_mem_nil _, ⟨rfl, rfl⟩, rfl, by decide⟩
  case l => simp; unfold sizeLine; omega
  case e =>
    rw [filter_true, List.map_map]
    congr 1
    refine List.map_congr_left fun x _ => ?_
    show D.str (mk ((KBw.bInts (byteArr (sgs x))).map Int.toNat)) = _
    rw [bInts_text, toNat_text]
  case b =>
    intro C d hd _
    obtain ⟨x, hx, rfl⟩ := List.mem_map.mp hd
    show EV _ _ _ _ _ (D.str (mk ((KBw.bInts (byteArr (sgs x))).map Int.toNat)))
    rw [bInts_text]
    have sl : (sgs x).length = 4 := rfl
    refine ev_eq (ev_join (x := mk []) (ys := (sgs x).map fun i => mk [i.toNat]) ev_str ?j ?_ rfl rfl rfl rfl rfl) ?_
    case j =>
      refine ev_eq (ev_comp (cl := []) (src := .bytes (byteArr (sgs x))) (ds := (sgs x).map .int) (fun _ => true) chrG (ev_name (lk_self (x := "text")) (.inl rfl)) ?it ?K (by decide) rfl ?l ?r (fun _ _ _ => ei_nil) ?b) (by rw [filter_true, List.map_map, List.map_map]; rfl)
      case it =>
        have := iter_bytes (w := w) (n := n + 4) (b := byteArr (sgs x))
        rwa [bInts_text] at this
      case K => exact ⟨rfl, rfl, by decide, List.forall_mem_nil _, ⟨rfl, rfl⟩, rfl, by decide⟩
      case l => rw [List.length_map, sl]; decide
      case r =>
        refine lk_no ?_
        show (seen _ ρ).lookup _ = _
        rw [seen_lookup]
        rfl
      case b =>
        intro C d hd _
        obtain ⟨k, hk, rfl⟩ := List.mem_map.mp hd
        have hk' : 0 ≤ k ∧ k < 256 := by
          rw [← bInts_text (x := x)] at hk
          exact KBw.ints_in hk
        exact ev_call_bi (ev_builtin rfl rfl rfl) (evs_cons (ev_name (lk_self (x := "sign")) (.inl rfl)) evs_nil) (call_chr hk'.1 (by omega))
    · show ((((sgs x).map fun i => mk [i.toNat]).map (·.length)).sum + _ * 0 ≤ _)
      show 4 + _ * 0 ≤ _
      omega
    · rw [join_flat]
      congr 1
end
end Mine
end
section
open PySem PySem.W PyProof.Rows PySem.Calls PySem.Spec
namespace Mine
noncomputable def toldOf (made : List D) (x : Int) : List D := made.filter (fitF (.str (mk ((digs x).map sg))))
noncomputable def toldG (made : List D) (row : D) : D := .list (made.filter (fitF row))
noncomputable def lenG : D → D
  | .list l => .int (l.length : Int)
  | d => d
noncomputable def indZ (lo hi x : Int) : Int := if (decide (lo ≤ x) && decide (x ≤ hi)) = true then 1 else 0
theorem indZ_ind (lo hi x : Int) : ((ind (lo ≤ x ∧ x ≤ hi) : Nat) : Int) = indZ lo hi x := by
  unfold ind indZ
  by_cases h1 : lo ≤ x <;> by_cases h2 : x ≤ hi <;> simp [h1, h2]
noncomputable def ifG (lo hi : Int) : D → D
  | .int x => .int (indZ lo hi x)
  | d => d
theorem rowsOf_len (lo hi : Int) : (rowsOf (digs lo) (digs hi)).length ≤ 9 := by
  unfold rowsOf
  split
  · show 1 ≤ 9; decide
  · refine Nat.le_trans (List.length_filter_le _ _) ?_
    rw [raw_len]
    omega
set_option maxRecDepth 20000
set_option maxHeartbeats 4000000
section
variable {w : World} {n L : Nat} {ρ : Rho} {xs ns : List Int} {lo hi : Int} {s₀ : Shared} {X : XS} {Φ : Fl → Rho → Prop} {rest : List PySem.Stmt}
theorem st7 (ha : lk ρ accN = none) (hm : lk ρ "made" = some (.list ((rowsOf (digs lo) (digs hi)).map madeD))) (hr : lk ρ "rows" = some (.list (ns.map fun x => .str (mk ((digs x).map sg))))) (hlen : ns.length ≤ 9) :
    EX w (n + 4) (cxL L s₀ X) (put "told" (.list (ns.map fun x => .list (toldOf ((rowsOf (digs lo) (digs hi)).map madeD) x))) ρ) rest Φ → EX w (n + 4) (cxL L s₀ X) ρ (lawS 7 :: rest) Φ := by
  intro q
  refine ex_compC (cl := [("made", L + 3)]) (src := .list (ns.map fun x => .str (mk ((digs x).map sg)))) (ds := ns.map fun x => .str (mk ((digs x).map sg))) (fun _ => true) (toldG ((rowsOf (digs lo) (digs hi)).map madeD)) (ev_name hr (.inl rfl)) iter_list ?K rfl ?l ha (fun _ _ _ _ => ei_nil) ?b (by rw [filter_true, List.map_map]; rfl) (fun _ => rfl) rfl rfl q
  case K => exact ⟨rfl, rfl, by decide, List.forall_mem_cons.mpr ⟨⟨rfl, .inl rfl, fun h => nomatch h⟩, List.forall_mem_nil _⟩, ⟨rfl, rfl⟩, rfl, by decide⟩
  case l => simp; unfold sizeLine; omega
  case b =>
    intro C k d hd _
    obtain ⟨x, hx, rfl⟩ := List.mem_map.mp hd
    have sm : lk (seen [("made", L + 3)] ρ) "made" = some (.list ((rowsOf (digs lo) (digs hi)).map madeD)) := by
      show (seen _ ρ).lookup _ = _
      rw [seen_lookup]
      exact hm
    have sa : lk (seen [("made", L + 3)] ρ) accN = none := by
      show (seen _ ρ).lookup _ = _
      rw [seen_lookup]
      rfl
    show EV _ _ _ _ _ (D.list (((rowsOf (digs lo) (digs hi)).map madeD).filter (fitF (.str (mk ((digs x).map sg))))))
    generalize seen [("made", L + 3)] ρ = ρ₁ at sm sa ⊢
    refine ev_eq (ev_comp (cl := [("row", k)]) (src := .list ((rowsOf (digs lo) (digs hi)).map madeD)) (ds := (rowsOf (digs lo) (digs hi)).map madeD) (fitF (.str (mk ((digs x).map sg)))) id (ev_name (lk_ne (x := "row") sm) (.inr (.inl rfl))) iter_list ?K (by decide) rfl ?l (lk_no (x := "row") sa) ?t ?b) (by rw [List.map_id])
    case K => exact ⟨rfl, rfl, by decide, List.forall_mem_cons.mpr ⟨⟨rfl, .inl rfl, fun h => nomatch h⟩, List.forall_mem_nil _⟩, ⟨rfl, rfl⟩, rfl, by decide⟩
    case l =>
      have := rowsOf_len lo hi
      rw [List.length_map]; unfold sizeLine; omega
    case t =>
      intro C' d hd
      obtain ⟨r, hr, rfl⟩ := List.mem_map.mp hd
      have kk := rows_are digs_dig digs_dig r hr
      have e : fitF (.str (mk ((digs x).map sg))) (madeD r) = fitsOf (r.1.map sg) (brOf r.2.1 r.2.2) ((digs x).map sg) := by
        unfold madeD
        exact fitF_eq (map_sg_al kk.pre) br_al
      rw [e]
      refine ei_one (et_of_bool (ev_call_fn (ev_global rfl rfl) (i := 25) (dV := .none) (kV := .none) (cdv := .ref 141) (by decide) (evs_cons (d := madeD r) (ev_name (lk_self (x := "one")) (.inl rfl)) (evs_cons (d := .str (mk ((digs x).map sg))) (ev_name ?_ (.inr (.inl rfl))) evs_nil)) ?_))
      · refine lk_ne ?_
        show (seen _ _).lookup _ = _
        rw [seen_lookup]
        exact lk_self (x := "row")
      · exact fits_ok (n := n + 2) (m := 3 - r.1.length) (map_sg_al kk.pre) (by rw [List.length_map]; have := kk.len; omega) br_al br_len rfl
    case b =>
      intro C' d hd _
      exact ev_name (lk_self (x := "one")) (.inl rfl)
theorem st8 (ha : lk ρ accN = none) (hrd : lk ρ "read" = some (.list (ns.map fun x => .list [.int x, .int 7]))) (hn : lk ρ "numbers" = some (.list (ns.map .int))) (ht : lk ρ "texts" = some (.list (ns.map fun x => .bytes (byteArr (sgs x))))) (hlen : ns.length ≤ 9) :
    ET w (n + 4) (envL L) ρ (lawE 8) false := by
  refine et_bool (ea_or (b := false) (c := false) (et_cmp (ev_name hrd (.inl rfl)) (ev_eq (ev_comp (cl := []) (src := .list (ns.map .int)) (ds := ns.map .int) (fun _ => true) (fun d => .list [d, .int 7]) (ev_name hn (.inr (.inl rfl))) iter_list ?K (by decide) rfl ?l ha (fun _ _ _ => ei_nil) ?b) (by rw [filter_true, List.map_map])) ?ne) fun _ => ea_or (b := false) (c := false) (et_cmp (ev_eq (d' := .list []) (ev_comp (cl := []) (src := .list (ns.map fun x => .bytes (byteArr (sgs x)))) (ds := ns.map fun x => .bytes (byteArr (sgs x))) (fun _ => false) id (ev_name ht (.inl rfl)) iter_list ?K2 (by decide) rfl ?l2 ha ?t2 (fun _ _ _ h => nomatch h)) ?e2) (ev_list evs_nil (by show 0 ≤ _; decide)) (co_ne_rows (L := []))) fun _ => ea_or_nil)
  case K => exact ⟨rfl, rfl, by decide, List.forall_mem_nil _, ⟨rfl, rfl⟩, rfl, by decide⟩
  case l => simp; unfold sizeLine; omega
  case b =>
    intro C d hd _
    exact ev_list (evs_cons (ev_name (lk_self (x := "number")) (.inl rfl)) (evs_cons ev_int evs_nil)) (by show 2 ≤ _; decide)
  case ne =>
    have := co_ne_rows (w := w) (n := n + 3) (L := ns.map fun x => [x, 7])
    rw [List.map_map] at this
    exact this
  case K2 => exact ⟨rfl, rfl, by decide, List.forall_mem_nil _, ⟨rfl, rfl⟩, rfl, by decide⟩
  case l2 => simp; unfold sizeLine; omega
  case t2 =>
    intro C d hd
    obtain ⟨x, hx, rfl⟩ := List.mem_map.mp hd
    have e : (!(("bytes" : String) == "bytes")) = false := by decide
    have co := co_isnot_types (w := w) (n := n + 4) (a := "bytes") (b := "bytes")
    rw [e] at co
    exact ei_one (et_cmp (ev_call_ty (ev_builtin rfl rfl rfl) (evs_cons (ev_name (lk_self (x := "text")) (.inl rfl)) evs_nil) call_type_b) (ev_builtin rfl rfl rfl) co)
  case e2 =>
    have : (ns.map fun x => D.bytes (byteArr (sgs x))).filter (fun _ => false) = [] := List.filter_eq_nil_iff.mpr fun _ _ h => nomatch h
    rw [this]
    rfl
theorem st9 (ha : lk ρ accN = none) (hn : lk ρ "numbers" = some (.list (ns.map .int))) (hb : lk ρ "bounds" = some (.list [.int lo, .int hi])) (htd : lk ρ "told" = some (.list (ns.map fun x => .list (toldOf ((rowsOf (digs lo) (digs hi)).map madeD) x)))) (hlen : ns.length ≤ 9)
    (h0 : 0 ≤ lo) (h1 : lo ≤ hi) (h2 : hi < 16777216) (hin : ∀ x ∈ ns, 0 ≤ x ∧ x < 16777216) : EV w (n + 4) (envL L) ρ (lawE 9) (.bool true) := by
  have eb : (ns.map (indZ lo hi) == ns.map (indZ lo hi)) = true := beq_self_eq_true _
  rw [← eb]
  refine ev_cmp (ev_eq (ev_comp (cl := []) (src := .list (ns.map fun x => .list (toldOf ((rowsOf (digs lo) (digs hi)).map madeD) x))) (ds := ns.map fun x => .list (toldOf ((rowsOf (digs lo) (digs hi)).map madeD) x)) (fun _ => true) lenG (ev_name htd (.inl rfl)) iter_list ?K (by decide) rfl ?l ha (fun _ _ _ => ei_nil) ?b) ?e) (ev_eq (ev_comp (cl := [("bounds", L + 1)]) (src := .list (ns.map .int)) (ds := ns.map .int) (fun _ => true) (ifG lo hi) (ev_name hn (.inr (.inl rfl))) iter_list ?K2 (by decide) rfl ?l2 ha (fun _ _ _ => ei_nil) ?b2) ?e2) (co_eq_ints rfl)
  case K => exact ⟨rfl, rfl, by decide, List.forall_mem_nil _, ⟨rfl, rfl⟩, rfl, by decide⟩
  case l => simp; unfold sizeLine; omega
  case b =>
    intro C d hd _
    obtain ⟨x, hx, rfl⟩ := List.mem_map.mp hd
    refine ev_call_bi (ev_builtin rfl rfl rfl) (evs_cons (ev_name (lk_self (x := "row")) (.inl rfl)) evs_nil) (call_len_l ?_)
    have : (toldOf ((rowsOf (digs lo) (digs hi)).map madeD) x).length ≤ 9 := by
      refine Nat.le_trans (List.length_filter_le _ _) ?_
      rw [List.length_map]
      exact rowsOf_len lo hi
    omega
  case e =>
    rw [filter_true, List.map_map, List.map_map]
    congr 1
    refine List.map_congr_left fun x hx => ?_
    show D.int ((toldOf ((rowsOf (digs lo) (digs hi)).map madeD) x).length : Int) = D.int (indZ lo hi x)
    have := told_len h0 h1 h2 (hin x hx).1 (hin x hx).2
    unfold toldOf
    rw [this, indZ_ind]
  case K2 => exact ⟨rfl, rfl, by decide, List.forall_mem_cons.mpr ⟨⟨rfl, .inl rfl, fun h => nomatch h⟩, List.forall_mem_nil _⟩, ⟨rfl, rfl⟩, rfl, by decide⟩
  case l2 => simp; unfold sizeLine; omega
  case b2 =>
    intro C d hd _
    obtain ⟨x, hx, rfl⟩ := List.mem_map.mp hd
    have lb : lk (put "number" (.int x) (seen [("bounds", L + 1)] ρ)) "bounds" = some (.list [.int lo, .int hi]) := by
      refine lk_ne ?_
      show (seen _ _).lookup _ = _
      rw [seen_lookup]
      exact hb
    show EV _ _ _ _ _ (D.int (indZ lo hi x))
    refine ev_if (c := decide (lo ≤ x) && decide (x ≤ hi)) (et_between (ev_item lb (.inr (.inl rfl)) (by decide) (by decide) rfl) (ev_name (lk_self (x := "number")) (.inl rfl)) (ev_item lb (.inr (.inl rfl)) (by decide) (by decide) rfl)) (fun h => ?_) (fun h => ?_)
    · unfold indZ
      rw [if_pos h]
      exact ev_int
    · unfold indZ
      rw [h, if_neg (by decide)]
      exact ev_int
  case e2 =>
    rw [filter_true, List.map_map, List.map_map]
    rfl
theorem law_ok (hl : xs.length ≤ 63) : CALL w (n + 5) (.ref 152) [.list (xs.map .int)] (.bool true) := by
  refine call_of (n := n + 4) (i := 27) (dV := .none) (kV := .none) (cd := .ref 151) (by decide) ["script"] (fun vs h s pm ct => ?_) rfl rfl rfl rfl (by decide) (by decide) fun L s₀ X => ?_
  · match vs, h with
    | [v], _ => exact BindsTo.of_eq rfl
  · obtain ⟨a, b, ht, ⟨a0, a1⟩, ⟨b0, b1⟩⟩ := two_is xs
    have hlo : 0 ≤ min a b := by omega
    have hlh : min a b ≤ max a b := by omega
    have hhi : max a b < 16777216 := by omega
    generalize hlo' : min a b = lo at hlo hlh
    generalize hhi' : max a b = hi at hhi hlh
    have nl := nums_len (lo := lo) (hi := hi) (xs := xs)
    have ni := nums_in (lo := lo) (hi := hi) (xs := xs)
    have nl9 : (nums lo hi xs).length ≤ 9 := by omega
    have l0 : lk ([("script" : Str)].zip [D.list (xs.map .int)]) "script" = some (.list (xs.map .int)) := rfl
    have c0 : lk ([("script" : Str)].zip [D.list (xs.map .int)]) accN = none := rfl
    generalize ([("script" : Str)].zip [D.list (xs.map .int)] : Rho) = ρ at l0 c0
    refine ex_open (ss := _ :: _) rfl ?_
    refine ex_assign (d := .list [.int lo, .int hi]) (by rw [← hlo', ← hhi']; exact st0 l0 hl c0 ht) (.inr rfl) ?_
    replace l0 := lk_ne (x := "bounds") (d := .list [.int lo, .int hi]) l0
    replace c0 := lk_no (x := "bounds") (d := .list [.int lo, .int hi]) c0
    have l1 := lk_self (x := "bounds") (d := .list [.int lo, .int hi]) (ρ := ρ)
    generalize put "bounds" (.list [.int lo, .int hi]) ρ = ρ1 at l0 c0 l1
    refine ex_assign (st1 l1) (.inl rfl) ?_
    replace l0 := lk_ne (x := "beside") (d := .list ((bes lo hi).map .int)) l0
    replace c0 := lk_no (x := "beside") (d := .list ((bes lo hi).map .int)) c0
    replace l1 := lk_ne (x := "beside") (d := .list ((bes lo hi).map .int)) l1
    have l2 := lk_self (x := "beside") (d := .list ((bes lo hi).map .int)) (ρ := ρ1)
    generalize put "beside" (.list ((bes lo hi).map .int)) ρ1 = ρ2 at l0 c0 l1 l2
    refine ex_assign (st2 l0 hl c0 l2) (.inr rfl) ?_
    generalize hns : nums lo hi xs = ns at nl ni nl9
    replace c0 := lk_no (x := "numbers") (d := .list (ns.map .int)) c0
    replace l1 := lk_ne (x := "numbers") (d := .list (ns.map .int)) l1
    have l3 := lk_self (x := "numbers") (d := .list (ns.map .int)) (ρ := ρ2)
    generalize put "numbers" (.list (ns.map .int)) ρ2 = ρ3 at c0 l1 l3
    refine ex_assign (st3 c0 l1 ⟨hlo, by omega⟩ ⟨by omega, hhi⟩) (.inr rfl) ?_
    generalize hmd : (rowsOf (digs lo) (digs hi)).map madeD = md
    replace c0 := lk_no (x := "made") (d := .list md) c0
    replace l1 := lk_ne (x := "made") (d := .list md) l1
    replace l3 := lk_ne (x := "made") (d := .list md) l3
    have l4 := lk_self (x := "made") (d := .list md) (ρ := ρ3)
    generalize put "made" (.list md) ρ3 = ρ4 at c0 l1 l3 l4
    refine st4 c0 l3 ni nl ?_
    generalize hrd : (ns.map fun x => D.list [.int x, .int 7]) = rd
    replace c0 := lk_no (x := "read") (d := .list rd) c0
    replace l1 := lk_ne (x := "read") (d := .list rd) l1
    replace l3 := lk_ne (x := "read") (d := .list rd) l3
    replace l4 := lk_ne (x := "read") (d := .list rd) l4
    have l5 := lk_self (x := "read") (d := .list rd) (ρ := ρ4)
    generalize put "read" (.list rd) ρ4 = ρ5 at c0 l1 l3 l4 l5
    refine st5 c0 l3 ni nl9 ?_
    generalize htx : (ns.map fun x => D.bytes (byteArr (sgs x))) = tx
    replace c0 := lk_no (x := "texts") (d := .list tx) c0
    replace l1 := lk_ne (x := "texts") (d := .list tx) l1
    replace l3 := lk_ne (x := "texts") (d := .list tx) l3
    replace l4 := lk_ne (x := "texts") (d := .list tx) l4
    replace l5 := lk_ne (x := "texts") (d := .list tx) l5
    have l6 := lk_self (x := "texts") (d := .list tx) (ρ := ρ5)
    generalize put "texts" (.list tx) ρ5 = ρ6 at c0 l1 l3 l4 l5 l6
    refine st6 c0 (by rw [htx]; exact l6) nl9 ?_
    generalize hrw : (ns.map fun x => D.str (mk ((digs x).map sg))) = rw
    replace c0 := lk_no (x := "rows") (d := .list rw) c0
    replace l1 := lk_ne (x := "rows") (d := .list rw) l1
    replace l3 := lk_ne (x := "rows") (d := .list rw) l3
    replace l4 := lk_ne (x := "rows") (d := .list rw) l4
    replace l5 := lk_ne (x := "rows") (d := .list rw) l5
    replace l6 := lk_ne (x := "rows") (d := .list rw) l6
    have l7 := lk_self (x := "rows") (d := .list rw) (ρ := ρ6)
    generalize put "rows" (.list rw) ρ6 = ρ7 at c0 l1 l3 l4 l5 l6 l7
    refine st7 (lo := lo) (hi := hi) (ns := ns) c0 (by rw [hmd]; exact l4) (by rw [hrw]; exact l7) nl9 ?_
    generalize htd : (ns.map fun x => D.list (toldOf ((rowsOf (digs lo) (digs hi)).map madeD) x)) = td
    replace c0 := lk_no (x := "told") (d := .list td) c0
    replace l1 := lk_ne (x := "told") (d := .list td) l1
    replace l3 := lk_ne (x := "told") (d := .list td) l3
    replace l5 := lk_ne (x := "told") (d := .list td) l5
    replace l6 := lk_ne (x := "told") (d := .list td) l6
    have l8 := lk_self (x := "told") (d := .list td) (ρ := ρ7)
    generalize put "told" (.list td) ρ7 = ρ8 at c0 l1 l3 l5 l6 l8
    refine ex_if (st8 c0 (by rw [hrd]; exact l5) l3 (by rw [htx]; exact l6) nl9) (fun h => by cases h) fun _ => ex_nil ?_
    show EX _ _ _ _ _ _
    exact ex_ret (st9 (lo := lo) (hi := hi) (ns := ns) c0 l3 l1 (by rw [htd]; exact l8) nl9 hlo hlh hhi ni) rfl
end
end Mine
end
section
open PySem PySem.W PyProof.Rows PySem.Calls PySem.Spec
set_option maxRecDepth 100000
namespace Mine
/-- what is looked at of the heap behind the top -/
noncomputable def kS (P : Params) : Frag := [
  (3, { cls := .type "dict", data := .dict #[{ hash := PyData.keyHash P "__name__", key := .str "__name__" 165, val := .str "law_in0179_01" 583 }, { hash := PyData.keyHash P "__doc__", key := .str "__doc__" 166, val := .none }, { hash := PyData.keyHash P "__package__", key := .str "__package__" 167, val := .none }, { hash := PyData.keyHash P "__loader__", key := .str "__loader__" 168, val := .builtin "__main__.__loader__#opaque" }, { hash := PyData.keyHash P "__spec__", key := .str "__spec__" 169, val := .none }, { hash := PyData.keyHash P "__annotations__", key := .str "__annotations__" 170, val := .ref 6 }, { hash := PyData.keyHash P "__builtins__", key := .str "__builtins__" 171, val := .ref 4 }, { hash := PyData.keyHash P "__file__", key := .str "__file__" 173, val := .str "/claim/cut.py" 172 }, { hash := PyData.keyHash P "__cached__", key := .str "__cached__" 174, val := .none }, { hash := PyData.keyHash P "_sre", key := .str "_sre" 275, val := .ref 12 }, { hash := PyData.keyHash P "_wall", key := .str "_wall" 288, val := .ref 38 }, { hash := PyData.keyHash P "_twin_re_1", key := .str "_twin_re_1" 328, val := .ref 43 }, { hash := PyData.keyHash P "translate", key := .str "translate" 337, val := .ref 50 }, { hash := PyData.keyHash P "_special_chars_map", key := .str "_special_chars_map" 485, val := .ref 52 }, { hash := PyData.keyHash P "escape", key := .str "escape" 492, val := .ref 62 }, { hash := PyData.keyHash P "_translate", key := .str "_translate" 513, val := .ref 69 }, { hash := PyData.keyHash P "_join_translated_parts", key := .str "_join_translated_parts" 526, val := .ref 76 }, { hash := PyData.keyHash P "_buffer", key := .str "_buffer" 536, val := .ref 83 }, { hash := PyData.keyHash P "_truth", key := .str "_truth" 544, val := .ref 90 }, { hash := PyData.keyHash P "_B64", key := .str "_B64" 546, val := .bytes #[65, 66, 67, 68, 69, 70, 71, 72, 73, 74, 75, 76, 77, 78, 79, 80, 81, 82, 83, 84, 85, 86, 87, 88, 89, 90, 97, 98, 99, 100, 101, 102, 103, 104, 105, 106, 107, 108, 109, 110, 111, 112, 113, 114, 115, 116, 117, 118, 119, 120, 121, 122, 48, 49, 50, 51, 52, 53, 54, 55, 56, 57, 43, 47] 545 }, { hash := PyData.keyHash P "b2a_base64", key := .str "b2a_base64" 560, val := .ref 98 }, { hash := PyData.keyHash P "b64encode", key := .str "b64encode" 571, val := .ref 106 }, { hash := PyData.keyHash P "_parse_varint", key := .str "_parse_varint" 582, val := .ref 113 }, { hash := PyData.keyHash P "_law_alphabet", key := .str "_law_alphabet" 590, val := .ref 120 }, { hash := PyData.keyHash P "_law_digits", key := .str "_law_digits" 596, val := .ref 125 }, { hash := PyData.keyHash P "_law_rows", key := .str "_law_rows" 602, val := .ref 130 }, { hash := PyData.keyHash P "_law_pattern", key := .str "_law_pattern" 608, val := .ref 135 }, { hash := PyData.keyHash P "_law_fits", key := .str "_law_fits" 621, val := .ref 142 }, { hash := PyData.keyHash P "_law_read", key := .str "_law_read" 627, val := .ref 147 }, { hash := PyData.keyHash P "law", key := .str "law" 633, val := .ref 152 }] 30 }),
  (50, { cls := .type "function", data := .func (fdOf 4 (.none) (.none) (.str "cpy313.fnmatch" 289) (.ref 49) .none) }),
  (62, { cls := .type "function", data := .func (fdOf 7 (.none) (.none) (.str "re" 338) (.ref 61) .none) }),
  (69, { cls := .type "function", data := .func (fdOf 9 (.none) (.none) (.str "cpy313.fnmatch" 493) (.ref 68) .none) }),
  (76, { cls := .type "function", data := .func (fdOf 10 (.none) (.none) (.str "cpy313.fnmatch" 493) (.ref 75) .none) }),
  (83, { cls := .type "function", data := .func (fdOf 12 (.none) (.none) (.str "binascii" 527) (.ref 82) .none) }),
  (90, { cls := .type "function", data := .func (fdOf 13 (.none) (.none) (.str "binascii" 527) (.ref 89) .none) }),
  (98, { cls := .type "function", data := .func (fdOf 15 (.none) (.ref 91) (.str "binascii" 527) (.ref 97) .none) }),
  (106, { cls := .type "function", data := .func (fdOf 17 (.ref 99) (.none) (.str "cpy313.base64" 561) (.ref 105) .none) }),
  (113, { cls := .type "function", data := .func (fdOf 19 (.none) (.none) (.str "cpy313.dis" 572) (.ref 112) .none) }),
  (120, { cls := .type "function", data := .func (fdOf 21 (.none) (.none) (.str "law_in0179_01" 583) (.ref 119) .none) }),
  (125, { cls := .type "function", data := .func (fdOf 22 (.none) (.none) (.str "law_in0179_01" 583) (.ref 124) .none) }),
  (130, { cls := .type "function", data := .func (fdOf 23 (.none) (.none) (.str "law_in0179_01" 583) (.ref 129) .none) }),
  (135, { cls := .type "function", data := .func (fdOf 24 (.none) (.none) (.str "law_in0179_01" 583) (.ref 134) .none) }),
  (142, { cls := .type "function", data := .func (fdOf 25 (.none) (.none) (.str "law_in0179_01" 583) (.ref 141) .none) }),
  (147, { cls := .type "function", data := .func (fdOf 26 (.none) (.none) (.str "law_in0179_01" 583) (.ref 146) .none) }),
  (152, { cls := .type "function", data := .func (fdOf 27 (.none) (.none) (.str "law_in0179_01" 583) (.ref 151) .none) }),
  (49, { cls := .type "code", data := .fields #[.str "translate" 329, .str "translate" 330, .str "/claim/cut.py" 331, .int 7 0, .int 1 0, .int 0 0, .int 0 0, .int 3 0, .ref 44, .bool true, .int 276 0, .ref 45, .none, .ref 46, .ref 47, .ref 48, .int 335 0, .int 7 0, .str "/claim/cut.py" 336] }),
  (61, { cls := .type "code", data := .fields #[.str "escape" 486, .str "escape" 487, .str "/claim/cut.py" 488, .int 13 0, .int 1 0, .int 0 0, .int 0 0, .int 3 0, .ref 56, .bool true, .int 276 0, .ref 57, .none, .ref 58, .ref 59, .ref 60, .int 490 0, .int 13 0, .str "/claim/cut.py" 491] }),
  (68, { cls := .type "code", data := .fields #[.str "_translate" 495, .str "_translate" 496, .str "/claim/cut.py" 497, .int 20 0, .int 3 0, .int 0 0, .int 0 0, .int 3 0, .ref 63, .bool true, .int 276 0, .ref 64, .none, .ref 65, .ref 66, .ref 67, .int 511 0, .int 20 0, .str "/claim/cut.py" 512] }),
  (75, { cls := .type "code", data := .fields #[.str "_join_translated_parts" 514, .str "_join_translated_parts" 515, .str "/claim/cut.py" 516, .int 82 0, .int 2 0, .int 0 0, .int 0 0, .int 3 0, .ref 70, .bool true, .int 276 0, .ref 71, .none, .ref 72, .ref 73, .ref 74, .int 524 0, .int 82 0, .str "/claim/cut.py" 525] }),
  (82, { cls := .type "code", data := .fields #[.str "_buffer" 529, .str "_buffer" 530, .str "/claim/cut.py" 531, .int 110 0, .int 1 0, .int 0 0, .int 0 0, .int 3 0, .ref 77, .bool true, .int 276 0, .ref 78, .none, .ref 79, .ref 80, .ref 81, .int 534 0, .int 110 0, .str "/claim/cut.py" 535] }),
  (89, { cls := .type "code", data := .fields #[.str "_truth" 537, .str "_truth" 538, .str "/claim/cut.py" 539, .int 117 0, .int 1 0, .int 0 0, .int 0 0, .int 3 0, .ref 84, .bool true, .int 276 0, .ref 85, .none, .ref 86, .ref 87, .ref 88, .int 542 0, .int 117 0, .str "/claim/cut.py" 543] }),
  (97, { cls := .type "code", data := .fields #[.str "b2a_base64" 548, .str "b2a_base64" 549, .str "/claim/cut.py" 550, .int 123 0, .int 1 0, .int 1 0, .int 1 0, .int 3 0, .ref 92, .bool true, .int 276 0, .ref 93, .none, .ref 94, .ref 95, .ref 96, .int 558 0, .int 123 0, .str "/claim/cut.py" 559] }),
  (105, { cls := .type "code", data := .fields #[.str "b64encode" 563, .str "b64encode" 564, .str "/claim/cut.py" 565, .int 146 0, .int 2 0, .int 0 0, .int 0 0, .int 3 0, .ref 100, .bool true, .int 276 0, .ref 101, .none, .ref 102, .ref 103, .ref 104, .int 569 0, .int 146 0, .str "/claim/cut.py" 570] }),
  (112, { cls := .type "code", data := .fields #[.str "_parse_varint" 574, .str "_parse_varint" 575, .str "/claim/cut.py" 576, .int 153 0, .int 1 0, .int 0 0, .int 0 0, .int 3 0, .ref 107, .bool true, .int 276 0, .ref 108, .none, .ref 109, .ref 110, .ref 111, .int 580 0, .int 153 0, .str "/claim/cut.py" 581] }),
  (119, { cls := .type "code", data := .fields #[.str "_law_alphabet" 585, .str "_law_alphabet" 586, .str "/claim/cut.py" 587, .int 162 0, .int 0 0, .int 0 0, .int 0 0, .int 3 0, .ref 114, .bool true, .int 276 0, .ref 115, .none, .ref 116, .ref 117, .ref 118, .int 588 0, .int 162 0, .str "/claim/cut.py" 589] }),
  (124, { cls := .type "code", data := .fields #[.str "_law_digits" 591, .str "_law_digits" 592, .str "/claim/cut.py" 593, .int 164 0, .int 1 0, .int 0 0, .int 0 0, .int 3 0, .ref 121, .bool true, .int 276 0, .ref 122, .none, .none, .none, .ref 123, .int 594 0, .int 164 0, .str "/claim/cut.py" 595] }),
  (129, { cls := .type "code", data := .fields #[.str "_law_rows" 597, .str "_law_rows" 598, .str "/claim/cut.py" 599, .int 166 0, .int 2 0, .int 0 0, .int 0 0, .int 3 0, .ref 126, .bool true, .int 276 0, .ref 127, .none, .none, .none, .ref 128, .int 600 0, .int 166 0, .str "/claim/cut.py" 601] }),
  (134, { cls := .type "code", data := .fields #[.str "_law_pattern" 603, .str "_law_pattern" 604, .str "/claim/cut.py" 605, .int 174 0, .int 1 0, .int 0 0, .int 0 0, .int 3 0, .ref 131, .bool true, .int 276 0, .ref 132, .none, .none, .none, .ref 133, .int 606 0, .int 174 0, .str "/claim/cut.py" 607] }),
  (141, { cls := .type "code", data := .fields #[.str "_law_fits" 609, .str "_law_fits" 610, .str "/claim/cut.py" 611, .int 177 0, .int 2 0, .int 0 0, .int 0 0, .int 3 0, .ref 136, .bool true, .int 276 0, .ref 137, .none, .ref 138, .ref 139, .ref 140, .int 619 0, .int 177 0, .str "/claim/cut.py" 620] }),
  (146, { cls := .type "code", data := .fields #[.str "_law_read" 622, .str "_law_read" 623, .str "/claim/cut.py" 624, .int 192 0, .int 2 0, .int 0 0, .int 0 0, .int 3 0, .ref 143, .bool true, .int 276 0, .ref 144, .none, .none, .none, .ref 145, .int 625 0, .int 192 0, .str "/claim/cut.py" 626] }),
  (151, { cls := .type "code", data := .fields #[.str "law" 628, .str "law" 629, .str "/claim/cut.py" 630, .int 195 0, .int 1 0, .int 0 0, .int 0 0, .int 3 0, .ref 148, .bool true, .int 276 0, .ref 149, .none, .none, .none, .ref 150, .int 631 0, .int 195 0, .str "/claim/cut.py" 632] }),
  (42, o42),
  (43, o43),
  (52, o52),
  (99, o99)]
noncomputable def kA : List Addr := [3, 50, 62, 69, 76, 83, 90, 98, 106, 113, 120, 125, 130, 135, 142, 147, 152, 49, 61, 68, 75, 82, 89, 97, 105, 112, 119, 124, 129, 134, 141, 146, 151, 42, 43, 52, 99]
/-- the first row of the text, and law -/
noncomputable def viewQ : Program := { PW with main := { PW.main with body := PW.main.body.take 1 ++ PW.main.body.drop 27 } }
noncomputable def looseL : List Str := ["_wall", "_twin_re_1", "translate", "_special_chars_map", "escape", "_translate", "_join_translated_parts", "_buffer", "_truth", "_B64", "b2a_base64", "b64encode", "_parse_varint", "_law_alphabet", "_law_digits", "_law_rows", "_law_pattern", "_law_fits", "_law_read"]
noncomputable abbrev hkS : Hook := kmHook kS kA (fun _ => rfl) [64]
noncomputable abbrev xtS (s : Shared) : Bool := xlAt viewQ [] s && recOk (RowW.records PySem.Challenge.rw_in0179_01.row.toRowW) s
/-- a run of the top in a world -/
noncomputable def RunsTo (w : World) : Prop := (openEnds treeTable PW w 4000).map (fun s => (openSeen viewQ looseL (importedModules PW.main.body) xtS true s, hkS.obs s)) = some (openGood viewQ looseL, hkS.val w)
theorem run_ff : ∀ w : World, RunsTo ((w.withFollow "special-get-raises" false).withFollow "comprehension-iter-twice" false) := fun w => by
  unfold RunsTo openEnds fencedOpening topFrom
  rw [PySem.W.Fast.te10274390034422433532, PySem.W.Fast.te14082659384304107361, PySem.W.Fast.te14364793385576792824, PySem.W.Fast.te14289696077712309145]
  kernel_rfl
theorem run_ft : ∀ w : World, RunsTo ((w.withFollow "special-get-raises" false).withFollow "comprehension-iter-twice" true) := fun w => by
  unfold RunsTo openEnds fencedOpening topFrom
  rw [PySem.W.Fast.te10274390034422433532, PySem.W.Fast.te14082659384304107361, PySem.W.Fast.te14364793385576792824, PySem.W.Fast.te14289696077712309145]
  kernel_rfl
theorem run_tf : ∀ w : World, RunsTo ((w.withFollow "special-get-raises" true).withFollow "comprehension-iter-twice" false) := fun w => by
  unfold RunsTo openEnds fencedOpening topFrom
  rw [PySem.W.Fast.te10274390034422433532, PySem.W.Fast.te14082659384304107361, PySem.W.Fast.te14364793385576792824, PySem.W.Fast.te14289696077712309145]
  kernel_rfl
theorem run_tt : ∀ w : World, RunsTo ((w.withFollow "special-get-raises" true).withFollow "comprehension-iter-twice" true) := fun w => by
  unfold RunsTo openEnds fencedOpening topFrom
  rw [PySem.W.Fast.te10274390034422433532, PySem.W.Fast.te14082659384304107361, PySem.W.Fast.te14364793385576792824, PySem.W.Fast.te14289696077712309145]
  kernel_rfl
theorem runs_all : ∀ w : World, RunsTo w :=
  byRow2 "comprehension-iter-twice" (P := RunsTo) (byRow2 "special-get-raises" (P := fun w => RunsTo (w.withFollow "comprehension-iter-twice" false)) run_ff run_tf) (byRow2 "special-get-raises" (P := fun w => RunsTo (w.withFollow "comprehension-iter-twice" true)) run_ft run_tt)
theorem left_all : LeftO PW viewQ looseL xtS hkS.obs hkS.val 4000 := fun w => runs_all w
end Mine
end
section
open PySem PySem.W PyProof.Rows PySem.Calls PySem.Spec
set_option maxRecDepth 100000
namespace Mine
section
variable {P : Params} {h : Heap} {mg mb : Str → Option Value} {p : Program} {loose : List Str} {mean : ExcName → Option Value}
theorem mg_all (X : (kS P).In h) (G : h.Ns mainGlobals mg) : ∀ q ∈ gtab, mg (Str.ofString q.1) = q.2 := by
  unfold gtab
  repeat' (first | exact List.forall_mem_nil _ | refine List.forall_mem_cons.mpr ⟨?_, ?_⟩)
  all_goals (first | exact mg_of X G (by kernel_rfl) | exact mg_none_of X G (by kernel_rfl))
theorem mb_all (b : ∀ x : Str, x ≠ "__name__" → mb x = bootBuiltins x) : ∀ q ∈ btab, mb (Str.ofString q.1) = some q.2 := by
  unfold btab
  repeat' (first | exact List.forall_mem_nil _ | refine List.forall_mem_cons.mpr ⟨?_, ?_⟩)
  all_goals exact (b _ (by decide)).trans (by kernel_rfl)
theorem obs_all (X : (kS P).In h) : ∀ q ∈ oTab, h.get? q.1 = some q.2 := by
  unfold oTab
  repeat' (first | exact List.forall_mem_nil _ | refine List.forall_mem_cons.mpr ⟨?_, ?_⟩)
  all_goals exact X _ _ (by kernel_rfl)
theorem fns_all (X : (kS P).In h) : ∀ q ∈ fnTab, FnAt h q.1 q.2.1 q.2.2.1 q.2.2.2.1 q.2.2.2.2 := by
  unfold fnTab
  repeat' (first | exact List.forall_mem_nil _ | refine List.forall_mem_cons.mpr ⟨?_, ?_⟩)
  all_goals exact ⟨_, _, _, _, _, X _ _ rfl, ⟨_, _, _, _, rfl, X _ _ rfl, rfl, rfl⟩⟩
theorem bmod_start (T : Top p loose mean mg mb h) (t : h.get? PT = some (tabObj #[])) : h.BuiltinsAt mg PT := by
  obtain ⟨bm, ob, a1, a2, a3, a4, a5, a6⟩ := T.bmain
  refine ⟨bm, ob, a1, a2, fun z => ?_, fun z => ?_, a3, a4, a5, a6⟩
  · obtain ⟨o, es, ep, e, d, _⟩ := T.g
    rw [z, e] at a3
    cases a3
    rw [d] at a6
    cases a6
  · rw [z, t] at a3
    cases a3
    cases a4
theorem sta_start (X : (kS P).In h) (T : Top p loose mean mg mb h) (t : h.get? PT = some (tabObj #[])) : Sta No h where
  low := fun b y => y.elim
  ns := ⟨mg, T.g, mg_all X T.g, bmod_start T t⟩
  bn := ⟨mb, T.b, mb_all T.builtins⟩
  lim := T.nolimit
  tab := ⟨#[], t, trivial⟩
  fns := fns_all X
  obs := obs_all X
  cod := codeHd_of_K X (by kernel_rfl)
end
theorem said_all : OpenLaw.wellSaid PySem.Challenge.rw_in0179_01 = true := by
  rw [PySem.W.Fast.te9446332074065402090]
  kernel_rfl
end Mine
end
section
open PySem PySem.W PyProof.Rows PySem.Calls PySem.Spec
set_option maxRecDepth 100000
namespace Mine
noncomputable abbrev RW := PySem.Challenge.rw_in0179_01.row
noncomputable def lawRec : DefRec := { name := "law", params := (theFn 27).2.1, body := (theFn 27).2.2.1, scope := (theFn 27).2.2.2, pos := ⟨195, 0, 206, 109⟩ }
theorem f_def : defOf viewQ "law" = some (lawRec, []) := by kernel_rfl
theorem f_the : PW.theDef "law" = some (lawRec.params, lawRec.body, lawRec.scope) := by kernel_rfl
theorem f_kw : kwWritten? lawRec.params.kwonlyargs lawRec.params.kw_defaults = some [] := by kernel_rfl
theorem f_ok : (chainsOk viewQ && opensWell PW && (frees RW.toRowW && RW.within.isEmpty)) = true := by kernel_rfl
theorem f_bare : PW.bare := ⟨rfl, rfl, rfl, rfl, rfl, by decide +kernel⟩
theorem f_wit : RowW.promised RW.toRowW := ⟨[.list []], by decide +kernel, by decide +kernel⟩
end Mine
end
section
open PySem PySem.W PyProof.Rows PySem.Calls PySem.Spec
set_option maxRecDepth 100000
namespace Mine
set_option maxHeartbeats 8000000 in
theorem walk_all : WalkO viewQ looseL (XL viewQ []) hkS.says RW.toRowW lawRec [] fun f vs => PySem.call f vs := by
  intro w s₀ s₁ mg mb G Y fa o pm cd doc dV kV ho hdd hcd hD hmg hg args vals as hpre hlay hrd hwl hlo
  have KX := km_in_of Y
  have hT8 := km_tabs_of Y
  have T := Ground.T G
  have S := sta_start KX T (hT8 64 (.head _))
  have e152 := mg_of (n := Str.ofString "law") KX T.g (v := .ref 152) (by kernel_rfl)
  have efa : fa = 152 := by
    have := hmg.symm.trans e152
    injection this with this
    injection this
  subst efa
  clear hmg e152 ho hdd hcd hD Y
  wrow_args hpre hlay hrd hwl hlo
  rename_i xs _ _ _ _ _ _ _ l vs _ hL _ _ _ hI _ hcond _
  have hlen : xs.length ≤ 63 := by omega
  have hP := hT8 64 (.head _)
  refine (law_ok (w := w) (n := 0) hlen).run No callerA s₁ _ _ [.ref l] ⟨rfl, by decide, by decide⟩ S (.cons (.list hL (fun y => y) (rds_ints hI)) .nil) fun v s' g r => ?_
  cases r
  have keep : ∀ b o, b ≠ 64 → s₁.heap.get? b = some o → s'.heap.get? b = some o := fun b o nb e => g.ext.keep b o nb e
  obtain ⟨ps, eps, _⟩ := g.ext.tab S.tab
  refine ⟨.inl ⟨_, _, [], rfl, raisesW_false (by wrow_none_raised), ReadsW.bool true, by wrow_post, fun _ => ⟨List.nodup_nil, fun _ hm => (nomatch hm)⟩⟩, ⟨fun b o e => ?_, fun b o e => ?_⟩, g.os, .of_eq (g.gens.trans hg)⟩
  · by_cases hb : b = 64
    · subst hb
      rw [hP] at e
      cases e
      exact .inr (.inl ⟨(S.cod.tab hP).isCodeTable, rfl, #[], ps, rfl, by rw [Array.empty_append]; exact eps⟩)
    · exact .inl (keep b o hb e)
  · by_cases hb : b = 64
    · subst hb
      exact ⟨_, eps⟩
    · exact ⟨o, keep b o hb e⟩

theorem fin : PySem.Challenge.rw_in0179_01.Holds :=
  holds_law said_all fun said => holds_open (r := RW) (q := viewQ) (loose := looseL) (Xt := xtS) (XP := XL viewQ []) (Yf := hkS.obs) (Ya := hkS.val) (YP := hkS.says) (d := lawRec) (kwd := []) (N := 4000) left_all (Hook.of hkS) (Hook.keeps hkS) (fun s e => xl_of s (Bool.and_eq_true_iff.mp e).1) XL.keeps f_def f_the f_kw (fun s e => recFacts_of (Bool.and_eq_true_iff.mp e).2) rfl said f_ok f_bare f_wit walk_all
end Mine
end
theorem PySem.Challenge.cw_in0179_01_holds : PySem.Challenge.rw_in0179_01.Holds :=
  Mine.fin
