import PyProof.Rows.All
import Wide.All
import OpenK.AllK
import Wide.FinOn
import KE.KDictList
import PySem.Challenge.RW_pg0193_03
open PySem PySem.W PyProof.Rows
set_option Elab.async false
set_option maxRecDepth 100000
set_option linter.unusedVariables false
set_option compiler.extract_closed false
set_option genSizeOf false
set_option genInjectivity false
namespace Mine
section
set_option maxHeartbeats 8000000
set_option synthInstance.maxSize 1
open_top hd for PySem.Challenge.rw_pg0193_03
end
end Mine
section
namespace Mine
/-- a datum, as a def of the text hands it on -/
inductive D where
  | none | bool (b : Bool) | int (i : Int) | str (x : Str)
  | fn (a : Addr) | bi (id : String) | ty (n : String)
  | tup (l : List D) | lst (l : List D) | dct (l : List (Str × Str)) | ls0 (l : List D)
  | ob (q : Addr) (fo : Obj) (objs : List (Addr × Obj)) (ds : List D) (vs : List Value)

noncomputable def DEs (P : Params) : List DictEntry → List (Str × Str) → Prop
  | [], l => l = []
  | e :: r, l => ∃ x y q, l = (x, y) :: q ∧ (∃ t u, e.key = .str x t ∧ e.val = .str y u) ∧ e.hash = PyData.keyHash P x ∧ DEs P r q
noncomputable def DctAt (P : Params) (h : Heap) (a : Addr) (l : List (Str × Str)) : Prop :=
  (a == sysModules) = false ∧ ∃ es : Array DictEntry, ∃ n, h.get? a = some { cls := .type "dict", data := .dict es n } ∧ DEs P es.toList l

mutual
/-- the value bears the datum, at places that are none of av -/
noncomputable def Rep (P : Params) (av : List Addr) (h : Heap) : D → Value → Prop
  | .none, v => v = .none
  | .bool b, v => v = .bool b
  | .int i, v => ∃ t, v = .int i t
  | .str x, v => ∃ t, v = .str x t
  | .fn a, v => v = .ref a
  | .bi i, v => v = .builtin i
  | .ty n, v => v = .type n
  | .tup ds, v => ∃ a vs, v = .ref a ∧ a ∉ av ∧ IsTup h a (List.toArray vs) ∧ RepL P av h ds vs
  | .lst ds, v => ∃ a vs, v = .ref a ∧ a ∉ av ∧ h.PlainList a (List.toArray vs) ∧ RepL P av h ds vs
  | .ls0 ds, v => ∃ a vs, v = .ref a ∧ a ∉ av ∧ h.IsList a (List.toArray vs) ∧ RepL P av h ds vs
  | .dct l, v => ∃ a, v = .ref a ∧ a ∉ av ∧ DctAt P h a l
  | .ob q fo objs ds vs, v => v = .ref q ∧ q ∉ av ∧ h.get? q = some fo ∧ (∀ p ∈ objs, p.1 ∉ av ∧ h.get? p.1 = some p.2) ∧ RepL P av h ds vs
noncomputable def RepL (P : Params) (av : List Addr) (h : Heap) : List D → List Value → Prop
  | [], vs => vs = []
  | d :: ds, vs => ∃ v r, vs = v :: r ∧ Rep P av h d v ∧ RepL P av h ds r
end

section
variable {P : Params} {av av' : List Addr} {h h' : Heap}

theorem isList_at {a : Addr} {its : Array Value} (x : h.IsList a its) (k : ∀ o, h.get? a = some o → h'.get? a = some o) : h'.IsList a its :=
  let ⟨o, e, r⟩ := x; ⟨o, k _ e, r⟩
theorem isTup_at {a : Addr} {its : Array Value} (x : IsTup h a its) (k : ∀ o, h.get? a = some o → h'.get? a = some o) : IsTup h' a its :=
  let ⟨o, e, r⟩ := x; ⟨o, k _ e, r⟩

mutual
theorem Rep.mono (hk : ∀ b o, b ∉ av → h.get? b = some o → h'.get? b = some o) (hs : ∀ b, b ∈ av' → (∃ o, h.get? b = some o) → b ∈ av) : ∀ {d : D} {v : Value}, Rep P av h d v → Rep P av' h' d v
  | .none, _, x | .bool _, _, x | .int _, _, x | .str _, _, x | .fn _, _, x | .bi _, _, x | .ty _, _, x => by simpa only [Rep] using x
  | .tup _, _, x => by
    simp only [Rep] at x ⊢
    obtain ⟨a, vs, rfl, ha, hl, hr⟩ := x
    exact ⟨a, vs, rfl, fun q => ha (hs a q (let ⟨o, e, _⟩ := hl; ⟨o, e⟩)), isTup_at hl fun o => hk a o ha, RepL.mono hk hs hr⟩
  | .lst _, _, x => by
    simp only [Rep] at x ⊢
    obtain ⟨a, vs, rfl, ha, hl, hr⟩ := x
    exact ⟨a, vs, rfl, fun q => ha (hs a q (let ⟨_, e⟩ := hl; ⟨_, e⟩)), hl.at fun o => hk a o ha, RepL.mono hk hs hr⟩
  | .ls0 _, _, x => by
    simp only [Rep] at x ⊢
    obtain ⟨a, vs, rfl, ha, hl, hr⟩ := x
    exact ⟨a, vs, rfl, fun q => ha (hs a q (let ⟨o, e, _⟩ := hl; ⟨o, e⟩)), isList_at hl fun o => hk a o ha, RepL.mono hk hs hr⟩
  | .ob _ _ _ _ _, _, x => by
    simp only [Rep] at x ⊢
    obtain ⟨e, hq, h1, h2, hr⟩ := x
    exact ⟨e, fun q => hq (hs _ q ⟨_, h1⟩), hk _ _ hq h1, fun p hp => ⟨fun q => (h2 p hp).1 (hs _ q ⟨_, (h2 p hp).2⟩), hk _ _ (h2 p hp).1 (h2 p hp).2⟩, RepL.mono hk hs hr⟩
  | .dct _, _, x => by
    simp only [Rep] at x ⊢
    obtain ⟨a, rfl, ha, hm, es, n, e, r⟩ := x
    exact ⟨a, rfl, fun q => ha (hs a q ⟨_, e⟩), hm, es, n, hk a _ ha e, r⟩
theorem RepL.mono (hk : ∀ b o, b ∉ av → h.get? b = some o → h'.get? b = some o) (hs : ∀ b, b ∈ av' → (∃ o, h.get? b = some o) → b ∈ av) : ∀ {ds : List D} {vs : List Value}, RepL P av h ds vs → RepL P av' h' ds vs
  | [], _, x => by simpa only [RepL] using x
  | _ :: _, _, x => by
    simp only [RepL] at x ⊢
    obtain ⟨v, r, rfl, h1, h2⟩ := x
    exact ⟨v, r, rfl, Rep.mono hk hs h1, RepL.mono hk hs h2⟩
end

theorem RepL.length : ∀ {ds : List D} {vs : List Value}, RepL P av h ds vs → vs.length = ds.length
  | [], _, x => by simp only [RepL] at x; rw [x]; rfl
  | _ :: _, _, x => by simp only [RepL] at x; obtain ⟨v, r, rfl, _, h2⟩ := x; simp only [List.length_cons, RepL.length h2]
theorem RepL.get : ∀ {ds : List D} {vs : List Value}, RepL P av h ds vs → ∀ {i : Nat} {d : D}, ds[i]? = some d → ∃ v, vs[i]? = some v ∧ Rep P av h d v
  | [], _, _, _, _, e => by simp at e
  | _ :: _, _, x, 0, d, e => by simp only [RepL] at x; obtain ⟨v, r, rfl, h1, h2⟩ := x; simp at e; subst e; exact ⟨v, rfl, h1⟩
  | _ :: _, _, x, i + 1, d, e => by simp only [RepL] at x; obtain ⟨v, r, rfl, h1, h2⟩ := x; simp at e; simpa using RepL.get h2 e
theorem RepL.append : ∀ {ds es : List D} {vs us : List Value}, RepL P av h ds vs → RepL P av h es us → RepL P av h (ds ++ es) (vs ++ us)
  | [], _, _, _, x, y => by simp only [RepL] at x; subst x; simpa using y
  | _ :: _, _, _, _, x, y => by
    simp only [RepL] at x; obtain ⟨v, r, rfl, h1, h2⟩ := x
    simp only [List.cons_append, RepL]; exact ⟨v, _, rfl, h1, RepL.append h2 y⟩
theorem RepL.nil : RepL P av h [] [] := by simp only [RepL]
theorem RepL.cons {d : D} {ds : List D} {v : Value} {vs : List Value} (x : Rep P av h d v) (y : RepL P av h ds vs) : RepL P av h (d :: ds) (v :: vs) := by simp only [RepL]; exact ⟨v, vs, rfl, x, y⟩
theorem RepL.one {d : D} {v : Value} (x : Rep P av h d v) : RepL P av h [d] [v] := .cons x .nil
theorem RepL.reverse : ∀ {ds : List D} {vs : List Value}, RepL P av h ds vs → RepL P av h ds.reverse vs.reverse
  | [], _, x => by simp only [RepL] at x; subst x; exact .nil
  | _ :: _, _, x => by
    simp only [RepL] at x; obtain ⟨v, r, rfl, h1, h2⟩ := x
    simp only [List.reverse_cons]; exact RepL.append (RepL.reverse h2) (.one h1)
theorem RepL.inv {d : D} {ds : List D} {vs : List Value} (x : RepL P av h (d :: ds) vs) : ∃ v r, vs = v :: r ∧ Rep P av h d v ∧ RepL P av h ds r := by simpa only [RepL] using x
theorem RepL.inv0 {vs : List Value} (x : RepL P av h [] vs) : vs = [] := by simpa only [RepL] using x
theorem RepL.drop : ∀ {ds : List D} {vs : List Value} (k : Nat), RepL P av h ds vs → RepL P av h (ds.drop k) (vs.drop k)
  | _, _, 0, x => x
  | [], _, k + 1, x => by simp only [RepL] at x; subst x; exact .nil
  | _ :: _, _, k + 1, x => by obtain ⟨v, r, rfl, _, h2⟩ := x.inv; exact RepL.drop k h2
theorem RepL.take : ∀ {ds : List D} {vs : List Value} (k : Nat), RepL P av h ds vs → RepL P av h (ds.take k) (vs.take k)
  | _, _, 0, _ => .nil
  | [], _, k + 1, x => by simp only [RepL] at x; subst x; exact .nil
  | _ :: _, _, k + 1, x => by obtain ⟨v, r, rfl, h1, h2⟩ := x.inv; exact .cons h1 (RepL.take k h2)
end

/-- the first making of an inner def writes its code into the outer code's table -/
structure Tab where
  c : Addr
  P : Addr
  line : Int
  col : Int
  qual : Str

noncomputable def TabOk (av : List Addr) (h : Heap) (t : Tab) : Prop :=
  ∃ ps, h.get? t.P = some (tabObj ps) ∧ (ps = #[] ∨ ∃ c', ps = #[rawInt t.line, rawInt t.col, .ref c'] ∧ c' ∉ av ∧ h.CodeRec (.ref c') t.qual)

/-- what stands still during the law's call -/
structure Cst where
  prog : Program
  w : World
  K : Frag
  G : Heap
  mg : Str → Option Value
  mb : Str → Option Value
  tabs : List Tab
  os : OsState
  X : K.In G
  g : G.Ns mainGlobals mg
  b : G.Ns builtinsNs mb
  nolimit : G.NoLimit
  builtins : ∀ x : Str, x ≠ "__name__" → mb x = bootBuiltins x
  bmain : ∃ bm ob, mg "__builtins__" = some (.ref bm) ∧ bm ≠ builtinsNs ∧ G.get? bm = some ob ∧ ob.cls = .type "module" ∧ ob.dict = some builtinsNs ∧ ob.data = .plain
  hd : ∀ t ∈ tabs, CodeHd G t.c t.P
  tinj : ∀ t ∈ tabs, ∀ t' ∈ tabs, t.P = t'.P → t = t'

namespace Cst
variable (C : Cst)
noncomputable abbrev M : Model := model C.prog C.w
noncomputable abbrev P : Params := C.w.params
noncomputable def TP : List Addr := C.tabs.map (·.P)
end Cst

variable (C : Cst)

structure Wd (av : List Addr) (s : Shared) : Prop where
  sub : ∀ b o, C.G.get? b = some o → s.heap.get? b = some o
  out : ∀ a ∈ av, C.G.get? a = none
  live : ∀ a ∈ av, ∃ o, s.heap.get? a = some o
  tabs : ∀ t ∈ C.tabs, t.P ∈ av ∧ TabOk av s.heap t
  gens : s.gens = #[]
  os : s.os = C.os

/-- all that stood but the tables stands -/
noncomputable def Ext (h h' : Heap) : Prop := ∀ b o, b ∉ C.TP → h.get? b = some o → h'.get? b = some o

variable {C}
theorem Ext.refl (h : Heap) : Ext C h h := fun _ _ _ e => e
theorem Ext.trans {h₁ h₂ h₃ : Heap} (x : Ext C h₁ h₂) (y : Ext C h₂ h₃) : Ext C h₁ h₃ := fun b o hb e => y b o hb (x b o hb e)
theorem Ext.of_keep {h h' : Heap} (k : ∀ b o, h.get? b = some o → h'.get? b = some o) : Ext C h h' := fun b o _ e => k b o e

theorem Wd.tp {av : List Addr} {s : Shared} (W : Wd C av s) {a : Addr} (h : a ∈ C.TP) : a ∈ av := by
  obtain ⟨t, ht, rfl⟩ := List.mem_map.mp h
  exact (W.tabs t ht).1

theorem Rep.ext {av : List Addr} {s s' : Shared} {d : D} {v : Value} (x : Rep C.P av s.heap d v) (W : Wd C av s) (e : Ext C s.heap s'.heap) : Rep C.P av s'.heap d v :=
  x.mono (fun b o hb q => e b o (fun m => hb (W.tp m)) q) fun _ hb _ => hb
theorem RepL.ext {av : List Addr} {s s' : Shared} {d : List D} {v : List Value} (x : RepL C.P av s.heap d v) (W : Wd C av s) (e : Ext C s.heap s'.heap) : RepL C.P av s'.heap d v :=
  x.mono (fun b o hb q => e b o (fun m => hb (W.tp m)) q) fun _ hb _ => hb

theorem TabOk.mono {av av' : List Addr} {h h' : Heap} {t : Tab} (x : TabOk av h t) (hP : ∀ o, h.get? t.P = some o → h'.get? t.P = some o) (hk : ∀ b o, b ∉ av → h.get? b = some o → h'.get? b = some o)
    (hs : ∀ b, b ∈ av' → (∃ o, h.get? b = some o) → b ∈ av) : TabOk av' h' t := by
  obtain ⟨ps, e, r⟩ := x
  refine ⟨ps, hP _ e, r.imp id fun ⟨c', e1, e2, e3⟩ => ?_⟩
  obtain ⟨c, oc, vs, tq, q1, q2, q3, q4⟩ := e3
  cases q1
  exact ⟨c', e1, fun m => e2 (hs c' m ⟨_, q2⟩), c', oc, vs, tq, rfl, hk _ _ e2 q2, q3, q4⟩

/-- the heap moved at av alone, or grew -/
theorem Wd.move {av : List Addr} {s s' : Shared} (W : Wd C av s) (hg : s'.gens = s.gens) (ho : s'.os = s.os) (hk : ∀ b o, b ∉ av → s.heap.get? b = some o → s'.heap.get? b = some o)
    (hl : ∀ a ∈ av, ∃ o, s'.heap.get? a = some o) (ht : ∀ t ∈ C.tabs, ∀ o, s.heap.get? t.P = some o → s'.heap.get? t.P = some o) : Wd C av s' where
  sub := fun b o e => hk b o (fun m => by rw [W.out b m] at e; cases e) (W.sub b o e)
  out := W.out
  live := hl
  tabs := fun t h => ⟨(W.tabs t h).1, (W.tabs t h).2.mono (ht t h) hk fun _ hb _ => hb⟩
  gens := hg.trans W.gens
  os := ho.trans W.os

/-- the heap grew -/
theorem Wd.grow {av : List Addr} {s s' : Shared} (W : Wd C av s) (hg : s'.gens = s.gens) (ho : s'.os = s.os) (hk : ∀ b o, s.heap.get? b = some o → s'.heap.get? b = some o) : Wd C av s' :=
  W.move hg ho (fun b o _ e => hk b o e) (fun a h => let ⟨o, e⟩ := W.live a h; ⟨o, hk _ _ e⟩) fun _ _ _ e => hk _ _ e
theorem Wd.toks {av : List Addr} {s : Shared} (W : Wd C av s) (t : Nat) : Wd C av { s with toks := t } := ⟨W.sub, W.out, W.live, W.tabs, W.gens, W.os⟩

/-- fewer places set aside -/
theorem Wd.less {av av' : List Addr} {s : Shared} (W : Wd C av s) (h : ∀ a ∈ av', a ∈ av) (ht : ∀ t ∈ C.tabs, t.P ∈ av') : Wd C av' s where
  sub := W.sub
  out := fun a m => W.out a (h a m)
  live := fun a m => W.live a (h a m)
  tabs := fun t m => ⟨ht t m, (W.tabs t m).2.mono (fun _ e => e) (fun _ _ _ e => e) fun b hb _ => h b hb⟩
  gens := W.gens
  os := W.os

theorem fresh_none {h : Heap} {a : Addr} (ha : h.objs.size ≤ a) : h.get? a = none := Heap.get?_none_of_le ha

/-- a new place set aside -/
theorem Wd.aside {av : List Addr} {s s' : Shared} {a : Addr} {o : Obj} (W : Wd C av s) (hg : s'.gens = s.gens) (ho : s'.os = s.os) (hk : ∀ b o, s.heap.get? b = some o → s'.heap.get? b = some o)
    (hn : s.heap.get? a = none) (ha : s'.heap.get? a = some o) : Wd C (a :: av) s' := by
  have W' := W.grow hg ho hk
  refine ⟨W'.sub, fun b m => ?_, fun b m => ?_, fun t m => ⟨List.mem_cons_of_mem _ (W'.tabs t m).1, ?_⟩, W'.gens, W'.os⟩
  · rcases List.mem_cons.mp m with rfl | m
    · cases q : C.G.get? b with
      | none => rfl
      | some o' => rw [W.sub _ _ q] at hn; cases hn
    · exact W.out b m
  · rcases List.mem_cons.mp m with rfl | m
    · exact ⟨o, ha⟩
    · exact W'.live b m
  · refine (W.tabs t m).2.mono (fun o e => hk _ _ e) (fun b o _ e => hk b o e) fun b hb hx => ?_
    rcases List.mem_cons.mp hb with rfl | hb
    · obtain ⟨o', e⟩ := hx; rw [hn] at e; cases e
    · exact hb
theorem Rep.aside {P : Params} {av : List Addr} {h h' : Heap} {a : Addr} {d : D} {v : Value} (x : Rep P av h d v) (hk : ∀ b o, h.get? b = some o → h'.get? b = some o) (hn : h.get? a = none) : Rep P (a :: av) h' d v :=
  x.mono (fun b o _ e => hk b o e) fun b hb hx => by
    rcases List.mem_cons.mp hb with rfl | hb
    · obtain ⟨o', e⟩ := hx; rw [hn] at e; cases e
    · exact hb

end Mine
end
section
namespace Mine
/-- what a name bears: a datum that stands, or a list of the frame's own that still turns -/
inductive LD where
  | val (d : D) | own (ds : List D)
noncomputable abbrev Sto := List (Str × LD)

structure Fm where
  env : Env
  mc : List Addr
noncomputable def Fm.mut (f : Fm) (ow : List (Str × Addr)) : List Addr := f.env.locals :: (f.mc ++ ow.map (·.2))

noncomputable def Held (P : Params) (av : List Addr) (h : Heap) (ow : List (Str × Addr)) (x : Str) : LD → Value → Prop
  | .val d, v => Rep P av h d v
  | .own ds, v => ∃ a vs, v = .ref a ∧ ow.lookup x = some a ∧ h.PlainList a (List.toArray vs) ∧ RepL P av h ds vs

noncomputable def AtVar (env : Env) (m : Str → Option Value) (h : Heap) (x : Str) (v : Value) : Prop :=
  (env.kindOf x = some .local ∧ m x = some v) ∨ ((env.kindOf x = some .cell ∨ env.kindOf x = some .free) ∧ ∃ c, env.cells.lookup x = some c ∧ h.IsCell c (some v))

structure FS (C : Cst) (f : Fm) (σ : Sto) (ow : List (Str × Addr)) (gs : List (D × Value)) (av : List Addr) (s : Shared) : Prop where
  ek : f.env.scope.kind = .function ∧ f.env.globals = mainGlobals ∧ f.env.builtins = builtinsNs
  tp : ∀ a ∈ C.TP, a ∈ av
  wd : Wd C (f.mut ow ++ av) s
  nd : (f.mut ow).Nodup
  dj : ∀ a ∈ f.mut ow, a ∉ av
  ci : ∀ x y c, f.env.cells.lookup x = some c → f.env.cells.lookup y = some c → x = y
  cl : ∀ x c, f.env.cells.lookup x = some c → ∃ v, s.heap.IsCell c v
  vars : ∃ m, s.heap.Ns f.env.locals m ∧ ∀ x ld, σ.lookup x = some ld → ∃ v, AtVar f.env m s.heap x v ∧ Held C.P (f.mut ow ++ av) s.heap ow x ld v
  gh : ∀ p ∈ gs, Rep C.P (f.mut ow ++ av) s.heap p.1 p.2

structure Room (n : Nat) (A : Around) : Prop where
  hd : A.handled = none
  dp : A.depth + n ≤ 1000
  un : A.units + 4 * n + 8 ≤ 9900
theorem Room.le {n m : Nat} {A : Around} (R : Room n A) (h : m ≤ n) : Room m A := ⟨R.hd, by have := R.dp; lia, by have := R.un; lia⟩
theorem Room.deeper {n : Nat} {A : Around} (R : Room (n + 1) A) (env : Env) : Room n (A.deeper env) := ⟨R.hd, by have := R.dp; simp only [Around.deeper]; lia, by have := R.un; simp only [Around.deeper]; lia⟩
theorem Room.lim {n : Nat} {A : Around} (R : Room (n + 1) A) : A.depth < recursionLimit := by have := R.dp; simp only [recursionLimit]; lia
section
variable {C : Cst} {f : Fm} {σ : Sto} {ow : List (Str × Addr)} {gs : List (D × Value)} {av : List Addr} {s s' : Shared}

theorem Held.mono {P : Params} {av av' : List Addr} {h h' : Heap} {x : Str} {ld : LD} {v : Value} (X : Held P av h ow x ld v) (hk : ∀ b o, b ∉ av → h.get? b = some o → h'.get? b = some o) (hs : ∀ b, b ∈ av' → (∃ o, h.get? b = some o) → b ∈ av)
    (ho : ∀ a, ow.lookup x = some a → ∀ o, h.get? a = some o → h'.get? a = some o) : Held P av' h' ow x ld v := by
  cases ld with
  | val d => exact Rep.mono hk hs X
  | own ds => obtain ⟨a, vs, e, h1, h2, h3⟩ := X; exact ⟨a, vs, e, h1, h2.at (ho a h1), RepL.mono hk hs h3⟩

theorem FS.tab_obj (F : FS C f σ ow gs av s) {a : Addr} (ha : a ∈ C.TP) : ∃ ps, s.heap.get? a = some (tabObj ps) := by
  obtain ⟨t, ht, rfl⟩ := List.mem_map.mp ha
  obtain ⟨ps, e, _⟩ := (F.wd.tabs t ht).2
  exact ⟨ps, e⟩
theorem FS.cell_tp (F : FS C f σ ow gs av s) {c : Addr} {v : Option Value} (hc : s.heap.IsCell c v) : c ∉ C.TP := fun m => by
  obtain ⟨ps, e⟩ := F.tab_obj m
  obtain ⟨o, e', hd⟩ := hc
  rw [e] at e'; cases e'; cases hd
theorem FS.mut_tp (F : FS C f σ ow gs av s) {a : Addr} (ha : a ∈ f.mut ow) : a ∉ C.TP := fun m => F.dj a ha (F.tp a m)
theorem FS.own_mem (_F : FS C f σ ow gs av s) {x : Str} {a : Addr} (h : ow.lookup x = some a) : a ∈ f.mut ow :=
  List.mem_cons_of_mem _ (List.mem_append_right _ (List.mem_map_of_mem (mem_of_lookup h)))

theorem isCell_at {h h' : Heap} {c : Addr} {v : Option Value} (x : h.IsCell c v) (k : ∀ o, h.get? c = some o → h'.get? c = some o) : h'.IsCell c v := let ⟨o, e, r⟩ := x; ⟨o, k _ e, r⟩

/-- the frame stands when what stood stands -/
theorem FS.ext (F : FS C f σ ow gs av s) (W : Wd C (f.mut ow ++ av) s') (e : Ext C s.heap s'.heap) : FS C f σ ow gs av s' := by
  obtain ⟨m, hm, hv⟩ := F.vars
  have hk : ∀ b o, b ∉ f.mut ow ++ av → s.heap.get? b = some o → s'.heap.get? b = some o := fun b o hb q => e b o (fun m => hb (F.wd.tp m)) q
  refine ⟨F.ek, F.tp, W, F.nd, F.dj, F.ci, fun x c h => ?_, ⟨m, hm.at' fun o q => e _ _ (F.mut_tp (List.mem_cons_self ..)) q, fun x ld h => ?_⟩, fun p hp => (F.gh p hp).ext F.wd e⟩
  · obtain ⟨v, hc⟩ := F.cl x c h
    exact ⟨v, isCell_at hc fun o q => e _ _ (F.cell_tp hc) q⟩
  · obtain ⟨v, h1, h2⟩ := hv x ld h
    refine ⟨v, h1.imp id fun ⟨k, c, l, hc⟩ => ⟨k, c, l, isCell_at hc fun o q => e _ _ (F.cell_tp hc) q⟩, h2.mono hk (fun _ h _ => h) fun a ha o q => e _ _ (F.mut_tp (F.own_mem ha)) q⟩
theorem FS.toks (F : FS C f σ ow gs av s) (t : Nat) : FS C f σ ow gs av { s with toks := t } := F.ext (F.wd.toks t) (Ext.refl _)
end

section
variable (C : Cst) (n : Nat) (f : Fm) (σ : Sto)

/-- the expression gives the datum -/
noncomputable def Ev (e : Expr) (d : D) : Prop := ∀ A ow gs av s Q E, Room n A → FS C f σ ow gs av s →
  (∀ v s', Wd C (f.mut ow ++ av) s' → Ext C s.heap s'.heap → Rep C.P (f.mut ow ++ av) s'.heap d v → Q v s') → wpAny C.M A (eval e f.env) Q E s
/-- the row of arguments gives the data -/
noncomputable def EvL (pos : Pos) (es : List Expr) (ds : List D) : Prop := ∀ A ow gs av s Q E, Room n A → FS C f σ ow gs av s →
  (∀ vs s', Wd C (f.mut ow ++ av) s' → Ext C s.heap s'.heap → RepL C.P (f.mut ow ++ av) s'.heap ds vs → Q vs s') → wpAny C.M A (spliced (backTo pos (starEach es f.env))) Q E s
/-- the test comes out -/
noncomputable def Tst (e : Expr) (b : Bool) : Prop := ∀ A ow gs av s Q E, Room n A → FS C f σ ow gs av s →
  (∀ s', Wd C (f.mut ow ++ av) s' → Ext C s.heap s'.heap → Q b s') → wpAny C.M A (isTrue e f.env (eval e f.env)) Q E s

noncomputable def Kp (g : Addr → Option Obj) (h : Heap) : Prop := ∀ b o, b ∉ C.TP → g b = some o → h.get? b = some o

inductive Out where
  | next (σ : Sto) | ret (d : D)

noncomputable def OutOk (gs : List (D × Value)) (av : List Addr) (g : Addr → Option Obj) : Out → Flow → Shared → Prop
  | .next σ', fl, s' => fl = .next ∧ ∃ ow', FS C f σ' ow' gs av s' ∧ Kp C g s'.heap ∧ ∀ a ∈ f.mut ow', g a = none
  | .ret d, fl, s' => ∃ v, fl = .ret v ∧ Wd C av s' ∧ Kp C g s'.heap ∧ Rep C.P av s'.heap d v

/-- the statement ends so -/
noncomputable def Ex (st : Stmt) (o : Out) : Prop := ∀ A ow gs av g s Q E, Room n A → FS C f σ ow gs av s → Kp C g s.heap → (∀ a ∈ f.mut ow, g a = none) →
  (∀ fl s', OutOk C f gs av g o fl s' → Q fl s') → wpAny C.M A (exec st f.env) Q E s
noncomputable def Exs (st : List Stmt) (o : Out) : Prop := ∀ A ow gs av g s Q E, Room n A → FS C f σ ow gs av s → Kp C g s.heap → (∀ a ∈ f.mut ow, g a = none) →
  (∀ fl s', OutOk C f gs av g o fl s' → Q fl s') → wpAny C.M A (execs st f.env) Q E s

/-- the callee gives the datum -/
noncomputable def Cal (fd : D) (ds : List D) (r : D) : Prop := ∀ A av s vf vs Q E, Room n A → Wd C av s → (∀ a ∈ C.TP, a ∈ av) → Rep C.P av s.heap fd vf → RepL C.P av s.heap ds vs →
  (∀ v s', Wd C av s' → Ext C s.heap s'.heap → Rep C.P av s'.heap r v → Q v s') → wpAny C.M A (call vf vs []) Q E s
end

section
variable {C : Cst} {n : Nat} {f : Fm} {σ : Sto}

theorem Kp.ext {g : Addr → Option Obj} {h h' : Heap} (k : Kp C g h) (e : Ext C h h') : Kp C g h' := fun b o hb q => e b o hb (k b o hb q)

-- names
theorem ev_local {x : Str} {pos : Pos} {d : D} (hx : f.env.kindOf x = some .local) (hs : σ.lookup x = some (.val d)) (hd : (x == ("__debug__" : Str)) = false := by decide) : Ev C n f σ (.Name x pos) d := by
  intro A ow gs av s Q E _ F h
  obtain ⟨m, hm, hv⟩ := F.vars
  obtain ⟨v, h1, h2⟩ := hv x _ hs
  rcases h1 with ⟨_, h1⟩ | ⟨k, _⟩
  · exact wpAny_Name (wpAny_loadName_local F.ek.1 hx hm h1 (h v s F.wd (Ext.refl _) h2)) hd
  · rw [hx] at k; rcases k with k | k <;> cases k
theorem ev_cell {x : Str} {pos : Pos} {d : D} (hx : f.env.kindOf x = some .cell) (hs : σ.lookup x = some (.val d)) (hd : (x == ("__debug__" : Str)) = false := by decide) : Ev C n f σ (.Name x pos) d := by
  intro A ow gs av s Q E _ F h
  obtain ⟨m, hm, hv⟩ := F.vars
  obtain ⟨v, h1, h2⟩ := hv x _ hs
  rcases h1 with ⟨k, _⟩ | ⟨_, c, hc, hcv⟩
  · rw [hx] at k; cases k
  · exact wpAny_Name (wpAny_loadName_cell F.ek.1 hx hc hcv (h v s F.wd (Ext.refl _) h2)) hd
theorem ev_free {x : Str} {pos : Pos} {d : D} (hx : f.env.kindOf x = some .free) (hs : σ.lookup x = some (.val d)) (hd : (x == ("__debug__" : Str)) = false := by decide) (hc' : (x == ("__classdict__" : Str)) = false := by decide) : Ev C n f σ (.Name x pos) d := by
  intro A ow gs av s Q E _ F h
  obtain ⟨m, hm, hv⟩ := F.vars
  obtain ⟨v, h1, h2⟩ := hv x _ hs
  rcases h1 with ⟨k, _⟩ | ⟨_, c, hc, hcv⟩
  · rw [hx] at k; cases k
  · exact wpAny_Name (wpAny_loadName_free F.ek.1 hx hc hcv (h v s F.wd (Ext.refl _) h2) hc') hd

theorem ev_glob {x : Str} {pos : Pos} {a : Addr} (hx : f.env.kindOf x = some .globalImplicit) (e : nsIn C.K mainGlobals x = some (some (.ref a))) (hd : (x == ("__debug__" : Str)) = false := by decide) : Ev C n f σ (.Name x pos) (.fn a) := by
  intro A ow gs av s Q E _ F h
  refine Calls.Name_function_global F.ek.1 hx (Calls.loadGlobal_global (mg := C.mg) (by rw [F.ek.2.1]; exact C.g.keeps F.wd.sub) (mg_of C.X C.g e) (h _ s F.wd (Ext.refl _) ?_)) hd
  simp only [Rep]
theorem ev_builtin {x : Str} {pos : Pos} {i : String} (hx : f.env.kindOf x = some .globalImplicit) (e : nsIn C.K mainGlobals x = some none) (hv : bootBuiltins x = some (.builtin i)) (hn : x ≠ "__name__") (hd : (x == ("__debug__" : Str)) = false := by decide) : Ev C n f σ (.Name x pos) (.bi i) := by
  intro A ow gs av s Q E _ F h
  refine Calls.Name_function_global F.ek.1 hx (Calls.loadGlobal_builtin (mg := C.mg) (mb := C.mb) (by rw [F.ek.2.1]; exact C.g.keeps F.wd.sub) (mg_none_of C.X C.g e) (by rw [F.ek.2.2]; exact C.b.keeps F.wd.sub) ((C.builtins x hn).trans hv) (h _ s F.wd (Ext.refl _) ?_)) hd
  simp only [Rep]
theorem ev_type {x : Str} {pos : Pos} {i : String} (hx : f.env.kindOf x = some .globalImplicit) (e : nsIn C.K mainGlobals x = some none) (hv : bootBuiltins x = some (.type i)) (hn : x ≠ "__name__") (hd : (x == ("__debug__" : Str)) = false := by decide) : Ev C n f σ (.Name x pos) (.ty i) := by
  intro A ow gs av s Q E _ F h
  refine Calls.Name_function_global F.ek.1 hx (Calls.loadGlobal_builtin (mg := C.mg) (mb := C.mb) (by rw [F.ek.2.1]; exact C.g.keeps F.wd.sub) (mg_none_of C.X C.g e) (by rw [F.ek.2.2]; exact C.b.keeps F.wd.sub) ((C.builtins x hn).trans hv) (h _ s F.wd (Ext.refl _) ?_)) hd
  simp only [Rep]

-- constants
theorem ev_int {i : Int} {k : Nat} {pos : Pos} : Ev C n f σ (.Constant (.int i) k pos) (.int i) := fun A ow gs av s Q E _ F h =>
  wpAny_Constant_int (h _ _ (F.wd.toks _) (Ext.refl _) (by simp only [Rep]; exact ⟨_, rfl⟩))
theorem ev_str {x : Str} {k : Nat} {pos : Pos} : Ev C n f σ (.Constant (.str x) k pos) (.str x) := fun A ow gs av s Q E _ F h =>
  wpAny_Constant_str (h _ _ (F.wd.toks _) (Ext.refl _) (by simp only [Rep]; exact ⟨_, rfl⟩))
theorem ev_none {k : Nat} {pos : Pos} : Ev C n f σ (.Constant .none k pos) .none := fun A ow gs av s Q E _ F h =>
  wpAny_Constant_none (h _ _ F.wd (Ext.refl _) (by simp only [Rep]))

/-- an operation on two data -/
noncomputable def Bop (C : Cst) (n : Nat) (op : Operator) (a b r : D) : Prop := ∀ A av s va vb Q E, Room n A → Wd C av s → (∀ a ∈ C.TP, a ∈ av) → Rep C.P av s.heap a va → Rep C.P av s.heap b vb →
  (∀ v s', Wd C av s' → Ext C s.heap s'.heap → Rep C.P av s'.heap r v → Q v s') → wpAny C.M A (binaryOp op va vb) Q E s
noncomputable def Cmp (C : Cst) (n : Nat) (op : CmpOp) (a b : D) (r : Bool) : Prop := ∀ A av s va vb Q E, Room n A → Wd C av s → (∀ a ∈ C.TP, a ∈ av) → Rep C.P av s.heap a va → Rep C.P av s.heap b vb →
  (∀ s', Wd C av s' → Ext C s.heap s'.heap → Q (.bool r) s') → wpAny C.M A (compareOp op va vb) Q E s

theorem FS.tp' {ow gs av s} (F : FS C f σ ow gs av s) : ∀ a ∈ C.TP, a ∈ f.mut ow ++ av := fun a h => List.mem_append_right _ (F.tp a h)

theorem ev_bin {l r : Expr} {op : Operator} {pos : Pos} {a b c : D} (h1 : Ev C n f σ l a) (h2 : Ev C n f σ r b) (h3 : Bop C n op a b c) : Ev C n f σ (.BinOp l op r pos) c := by
  intro A ow gs av s Q E R F h
  refine wpAny_BinOp (h1 A ow gs av s _ E R F fun va s₁ W₁ e₁ r₁ => ?_)
  have F₁ := F.ext W₁ e₁
  refine h2 A ow gs av s₁ _ E R F₁ fun vb s₂ W₂ e₂ r₂ => ?_
  have F₂ := F₁.ext W₂ e₂
  exact h3 A _ s₂ va vb _ E R W₂ F₂.tp' (r₁.ext W₁ e₂) r₂ fun v s₃ W₃ e₃ r₃ => h v s₃ W₃ ((e₁.trans e₂).trans e₃) r₃
theorem ev_cmp {l r : Expr} {op : CmpOp} {pos : Pos} {a b : D} {c : Bool} (h1 : Ev C n f σ l a) (h2 : Ev C n f σ r b) (h3 : Cmp C n op a b c) (hm : behindInMarks op r = false := by with_unfolding_all rfl) : Ev C n f σ (.Compare l [op] [r] pos) (.bool c) := by
  intro A ow gs av s Q E R F h
  refine wpAny_Compare1 (h1 A ow gs av s _ E R F fun va s₁ W₁ e₁ r₁ => ?_) hm
  have F₁ := F.ext W₁ e₁
  refine h2 A ow gs av s₁ _ E R F₁ fun vb s₂ W₂ e₂ r₂ => ?_
  have F₂ := F₁.ext W₂ e₂
  exact h3 A _ s₂ va vb _ E R W₂ F₂.tp' (r₁.ext W₁ e₂) r₂ fun s₃ W₃ e₃ => h _ s₃ W₃ ((e₁.trans e₂).trans e₃) (by simp only [Rep])
theorem tst_cmp {l r : Expr} {op : CmpOp} {pos : Pos} {a b : D} {c : Bool} (h1 : Ev C n f σ l a) (h2 : Ev C n f σ r b) (h3 : Cmp C n op a b c) (hm : behindInMarks op r = false := by with_unfolding_all rfl) : Tst C n f σ (.Compare l [op] [r] pos) c := by
  intro A ow gs av s Q E R F h
  refine wpAny_isTrue_Compare1 (h1 A ow gs av s _ E R F fun va s₁ W₁ e₁ r₁ => ?_) hm
  have F₁ := F.ext W₁ e₁
  refine h2 A ow gs av s₁ _ E R F₁ fun vb s₂ W₂ e₂ r₂ => ?_
  have F₂ := F₁.ext W₂ e₂
  exact h3 A _ s₂ va vb _ E R W₂ F₂.tp' (r₁.ext W₁ e₂) r₂ fun s₃ W₃ e₃ => wpAny_truthy_bool (h s₃ W₃ ((e₁.trans e₂).trans e₃))

-- argument rows
theorem evl_nil {pos : Pos} : EvL C n f σ pos [] [] := fun A ow gs av s Q E _ F h => wpAny_items_nil (h _ _ F.wd (Ext.refl _) .nil)
theorem evl_cons {pos : Pos} {e : Expr} {es : List Expr} {d : D} {ds : List D} (h1 : Ev C n f σ e d) (h2 : EvL C n f σ pos es ds) (he : starEach (e :: es) f.env = (false, eval e f.env) :: starEach es f.env := by rfl) : EvL C n f σ pos (e :: es) (d :: ds) := by
  intro A ow gs av s Q E R F h
  refine wpAny_items_cons (h1 A ow gs av s _ E R F fun v s₁ W₁ e₁ r₁ => ?_) he
  have F₁ := F.ext W₁ e₁
  exact h2 A ow gs av s₁ _ E R F₁ fun vs s₂ W₂ e₂ r₂ => h _ s₂ W₂ (e₁.trans e₂) (.cons (r₁.ext W₁ e₂) r₂)

-- displays
theorem Wd.push {av : List Addr} {s : Shared} (W : Wd C av s) (o : Obj) : Wd C av { s with heap := s.heap.push o } := W.grow (s' := { s with heap := s.heap.push o }) rfl rfl fun _ _ e => Heap.get?_push_of_some _ e
theorem Ext.push (h : Heap) (o : Obj) : Ext C h (h.push o) := .of_keep fun _ _ e => Heap.get?_push_of_some _ e
theorem Wd.size_notin {av : List Addr} {s : Shared} (W : Wd C av s) : s.heap.objs.size ∉ av := fun m => by obtain ⟨o, e⟩ := W.live _ m; exact Nat.lt_irrefl _ (Heap.lt_size e)

theorem rep_newTup {av : List Addr} {s : Shared} {ds : List D} {vs : List Value} (W : Wd C av s) (r : RepL C.P av s.heap ds vs) : Rep C.P av (s.heap.push { cls := .type "tuple", data := .seq vs.toArray }) (.tup ds) (.ref s.heap.objs.size) := by
  simp only [Rep]
  exact ⟨_, vs, rfl, W.size_notin, IsTup.new _ _, r.mono (fun _ _ _ e => Heap.get?_push_of_some _ e) fun _ h _ => h⟩
theorem rep_newLst {av : List Addr} {s : Shared} {ds : List D} {vs : List Value} (W : Wd C av s) (r : RepL C.P av s.heap ds vs) : Rep C.P av (s.heap.push { cls := .type "list", data := .seq vs.toArray }) (.lst ds) (.ref s.heap.objs.size) := by
  simp only [Rep]
  exact ⟨_, vs, rfl, W.size_notin, ⟨0, Heap.get?_push_size _ rfl⟩, r.mono (fun _ _ _ e => Heap.get?_push_of_some _ e) fun _ h _ => h⟩

theorem ev_tuple {es : List Expr} {k : Nat} {pos : Pos} {ds : List D} (h1 : EvL C n f σ pos es ds) (hl : ds.length ≤ sizeLine := by first | decide | (simp [sizeLine])) : Ev C n f σ (.Tuple es k pos) (.tup ds) := by
  intro A ow gs av s Q E R F h
  refine wpAny_Tuple (h1 A ow gs av s _ E R F fun vs s₁ W₁ e₁ r₁ => ⟨by rw [r₁.length]; exact hl, ?_⟩)
  exact h _ _ (W₁.push _) (e₁.trans (Ext.push _ _)) (rep_newTup W₁ r₁)
theorem ev_list {es : List Expr} {pos : Pos} {ds : List D} (h1 : EvL C n f σ pos es ds) (hl : ds.length ≤ sizeLine := by first | decide | (simp [sizeLine])) : Ev C n f σ (.List es pos) (.lst ds) := by
  intro A ow gs av s Q E R F h
  refine wpAny_List (h1 A ow gs av s _ E R F fun vs s₁ W₁ e₁ r₁ => ⟨by rw [r₁.length]; exact hl, ?_⟩)
  exact h _ _ (W₁.push _) (e₁.trans (Ext.push _ _)) (rep_newLst W₁ r₁)
end
end Mine
end
section
namespace Mine
section
variable {C : Cst} {n : Nat} {f : Fm} {σ : Sto} {ow : List (Str × Addr)} {gs : List (D × Value)} {av : List Addr} {s s' : Shared}

theorem ns_cell_ne {h : Heap} {L c : Addr} {m : Str → Option Value} {v : Option Value} (x : h.Ns L m) (y : h.IsCell c v) : c ≠ L := fun q => by
  obtain ⟨o, es, ep, e, hd, _⟩ := x
  obtain ⟨o', e', hd'⟩ := y
  rw [q, e] at e'; cases e'
  rw [hd] at hd'; cases hd'
theorem ns_live {h : Heap} {L : Addr} {m : Str → Option Value} (x : h.Ns L m) : ∃ o, h.get? L = some o := let ⟨o, _, _, e, _⟩ := x; ⟨o, e⟩
theorem list_ns_ne {h : Heap} {L a : Addr} {m : Str → Option Value} {its : Array Value} (x : h.Ns L m) (y : h.PlainList a its) : a ≠ L := fun q => by
  obtain ⟨o, es, ep, e, hd, _⟩ := x
  obtain ⟨k, e'⟩ := y
  rw [q, e] at e'; cases e'
  cases hd

theorem FS.mut_av (_F : FS C f σ ow gs av s) {a : Addr} (h : a ∈ f.mut ow) : a ∈ f.mut ow ++ av := List.mem_append_left _ h
theorem FS.L_mut (_F : FS C f σ ow gs av s) : f.env.locals ∈ f.mut ow := List.mem_cons_self ..

/-- one place of the frame's own moved: the world stands -/
theorem FS.wd_same (F : FS C f σ ow gs av s) {a : Addr} (ha : a ∈ f.mut ow) {h' : Heap} {tk : Nat} (hs : Heap.SameBut a s.heap h') (hl : ∃ o, h'.get? a = some o) : Wd C (f.mut ow ++ av) { s with heap := h', toks := tk } := by
  refine F.wd.move rfl rfl (fun b o hb e => ?_) (fun b hb => ?_) fun t ht o e => ?_
  · exact (hs.2 b fun q => hb (q ▸ F.mut_av ha)).trans e
  · by_cases q : b = a
    · exact q ▸ hl
    · obtain ⟨o, e⟩ := F.wd.live b hb; exact ⟨o, (hs.2 b q).trans e⟩
  · exact (hs.2 t.P fun q => F.mut_tp ha (q ▸ List.mem_map_of_mem ht)).trans e
theorem FS.kp_same (_F : FS C f σ ow gs av s) {a : Addr} (ha : a ∈ f.mut ow) {g : Addr → Option Obj} (k : Kp C g s.heap) (hg : ∀ a ∈ f.mut ow, g a = none) {h' : Heap} (hs : Heap.SameBut a s.heap h') : Kp C g h' :=
  fun b o hb q => (hs.2 b fun e => by rw [e, hg a ha] at q; cases q).trans (k b o hb q)

/-- a name of the frame's own bears a new datum -/
theorem FS.store_local (F : FS C f σ ow gs av s) {x : Str} {d : LD} {v : Value} (hx : f.env.kindOf x = some .local) (r : Held C.P (f.mut ow ++ av) s.heap ow x d v)
    {m : Str → Option Value} {h' : Heap} {tk : Nat} (hm : s.heap.Ns f.env.locals m) (hn : h'.Ns f.env.locals (fun y => if y = x then some v else m y)) (hs : Heap.SameBut f.env.locals s.heap h') :
    FS C f ((x, d) :: σ) ow gs av { s with heap := h', toks := tk } := by
  have own_ne : ∀ a, ow.lookup x = some a → a ≠ f.env.locals := fun a ha q2 => by
    have nd := F.nd
    rw [Fm.mut, List.nodup_cons] at nd
    exact nd.1 (q2 ▸ List.mem_append_right _ (List.mem_map_of_mem (mem_of_lookup ha)))
  obtain ⟨m₀, hm₀, hv⟩ := F.vars
  have hagree : ∀ y, m₀ y = m y := fun y => hm₀.agree hm y
  have keep : ∀ b o, b ≠ f.env.locals → s.heap.get? b = some o → h'.get? b = some o := fun b o q e => (hs.2 b q).trans e
  have hk : ∀ b o, b ∉ f.mut ow ++ av → s.heap.get? b = some o → h'.get? b = some o := fun b o hb e => keep b o (fun q => hb (q ▸ F.mut_av F.L_mut)) e
  have cellk : ∀ {c : Addr} {w : Option Value}, s.heap.IsCell c w → h'.IsCell c w := fun hc => isCell_at hc fun o e => keep _ o (ns_cell_ne hm hc) e
  refine ⟨F.ek, F.tp, F.wd_same F.L_mut hs (ns_live hn), F.nd, F.dj, F.ci, fun y c h => ?_, ⟨_, hn, fun y ld h => ?_⟩, fun p hp => Rep.mono hk (fun _ h _ => h) (F.gh p hp)⟩
  · obtain ⟨w, hc⟩ := F.cl y c h; exact ⟨w, cellk hc⟩
  · rw [List.lookup_cons] at h
    by_cases q : y = x
    · subst q
      simp only [beq_self_eq_true, Option.some.injEq] at h
      subst h
      exact ⟨v, .inl ⟨hx, if_pos rfl⟩, r.mono hk (fun _ h _ => h) fun a ha o e => keep a o (own_ne a ha) e⟩
    · rw [beq_eq_false_iff_ne.mpr q] at h
      obtain ⟨u, h1, h2⟩ := hv y ld h
      refine ⟨u, ?_, h2.mono hk (fun _ h _ => h) fun a ha o e => keep a o (fun q2 => ?_) e⟩
      · rcases h1 with ⟨k, e⟩ | ⟨k, c, l, hc⟩
        · exact .inl ⟨k, (if_neg q).trans ((hagree y).symm.trans e)⟩
        · exact .inr ⟨k, c, l, cellk hc⟩
      · have nd := F.nd
        rw [Fm.mut, List.nodup_cons] at nd
        exact nd.1 (q2 ▸ List.mem_append_right _ (List.mem_map_of_mem (mem_of_lookup ha)))

theorem FS.store_cell (F : FS C f σ ow gs av s) {x : Str} {d : LD} {v : Value} {c : Addr} (hx : f.env.kindOf x = some .cell) (hc : f.env.cells.lookup x = some c) (hmc : c ∈ f.mc) (r : Held C.P (f.mut ow ++ av) s.heap ow x d v)
    {h' : Heap} {tk : Nat} (hn : h'.IsCell c (some v)) (hs : Heap.SameBut c s.heap h') :
    FS C f ((x, d) :: σ) ow gs av { s with heap := h', toks := tk } := by
  have own_ne : ∀ y a, ow.lookup y = some a → a ≠ c := fun y a ha q2 => by
    have nd := F.nd
    rw [Fm.mut, List.nodup_cons, List.nodup_append] at nd
    exact nd.2.2.2 c hmc a (List.mem_map_of_mem (mem_of_lookup ha)) q2.symm
  obtain ⟨m, hm, hv⟩ := F.vars
  have cm : c ∈ f.mut ow := List.mem_cons_of_mem _ (List.mem_append_left _ hmc)
  have keep : ∀ b o, b ≠ c → s.heap.get? b = some o → h'.get? b = some o := fun b o q e => (hs.2 b q).trans e
  have hk : ∀ b o, b ∉ f.mut ow ++ av → s.heap.get? b = some o → h'.get? b = some o := fun b o hb e => keep b o (fun q => hb (q ▸ F.mut_av cm)) e
  obtain ⟨w₀, hc₀⟩ := F.cl x c hc
  refine ⟨F.ek, F.tp, F.wd_same cm hs (let ⟨o, e, _⟩ := hn; ⟨o, e⟩), F.nd, F.dj, F.ci, fun y c' h => ?_, ⟨m, hm.at' fun o e => keep _ o (Ne.symm (ns_cell_ne hm hc₀)) e, fun y ld h => ?_⟩, fun p hp => Rep.mono hk (fun _ h _ => h) (F.gh p hp)⟩
  · by_cases q : c' = c
    · exact ⟨_, q ▸ hn⟩
    · obtain ⟨w, hc⟩ := F.cl y c' h; exact ⟨w, isCell_at hc fun o e => keep _ o q e⟩
  · rw [List.lookup_cons] at h
    by_cases q : y = x
    · subst q
      simp only [beq_self_eq_true, Option.some.injEq] at h
      subst h
      exact ⟨v, .inr ⟨.inl hx, c, hc, hn⟩, r.mono hk (fun _ h _ => h) fun a ha o e => keep a o (own_ne _ a ha) e⟩
    · rw [beq_eq_false_iff_ne.mpr q] at h
      obtain ⟨u, h1, h2⟩ := hv y ld h
      refine ⟨u, h1.imp id fun ⟨k, c', l, hc'⟩ => ⟨k, c', l, isCell_at hc' fun o e => keep _ o (fun q2 => q (F.ci y x c (q2 ▸ l) hc)) e⟩, h2.mono hk (fun _ h _ => h) fun a ha o e => keep a o (fun q2 => ?_) e⟩
      have nd := F.nd
      rw [Fm.mut, List.nodup_cons, List.nodup_append] at nd
      exact nd.2.2.2 c hmc a (List.mem_map_of_mem (mem_of_lookup ha)) q2.symm

theorem Wd.asides {as : List Addr} (W : Wd C av s) (hg : s'.gens = s.gens) (ho : s'.os = s.os) (hk : ∀ b o, s.heap.get? b = some o → s'.heap.get? b = some o)
    (hn : ∀ a ∈ as, s.heap.get? a = none) (ha : ∀ a ∈ as, ∃ o, s'.heap.get? a = some o) : Wd C (as ++ av) s' := by
  have W' := W.grow hg ho hk
  refine ⟨W'.sub, fun b m => ?_, fun b m => ?_, fun t m => ⟨List.mem_append_right _ (W'.tabs t m).1, ?_⟩, W'.gens, W'.os⟩
  · rcases List.mem_append.mp m with m | m
    · cases q : C.G.get? b with
      | none => rfl
      | some o' => have := hn b m; rw [W.sub _ _ q] at this; cases this
    · exact W.out b m
  · exact (List.mem_append.mp m).elim (ha b) (W'.live b)
  · refine (W.tabs t m).2.mono (fun o e => hk _ _ e) (fun b o _ e => hk b o e) fun b hb ⟨o', e⟩ => ?_
    rcases List.mem_append.mp hb with hb | hb
    · rw [hn b hb] at e; cases e
    · exact hb

/-- how a name is stored -/
theorem st_local {A : Around} {x : Str} {d : LD} {v : Value} {Q : Unit → Shared → Prop} {E : Value → Shared → Prop} (F : FS C f σ ow gs av s) (hx : f.env.kindOf x = some .local) (r : Held C.P (f.mut ow ++ av) s.heap ow x d v)
    (h : ∀ h' tk, FS C f ((x, d) :: σ) ow gs av { s with heap := h', toks := tk } → Heap.SameBut f.env.locals s.heap h' → Q () { s with heap := h', toks := tk }) : wpAny C.M A (storeName f.env x v) Q E s := by
  obtain ⟨m, hm, _⟩ := F.vars
  refine wpAny_storeName_local hx hm (fun h' hn hs => h h' _ (F.store_local hx r hm hn hs) hs) ?_
  rw [F.ek.1]; rfl
theorem st_cell {A : Around} {x : Str} {d : LD} {v : Value} {c : Addr} {Q : Unit → Shared → Prop} {E : Value → Shared → Prop} (F : FS C f σ ow gs av s) (hx : f.env.kindOf x = some .cell) (hc : f.env.cells.lookup x = some c) (hmc : c ∈ f.mc) (r : Held C.P (f.mut ow ++ av) s.heap ow x d v)
    (h : ∀ h', FS C f ((x, d) :: σ) ow gs av { s with heap := h' } → Heap.SameBut c s.heap h' → Q () { s with heap := h' }) : wpAny C.M A (storeName f.env x v) Q E s := by
  obtain ⟨w₀, hc₀⟩ := F.cl x c hc
  exact wpAny_storeName_cell F.ek.1 hx hc hc₀ fun h' hn hs => h h' (F.store_cell (tk := s.toks) hx hc hmc r hn hs) hs

/-- a name that may be stored -/
noncomputable def Stk (f : Fm) (x : Str) : Prop := f.env.kindOf x = some .local ∨ (f.env.kindOf x = some .cell ∧ ∃ c, f.env.cells.lookup x = some c ∧ c ∈ f.mc)
theorem st_any {A : Around} {x : Str} {d : LD} {v : Value} {Q : Unit → Shared → Prop} {E : Value → Shared → Prop} (F : FS C f σ ow gs av s) (hx : Stk f x) (r : Held C.P (f.mut ow ++ av) s.heap ow x d v)
    (h : ∀ h' tk a, a ∈ f.mut ow → FS C f ((x, d) :: σ) ow gs av { s with heap := h', toks := tk } → Heap.SameBut a s.heap h' → Q () { s with heap := h', toks := tk }) : wpAny C.M A (storeName f.env x v) Q E s := by
  rcases hx with hx | ⟨hx, c, hc, hm⟩
  · exact st_local F hx r fun h' tk F' hs => h h' tk _ F.L_mut F' hs
  · exact st_cell F hx hc hm r fun h' F' hs => h h' s.toks c (List.mem_cons_of_mem _ (List.mem_append_left _ hm)) F' hs

-- statements
theorem exs_nil : Exs C n f σ [] (.next σ) := fun A ow gs av g s Q E R F k hg h => wpAny_execs_nil (h _ s ⟨rfl, ow, F, k, hg⟩)
theorem exs_next {st : Stmt} {rest : List Stmt} {σ' : Sto} {o : Out} (h1 : Ex C n f σ st (.next σ')) (h2 : Exs C n f σ' rest o) : Exs C n f σ (st :: rest) o := by
  intro A ow gs av g s Q E R F k hg h
  refine wpAny_execs_cons (h1 A ow gs av g s _ E R F k hg fun fl s' ho => ?_)
  obtain ⟨rfl, ow', F', k', hg'⟩ := ho
  exact h2 A ow' gs av g s' Q E R F' k' hg' h
theorem exs_ret {st : Stmt} {rest : List Stmt} {d : D} (h1 : Ex C n f σ st (.ret d)) : Exs C n f σ (st :: rest) (.ret d) := by
  intro A ow gs av g s Q E R F k hg h
  refine wpAny_execs_cons (h1 A ow gs av g s _ E R F k hg fun fl s' ho => ?_)
  obtain ⟨v, rfl, r⟩ := ho
  exact h _ s' ⟨v, rfl, r⟩
theorem FS.weaken {σ' : Sto} (F : FS C f σ ow gs av s) (hw : ∀ x ld, σ'.lookup x = some ld → σ.lookup x = some ld) : FS C f σ' ow gs av s :=
  ⟨F.ek, F.tp, F.wd, F.nd, F.dj, F.ci, F.cl, let ⟨m, hm, hv⟩ := F.vars; ⟨m, hm, fun x ld e => hv x ld (hw x ld e)⟩, F.gh⟩
theorem exs_out {st : List Stmt} {σ₁ σ₂ : Sto} (hw : ∀ x ld, σ₂.lookup x = some ld → σ₁.lookup x = some ld) (h1 : Exs C n f σ st (.next σ₁)) : Exs C n f σ st (.next σ₂) := by
  intro A ow gs av g s Q E R F k hg h
  refine h1 A ow gs av g s Q E R F k hg fun fl s' ho => ?_
  obtain ⟨rfl, ow', F', r⟩ := ho
  exact h _ s' ⟨rfl, ow', F'.weaken hw, r⟩

theorem ex_assign {x : Str} {p : Pos} {value : Expr} {pos : Pos} {d : D} (h1 : Ev C n f σ value d) (hx : Stk f x) (hs : swapsWith value (some (.Name x p)) pos.line f.env = pure false := by rfl) :
    Ex C n f σ (.Assign [.Name x p] value pos) (.next ((x, .val d) :: σ)) := by
  intro A ow gs av g s Q E R F k hg h
  refine wpAny_Assign_Name (h1 A ow gs av s _ E R F fun v s₁ W₁ e₁ r₁ => ?_) hs
  have F₁ := F.ext W₁ e₁
  refine st_any (d := .val d) F₁ hx r₁ fun h' tk a ha F' hsb => ?_
  exact h _ _ ⟨rfl, ow, F', F₁.kp_same ha (k.ext e₁) hg hsb, hg⟩
theorem ex_return {e : Expr} {pos : Pos} {d : D} (h1 : Ev C n f σ e d) : Ex C n f σ (.Return (some e) pos) (.ret d) := by
  intro A ow gs av g s Q E R F k hg h
  refine wpAny_Return_some (h1 A ow gs av s _ E R F fun v s₁ W₁ e₁ r₁ => ?_)
  refine h _ s₁ ⟨v, rfl, W₁.less (fun a m => List.mem_append_right _ m) (fun t ht => F.tp _ (List.mem_map_of_mem ht)), k.ext e₁, ?_⟩
  exact r₁.mono (fun _ _ _ e => e) fun b hb _ => List.mem_append_right _ hb
theorem ex_if_true {test : Expr} {body orelse : List Stmt} {pos : Pos} {o : Out} (h1 : Tst C n f σ test true) (h2 : Exs C n f σ body o) : Ex C n f σ (.If test body orelse pos) o := by
  intro A ow gs av g s Q E R F k hg h
  refine wpAny_If (h1 A ow gs av s _ E R F fun s₁ W₁ e₁ => ?_)
  exact h2 A ow gs av g s₁ Q E R (F.ext W₁ e₁) (k.ext e₁) hg h
theorem ex_if_false {test : Expr} {body orelse : List Stmt} {pos : Pos} {o : Out} (h1 : Tst C n f σ test false) (h2 : Exs C n f σ orelse o) : Ex C n f σ (.If test body orelse pos) o := by
  intro A ow gs av g s Q E R F k hg h
  refine wpAny_If (h1 A ow gs av s _ E R F fun s₁ W₁ e₁ => ?_)
  exact h2 A ow gs av g s₁ Q E R (F.ext W₁ e₁) (k.ext e₁) hg h

-- the entry of a def
theorem lookup_zip_bind {env : Env} {h : Heap} {P : Params} {av : List Addr} :
    ∀ {names : List Str} {ds : List D} {vs : List Value} {m cm : Str → Option Value}, RepL P av h ds vs → names.Nodup → names.length = ds.length →
      (∀ x ∈ names, env.kindOf x = some .local ∨ env.kindOf x = some .cell) →
      ∀ x ld, List.lookup x (names.zip (ds.map LD.val)) = some ld → ∃ d v, ld = .val d ∧ Rep P av h d v ∧ ((env.kindOf x = some .local ∧ bindL env.kindOf (names.zip vs) m x = some v) ∨ (env.kindOf x = some .cell ∧ bindC env.kindOf (names.zip vs) cm x = some v)) := by
  intro names
  induction names with
  | nil => intro ds vs m cm _ _ _ _ x ld e; cases e
  | cons y names ih =>
    intro ds vs m cm hr hnd hl hk x ld e
    cases ds with
    | nil => cases hl
    | cons d ds =>
      obtain ⟨v, r, rfl, r1, r2⟩ := hr.inv
      simp only [List.map_cons, List.zip_cons_cons, List.lookup_cons] at e
      have hnd' := List.nodup_cons.mp hnd
      by_cases q : x = y
      · subst q
        simp only [beq_self_eq_true, Option.some.injEq] at e
        subst e
        refine ⟨d, v, rfl, r1, ?_⟩
        have keepL : ∀ (l : List (Str × Value)) (m : Str → Option Value), (∀ p ∈ l, p.1 ≠ x) → bindL env.kindOf l m x = m x := by
          intro l
          induction l with
          | nil => intro m _; rfl
          | cons p l ih2 =>
            intro m hp
            obtain ⟨z, u⟩ := p
            unfold bindL
            rw [ih2 _ fun p hm => hp p (List.mem_cons_of_mem _ hm)]
            split
            · exact if_neg (fun e => hp (z, u) (List.mem_cons_self ..) e.symm)
            · rfl
        have keepC : ∀ (l : List (Str × Value)) (m : Str → Option Value), (∀ p ∈ l, p.1 ≠ x) → bindC env.kindOf l m x = m x := by
          intro l
          induction l with
          | nil => intro m _; rfl
          | cons p l ih2 =>
            intro m hp
            obtain ⟨z, u⟩ := p
            unfold bindC
            rw [ih2 _ fun p hm => hp p (List.mem_cons_of_mem _ hm)]
            split
            · rfl
            · exact if_neg (fun e => hp (z, u) (List.mem_cons_self ..) e.symm)
        have hno : ∀ p ∈ names.zip r, p.1 ≠ x := fun p hp e => hnd'.1 (e ▸ (List.of_mem_zip hp).1)
        rcases hk x (List.mem_cons_self ..) with k | k
        · refine .inl ⟨k, ?_⟩
          rw [List.zip_cons_cons]; unfold bindL; rw [keepL _ _ hno, if_pos k]; exact if_pos rfl
        · refine .inr ⟨k, ?_⟩
          rw [List.zip_cons_cons]; unfold bindC; rw [keepC _ _ hno, if_neg (by rw [k]; decide)]; exact if_pos rfl
      · rw [beq_eq_false_iff_ne.mpr q] at e
        obtain ⟨d', v', e1, e2, e3⟩ := ih (m := if env.kindOf y = some .local then fun z => if z = y then some v else m z else m) (cm := if env.kindOf y = some .local then cm else fun z => if z = y then some v else cm z)
          r2 hnd'.2 (by simpa using hl) (fun z hz => hk z (List.mem_cons_of_mem _ hz)) x ld e
        exact ⟨d', v', e1, e2, e3⟩

noncomputable def defEnv (fd : FuncData) (L a : Addr) : Env := callEnvC fd L a
noncomputable abbrev defFm (fd : FuncData) (L a : Addr) : Fm := ⟨callEnvC fd L a, (cellsFrom (L + 1) fd.scope.names []).map (·.2)⟩

theorem nodup_map_of_pairwise {α : Type} : ∀ {l : List (α × Addr)}, (l.Pairwise fun x y => x.2 ≠ y.2) → (l.map (·.2)).Nodup
  | [], _ => List.nodup_nil
  | p :: l, h => by
    obtain ⟨h1, h2⟩ := List.pairwise_cons.mp h
    rw [List.map_cons, List.nodup_cons]
    exact ⟨fun m => by obtain ⟨q, hq, e⟩ := List.mem_map.mp m; exact h1 q hq e.symm, nodup_map_of_pairwise h2⟩

/-- a call of a def that stands whole: its body tells -/
theorem cal_obj {fo : Obj} {fd : FuncData} {a : Addr} {names : List Str} {body : List Stmt} {ds : List D} {r : D} {G : Heap → Prop}
    (hG : ∀ h, G h → h.get? a = some fo ∧ h.CodeRec fd.code fd.qualname) (hd : fo.data = .func fd) (hbody : fd.body = .stmts body) (hclo : fd.closure = [])
    (hbind : ∀ (s : Shared) (vs : List Value), vs.length = ds.length → BindsTo s fd ⟨vs, []⟩ (names.zip vs)) (hnd : names.Nodup) (hlen : names.length = ds.length)
    (hk : ∀ x ∈ names, fd.scope.names.lookup x = some .local ∨ fd.scope.names.lookup x = some .cell)
    (hek : fd.scope.kind = .function ∧ fd.globals = mainGlobals ∧ fd.builtins = builtinsNs)
    (hb : ∀ L, Exs C n (defFm fd L a) (names.zip (ds.map LD.val)) body (.ret r))
    (hco : fd.scope.isCoroutine = false) (hgen : fd.scope.isGenerator = false) (hnc : ((cellsFrom 0 fd.scope.names []).map (·.1)).Nodup)
    {A : Around} {av : List Addr} {s : Shared} {vs : List Value} {Q : Value → Shared → Prop} {E : Value → Shared → Prop} (R : Room (n + 1) A) (W : Wd C av s) (htp : ∀ a ∈ C.TP, a ∈ av) (hg : G s.heap) (rv : RepL C.P av s.heap ds vs)
    (h : ∀ v s', Wd C av s' → Ext C s.heap s'.heap → Rep C.P av s'.heap r v → Q v s') : wpAny C.M A (call (.ref a) vs []) Q E s := by
  obtain ⟨ho, hcd⟩ := hG _ hg
  refine wpAny_call (codeAny_call_function R.lim ho hd hco hgen hbody hcd (hbind s vs rv.length _ _ _ _ ?_))
  rw [hclo]
  refine wpAny_newFunctionEnv_cells hek.1 (fun x hx => ?_) fun env he s₁ X => ?_
  · have hx' : x.1 ∈ names := (List.of_mem_zip (show (x.1, x.2) ∈ names.zip vs from hx)).1
    exact (hk x.1 hx').imp id fun k => ⟨k, cellsFrom_some _ _ _ (.inl k)⟩
  · have he' : env = callEnvC fd s.heap.objs.size a := he
    subst he'
    refine ⟨(C.nolimit.keeps W.sub).keeps X.toInCall.keep, codeAny_func ?_⟩
    obtain ⟨h₁, tk, rfl, hkeep⟩ := X.done
    have hLn : s.heap.get? s.heap.objs.size = none := fresh_none (Nat.le_refl _)
    have hcn : ∀ x c, (x, c) ∈ (callEnvC fd s.heap.objs.size a).cells → s.heap.get? c = none := fun x c m => fresh_none (Nat.le_of_lt (X.above x c m))
    have ndc := nodup_map_of_pairwise X.apart
    have hmem : ∀ c, c ∈ (cellsFrom (s.heap.objs.size + 1) fd.scope.names []).map (·.2) → ∃ x, (x, c) ∈ (callEnvC fd s.heap.objs.size a).cells := fun c m => by
      obtain ⟨p, hp, rfl⟩ := List.mem_map.mp m; exact ⟨p.1, hp⟩
    have hnew : ∀ b ∈ (defFm fd s.heap.objs.size a).mut [], s.heap.get? b = none := fun b hb => by
      rcases List.mem_cons.mp hb with rfl | hb
      · exact hLn
      · rw [List.map_nil, List.append_nil] at hb
        obtain ⟨x, m⟩ := hmem b hb; exact hcn x b m
    have hlive : ∀ b ∈ (defFm fd s.heap.objs.size a).mut [], ∃ o, h₁.get? b = some o := fun b hb => by
      rcases List.mem_cons.mp hb with rfl | hb
      · exact ns_live X.toInCall.ns
      · rw [List.map_nil, List.append_nil] at hb
        obtain ⟨x, m⟩ := hmem b hb
        obtain ⟨o, e, _⟩ := X.cell x b (lookup_of_mem_nodup (cellsFrom_names fd.scope.names 0 (s.heap.objs.size + 1) [] [] rfl ▸ hnc) m)
        exact ⟨o, e⟩
    have W₁ : Wd C ((defFm fd s.heap.objs.size a).mut [] ++ av) ⟨h₁, s.gens, s.drawn, tk, s.os⟩ := W.asides rfl rfl hkeep hnew hlive
    have F₁ : FS C (defFm fd s.heap.objs.size a) (names.zip (ds.map LD.val)) [] [] av ⟨h₁, s.gens, s.drawn, tk, s.os⟩ := by
      refine ⟨hek, htp, W₁, ?_, fun b hb hb' => ?_, fun x y c e1 e2 => name_of_addr X.apart (mem_of_lookup e1) (mem_of_lookup e2), fun x c e => ⟨_, X.cell x c e⟩, ⟨_, X.toInCall.ns, fun x ld e => ?_⟩, fun p hp => nomatch hp⟩
      · show (s.heap.objs.size :: ((cellsFrom (s.heap.objs.size + 1) fd.scope.names []).map (·.2) ++ [])).Nodup
        rw [List.append_nil, List.nodup_cons]
        exact ⟨fun m => by obtain ⟨x, m⟩ := hmem _ m; exact Nat.lt_irrefl _ (X.above x _ m), ndc⟩
      · obtain ⟨o, e⟩ := W.live b hb'; rw [hnew b hb] at e; cases e
      · have rv₁ : RepL C.P ((defFm fd s.heap.objs.size a).mut [] ++ av) h₁ ds vs := rv.mono (fun b o _ e => hkeep b o e) fun b hb ⟨o, e⟩ => (List.mem_append.mp hb).elim (fun m => by rw [hnew b m] at e; cases e) id
        obtain ⟨d, v, rfl, r1, k⟩ := lookup_zip_bind (env := callEnvC fd s.heap.objs.size a) (m := fun _ => none) (cm := fun _ => none) rv₁ hnd hlen hk x ld e
        refine ⟨v, ?_, r1⟩
        rcases k with k | ⟨k, e2⟩
        · exact .inl k
        · obtain ⟨c, hc⟩ := Option.isSome_iff_exists.mp (cellsFrom_some (x := x) fd.scope.names (s.heap.objs.size + 1) [] (.inl k))
          exact .inr ⟨.inl k, c, hc, e2 ▸ X.cell x c hc⟩
    refine hb s.heap.objs.size _ [] [] av (fun b => s.heap.get? b) _ _ _ (R.deeper _) F₁ (fun b o _ e => hkeep b o e) hnew fun fl s' ho => ?_
    obtain ⟨v, rfl, W', k', r'⟩ := ho
    exact h v s' W' (fun b o hb e => k' b o hb e) r'
end
end Mine
end
section
namespace Mine
section
variable {C : Cst} {n : Nat} {f : Fm} {σ : Sto}

noncomputable def KeepD (C : Cst) : D → Prop
  | .fn a => keepIn C.K (.ref a) = true
  | .bi _ => True
  | .ty _ => True
  | _ => False
theorem keepD {M : Model} {fd : D} {P : Params} {av : List Addr} {h₀ : Heap} {v : Value} (k : KeepD C fd) (r : Rep P av h₀ fd v) (h : Heap) (X : C.K.In h) : ∃ k, (k = Keeper.frame ∨ k = Keeper.machine ∨ k = Keeper.boundFrame) ∧ Looks M h (keeperOf v) k := by
  cases fd <;> first | exact k.elim | skip
  · simp only [Rep] at r; subst r; exact keeps_K k h X
  · simp only [Rep] at r; subst r; exact ⟨.machine, .inr (.inl rfl), Looks.of_pure rfl⟩
  · simp only [Rep] at r; subst r; exact ⟨.machine, .inr (.inl rfl), Looks.of_pure rfl⟩

theorem evalArgs_evl {M : Model} {A : Around} {E : Value → Shared → Prop} {s : Shared} {fv : Value} {l : List (Bool × Sem Value)} {Q : Args → Shared → Prop} (hp : l.any (·.1) = false)
    (h : wpAny M A (spliced l) (fun vs s' => Q ⟨vs, []⟩ s') E s) : wpAny M A (evalArgs fv true l []) Q E s := by
  cases l with
  | nil =>
    unfold evalArgs
    refine wpAny_bind (wpAny_mono h (fun vs s' h' => wpAny_bind (wpAny_pure ?_)) fun _ _ x => x)
    refine wpAny_holding ?_
    exact wpAny_bind (wpAny_pure (wpAny_bind (wpAny_pure (wpAny_pure h'))))
  | cons p l =>
    obtain ⟨b, x⟩ := p
    cases b with
    | true => rw [List.any_cons] at hp; cases hp
    | false => exact Calls.evalArgs_plain h

theorem Wd.KIn {av : List Addr} {s : Shared} (W : Wd C av s) : C.K.In s.heap := C.X.keeps W.sub

theorem ev_call {func : Expr} {args : List Expr} {pos : Pos} {fd r : D} {ds : List D} (h1 : Ev C n f σ func fd) (hk : KeepD C fd) (h2 : EvL C n f σ pos args ds) (h3 : Cal C n fd ds r)
    (he : eval (.Call func args [] pos) f.env = (do callWith pos (← eval func f.env) [] (backTo pos (starEach args f.env)) (backToKw pos (keywordEach [] f.env))) := by rfl)
    (hp : (backTo pos (starEach args f.env)).any (·.1) = false := by rfl) : Ev C n f σ (.Call func args [] pos) r := by
  intro A ow gs av s Q E R F h
  refine Call_ (h1 A ow gs av s _ E R F fun fv s₁ W₁ e₁ r₁ => ?_) he
  have F₁ := F.ext W₁ e₁
  refine callWith_of (P := C.K.In) (by show ((backTo pos (starEach args f.env)).any (·.1) || false) = false; rw [hp]; rfl) (keepD hk r₁) (evalArgs_evl hp (h2 A ow gs av s₁ _ E R F₁ fun vs s₂ W₂ e₂ r₂ => ⟨W₂.KIn, ?_⟩))
  have F₂ := F₁.ext W₂ e₂
  exact h3 A _ s₂ fv vs Q E R W₂ F₂.tp' (r₁.ext W₁ e₂) r₂ fun v s₃ W₃ e₃ r₃ => h v s₃ W₃ ((e₁.trans e₂).trans e₃) r₃

/-- a method is looked up -/
noncomputable def GetM (C : Cst) (od : D) (name : Str) (id : String) : Prop := ∀ (A : Around) (av : List Addr) (s : Shared) (v : Value) (pl : Sem Bool) (Q : Value × List Value → Shared → Prop) (E : Value → Shared → Prop),
  Rep C.P av s.heap od v → Q (.builtin id, [v]) s → wpAny C.M A (getMethod v name pl) Q E s

theorem ev_method {o : Expr} {name : Str} {apos pos : Pos} {args : List Expr} {pl : Sem Bool} {od r : D} {ds : List D} {id : String} (h1 : Ev C n f σ o od) (hg : GetM C od name id) (h2 : EvL C n f σ pos args ds) (h3 : Cal C n (.bi id) (od :: ds) r)
    (he : eval (.Call (.Attribute o name apos) args [] pos) f.env = (do
      let ov ← eval o f.env
      standAt apos.atName
      let (fv, first) ← holding [ov] (getMethod ov name pl)
      callWith pos fv first (backTo pos (starEach args f.env)) []) := by rfl)
    (hp : (backTo pos (starEach args f.env)).any (·.1) = false := by rfl) : Ev C n f σ (.Call (.Attribute o name apos) args [] pos) r := by
  intro A ow gs av s Q E R F h
  refine MethodCall_ (pl := pl) (h1 A ow gs av s _ E R F fun ov s₁ W₁ e₁ r₁ => hg A _ s₁ ov pl _ E r₁ ?_) he
  have F₁ := F.ext W₁ e₁
  refine callWith_of (P := C.K.In) (by show ((backTo pos (starEach args f.env)).any (·.1) || false) = false; rw [hp]; rfl) (fun hh X => ⟨.machine, .inr (.inl rfl), Looks.of_pure rfl⟩) (evalArgs_evl hp (h2 A ow gs av s₁ _ E R F₁ fun vs s₂ W₂ e₂ r₂ => ⟨W₂.KIn, ?_⟩))
  have F₂ := F₁.ext W₂ e₂
  exact h3 A _ s₂ _ (ov :: vs) Q E R W₂ F₂.tp' (by simp only [Rep]) (.cons (r₁.ext W₁ e₂) r₂) fun v s₃ W₃ e₃ r₃ => h v s₃ W₃ ((e₁.trans e₂).trans e₃) r₃

theorem Rep.int_inv {P : Params} {av : List Addr} {h : Heap} {i : Int} {v : Value} (r : Rep P av h (.int i) v) : ∃ t, v = .int i t := by simpa only [Rep] using r
theorem Rep.str_inv {P : Params} {av : List Addr} {h : Heap} {i : Str} {v : Value} (r : Rep P av h (.str i) v) : ∃ t, v = .str i t := by simpa only [Rep] using r
theorem Rep.bool_inv {P : Params} {av : List Addr} {h : Heap} {i : Bool} {v : Value} (r : Rep P av h (.bool i) v) : v = .bool i := by simpa only [Rep] using r
theorem Rep.none_inv {P : Params} {av : List Addr} {h : Heap} {v : Value} (r : Rep P av h .none v) : v = .none := by simpa only [Rep] using r
theorem Rep.bi_inv {P : Params} {av : List Addr} {h : Heap} {v : Value} {i : String} (r : Rep P av h (.bi i) v) : v = .builtin i := by simpa only [Rep] using r
theorem Rep.ty_inv {P : Params} {av : List Addr} {h : Heap} {v : Value} {i : String} (r : Rep P av h (.ty i) v) : v = .type i := by simpa only [Rep] using r
theorem Rep.fn_inv {P : Params} {av : List Addr} {h : Heap} {v : Value} {i : Addr} (r : Rep P av h (.fn i) v) : v = .ref i := by simpa only [Rep] using r
theorem Rep.lst_inv {P : Params} {av : List Addr} {h : Heap} {v : Value} {ds : List D} (r : Rep P av h (.lst ds) v) : ∃ a vs, v = .ref a ∧ a ∉ av ∧ h.PlainList a (List.toArray vs) ∧ RepL P av h ds vs := by simpa only [Rep] using r
theorem Rep.tup_inv {P : Params} {av : List Addr} {h : Heap} {v : Value} {ds : List D} (r : Rep P av h (.tup ds) v) : ∃ a vs, v = .ref a ∧ a ∉ av ∧ IsTup h a (List.toArray vs) ∧ RepL P av h ds vs := by simpa only [Rep] using r
theorem rep_int {P : Params} {av : List Addr} {h : Heap} (i : Int) (t : Tok) : Rep P av h (.int i) (.int i t) := by simp only [Rep]; exact ⟨t, rfl⟩
theorem rep_str {P : Params} {av : List Addr} {h : Heap} (i : Str) (t : Tok) : Rep P av h (.str i) (.str i t) := by simp only [Rep]; exact ⟨t, rfl⟩
-- ints
theorem bop_add {a b : Int} : Bop C n .Add (.int a) (.int b) (.int (a + b)) := by
  intro A av s va vb Q E R W tp ra rb h
  obtain ⟨t, rfl⟩ := ra.int_inv; obtain ⟨u, rfl⟩ := rb.int_inv
  exact add_int (h _ _ (W.toks _) (.refl _) (rep_int _ _))
theorem bop_sub {a b : Int} : Bop C n .Sub (.int a) (.int b) (.int (a - b)) := by
  intro A av s va vb Q E R W tp ra rb h
  obtain ⟨t, rfl⟩ := ra.int_inv; obtain ⟨u, rfl⟩ := rb.int_inv
  exact PyProof.Rows.sub_int (h _ _ (W.toks _) (.refl _) (rep_int _ _))
theorem bop_mul {a b : Int} (hm : IntMulOk a b) : Bop C n .Mult (.int a) (.int b) (.int (a * b)) := by
  intro A av s va vb Q E R W tp ra rb h
  obtain ⟨t, rfl⟩ := ra.int_inv; obtain ⟨u, rfl⟩ := rb.int_inv
  exact mul_int (h _ _ (W.toks _) (.refl _) (rep_int _ _)) hm
theorem bop_floordiv {a b : Int} (hb : b ≠ 0) (hp : Builtin.divisionGoesByPylong a b = false) : Bop C n .FloorDiv (.int a) (.int b) (.int (a.fdiv b)) := by
  intro A av s va vb Q E R W tp ra rb h
  obtain ⟨t, rfl⟩ := ra.int_inv; obtain ⟨u, rfl⟩ := rb.int_inv
  exact floordiv_int hb (h _ _ (W.toks _) (.refl _) (rep_int _ _)) (.inl hp)
theorem bop_mod {a b : Int} (hb : b ≠ 0) : Bop C n .Mod (.int a) (.int b) (.int (a.fmod b)) := by
  intro A av s va vb Q E R W tp ra rb h
  obtain ⟨t, rfl⟩ := ra.int_inv; obtain ⟨u, rfl⟩ := rb.int_inv
  exact mod_int' hb (h _ _ (W.toks _) (.refl _) (rep_int _ _))
theorem bop_pow {a b : Int} (hb : 0 ≤ b) (hz : (Builtin.Int.intBits a : Int) * b ≤ 2 ^ 27) : Bop C n .Pow (.int a) (.int b) (.int (a ^ b.toNat)) := by
  intro A av s va vb Q E R W tp ra rb h
  obtain ⟨t, rfl⟩ := ra.int_inv; obtain ⟨u, rfl⟩ := rb.int_inv
  exact pow_int hb hz (h _ _ (W.toks _) (.refl _) (rep_int _ _))
theorem bop_lshift {a b : Int} (hb : 0 ≤ b) (hz : (Builtin.Int.intBits a : Int) + b ≤ 2 ^ 27) : Bop C n .LShift (.int a) (.int b) (.int (a * 2 ^ b.toNat)) := by
  intro A av s va vb Q E R W tp ra rb h
  obtain ⟨t, rfl⟩ := ra.int_inv; obtain ⟨u, rfl⟩ := rb.int_inv
  exact lshift_int hb hz (h _ _ (W.toks _) (.refl _) (rep_int _ _))
theorem bop_rshift {a b : Int} (hb : 0 ≤ b) : Bop C n .RShift (.int a) (.int b) (.int (a.fdiv (2 ^ b.toNat))) := by
  intro A av s va vb Q E R W tp ra rb h
  obtain ⟨t, rfl⟩ := ra.int_inv; obtain ⟨u, rfl⟩ := rb.int_inv
  exact rshift_int hb (h _ _ (W.toks _) (.refl _) (rep_int _ _))
theorem bop_xor {a b : Int} : Bop C n .BitXor (.int a) (.int b) (.int (Builtin.bitXor a b)) := by
  intro A av s va vb Q E R W tp ra rb h
  obtain ⟨t, rfl⟩ := ra.int_inv; obtain ⟨u, rfl⟩ := rb.int_inv
  exact xor_int (h _ _ (W.toks _) (.refl _) (rep_int _ _))
theorem cmp_lt {a b : Int} : Cmp C n .Lt (.int a) (.int b) (decide (a < b)) := by
  intro A av s va vb Q E R W tp ra rb h
  obtain ⟨t, rfl⟩ := ra.int_inv; obtain ⟨u, rfl⟩ := rb.int_inv
  exact PyProof.Rows.lt_int (h s W (.refl _))
theorem cmp_le {a b : Int} : Cmp C n .LtE (.int a) (.int b) (decide (a ≤ b)) := by
  intro A av s va vb Q E R W tp ra rb h
  obtain ⟨t, rfl⟩ := ra.int_inv; obtain ⟨u, rfl⟩ := rb.int_inv
  exact le_int (h s W (.refl _))
theorem cmp_eq {a b : Int} : Cmp C n .Eq (.int a) (.int b) (decide (a = b)) := by
  intro A av s va vb Q E R W tp ra rb h
  obtain ⟨t, rfl⟩ := ra.int_inv; obtain ⟨u, rfl⟩ := rb.int_inv
  exact PyProof.Rows.eq_int (h s W (.refl _))
theorem cmp_ne {a b : Int} : Cmp C n .NotEq (.int a) (.int b) (decide (a ≠ b)) := by
  intro A av s va vb Q E R W tp ra rb h
  obtain ⟨t, rfl⟩ := ra.int_inv; obtain ⟨u, rfl⟩ := rb.int_inv
  refine ne_int ?_
  rw [show (a != b) = decide (a ≠ b) by by_cases q : a = b <;> simp [q, bne]]
  exact h s W (.refl _)
theorem getM_bit_length {a : Int} : GetM C (.int a) "bit_length" "int.bit_length" := by
  intro A av s v pl Q E r h
  obtain ⟨t, rfl⟩ := r.int_inv
  exact getMethod_int_bit_length h
theorem cal_bit_length {a : Int} : Cal C n (.bi "int.bit_length") [.int a] (.int (Builtin.Int.intBits a)) := by
  intro A av s vf vs Q E R W tp rf rv h
  obtain rfl := rf.bi_inv
  obtain ⟨v, r, rfl, r1, r2⟩ := rv.inv
  obtain rfl := r2.inv0
  obtain ⟨t, rfl⟩ := r1.int_inv
  exact call_int_bit_length (h _ _ (W.toks _) (.refl _) (rep_int _ _))
theorem cal_divmod {a b : Int} (hb : b ≠ 0) (hp : Builtin.divisionGoesByPylong a b = false) : Cal C n (.bi "divmod") [.int a, .int b] (.tup [.int (a.fdiv b), .int (a.fmod b)]) := by
  intro A av s vf vs Q E R W tp rf rv h
  obtain rfl := rf.bi_inv
  obtain ⟨v, r, rfl, r1, r2⟩ := rv.inv
  obtain ⟨v2, r', rfl, r3, r4⟩ := r2.inv
  obtain rfl := r4.inv0
  obtain ⟨t, rfl⟩ := r1.int_inv
  obtain ⟨u, rfl⟩ := r3.int_inv
  refine divmod_int hb (h _ _ ((W.push _).toks _) (Ext.push _ _) ?_) (.inl hp)
  exact rep_newTup W (.cons (rep_int _ _) (.one (rep_int _ _)))

/-- a call of a def of the text -/
theorem cal_fn {fd : FuncData} {a : Addr} {od : Option Addr} {oc : Value} {sl : Array (Option Value)} {names : List Str} {body : List Stmt} {ds : List D} {r : D}
    (hl : C.K.lookup a = some ⟨oc, od, .func fd, sl⟩) (hcd : codeIn C.K fd.code fd.qualname = true) (hbody : fd.body = .stmts body) (hclo : fd.closure = [])
    (hbind : ∀ (s : Shared) (vs : List Value), vs.length = ds.length → BindsTo s fd ⟨vs, []⟩ (names.zip vs)) (hnd : names.Nodup) (hlen : names.length = ds.length)
    (hk : ∀ x ∈ names, fd.scope.names.lookup x = some .local ∨ fd.scope.names.lookup x = some .cell)
    (hek : fd.scope.kind = .function ∧ fd.globals = mainGlobals ∧ fd.builtins = builtinsNs)
    (hco : fd.scope.isCoroutine = false) (hgen : fd.scope.isGenerator = false) (hnc : ((cellsFrom 0 fd.scope.names []).map (·.1)).Nodup)
    (hb : ∀ L, Exs C n (defFm fd L a) (names.zip (ds.map LD.val)) body (.ret r)) : Cal C (n + 1) (.fn a) ds r := by
  intro A av s vf vs Q E R W tp rf rv h
  obtain rfl := rf.fn_inv
  exact cal_obj (G := C.K.In) (fun hh X => ⟨X _ _ hl, codeRec_of X hcd⟩) rfl hbody hclo hbind hnd hlen hk hek hb hco hgen hnc R W tp W.KIn rv h
theorem len_succ {α : Type} {k : Nat} : ∀ {l : List α}, l.length = k + 1 → ∃ a r, l = a :: r ∧ r.length = k
  | a :: r, h => ⟨a, r, rfl, Nat.succ.inj h⟩
theorem binds1 {fd : FuncData} {x : Str} (h : ∀ v, bindArgs fd ⟨[v], []⟩ = pure [(x, v)]) (s : Shared) (vs : List Value) (hl : vs.length = 1) : BindsTo s fd ⟨vs, []⟩ ([x].zip vs) := by
  obtain ⟨v, r, rfl, h1'⟩ := len_succ hl
  obtain rfl := List.eq_nil_of_length_eq_zero h1'
  exact BindsTo.of_eq (h v)
theorem binds2 {fd : FuncData} {x y : Str} (h : ∀ v u, bindArgs fd ⟨[v, u], []⟩ = pure [(x, v), (y, u)]) (s : Shared) (vs : List Value) (hl : vs.length = 2) : BindsTo s fd ⟨vs, []⟩ ([x, y].zip vs) := by
  obtain ⟨v, r, rfl, h1'⟩ := len_succ hl
  obtain ⟨u, r, rfl, h2'⟩ := len_succ h1'
  obtain rfl := List.eq_nil_of_length_eq_zero h2'
  exact BindsTo.of_eq (h v u)
theorem binds3 {fd : FuncData} {x y z : Str} (h : ∀ v u w, bindArgs fd ⟨[v, u, w], []⟩ = pure [(x, v), (y, u), (z, w)]) (s : Shared) (vs : List Value) (hl : vs.length = 3) : BindsTo s fd ⟨vs, []⟩ ([x, y, z].zip vs) := by
  obtain ⟨v, r, rfl, h1'⟩ := len_succ hl
  obtain ⟨u, r, rfl, h2'⟩ := len_succ h1'
  obtain ⟨w, r, rfl, h3'⟩ := len_succ h2'
  obtain rfl := List.eq_nil_of_length_eq_zero h3'
  exact BindsTo.of_eq (h v u w)
theorem binds4 {fd : FuncData} {x y z z' : Str} (h : ∀ v u w w', bindArgs fd ⟨[v, u, w, w'], []⟩ = pure [(x, v), (y, u), (z, w), (z', w')]) (s : Shared) (vs : List Value) (hl : vs.length = 4) : BindsTo s fd ⟨vs, []⟩ ([x, y, z, z'].zip vs) := by
  obtain ⟨v, r, rfl, h1'⟩ := len_succ hl
  obtain ⟨u, r, rfl, h2'⟩ := len_succ h1'
  obtain ⟨w, r, rfl, h3'⟩ := len_succ h2'
  obtain ⟨w', r, rfl, h4'⟩ := len_succ h3'
  obtain rfl := List.eq_nil_of_length_eq_zero h4'
  exact BindsTo.of_eq (h v u w w')
end
end Mine
end
section
namespace Mine
section
variable {C : Cst} {n : Nat} {f : Fm} {σ : Sto} {K0 : Frag}

theorem ev_globK {x : Str} {pos : Pos} {a : Addr} (hK : C.K = K0) (hx : f.env.kindOf x = some .globalImplicit) (e : nsIn K0 mainGlobals x = some (some (.ref a))) (hd : (x == ("__debug__" : Str)) = false) : Ev C n f σ (.Name x pos) (.fn a) := ev_glob hx (hK ▸ e) hd
theorem ev_globI {x : Str} {pos : Pos} {i : Int} {t : Tok} (hK : C.K = K0) (hx : f.env.kindOf x = some .globalImplicit) (e : nsIn K0 mainGlobals x = some (some (.int i t))) (hd : (x == ("__debug__" : Str)) = false) : Ev C n f σ (.Name x pos) (.int i) := by
  intro A ow gs av s Q E _ F h
  refine Calls.Name_function_global F.ek.1 hx (Calls.loadGlobal_global (mg := C.mg) (by rw [F.ek.2.1]; exact C.g.keeps F.wd.sub) (mg_of C.X C.g (hK ▸ e)) (h _ s F.wd (Ext.refl _) (rep_int _ _))) hd
theorem ev_builtinK {x : Str} {pos : Pos} {i : String} (hK : C.K = K0) (hx : f.env.kindOf x = some .globalImplicit) (e : nsIn K0 mainGlobals x = some none) (hv : bootBuiltins x = some (.builtin i)) (hn : x ≠ "__name__") (hd : (x == ("__debug__" : Str)) = false) : Ev C n f σ (.Name x pos) (.bi i) := ev_builtin hx (hK ▸ e) hv hn hd
theorem ev_typeK {x : Str} {pos : Pos} {i : String} (hK : C.K = K0) (hx : f.env.kindOf x = some .globalImplicit) (e : nsIn K0 mainGlobals x = some none) (hv : bootBuiltins x = some (.type i)) (hn : x ≠ "__name__") (hd : (x == ("__debug__" : Str)) = false) : Ev C n f σ (.Name x pos) (.ty i) := ev_type hx (hK ▸ e) hv hn hd
theorem keep_fn {a : Addr} (hK : C.K = K0) (e : keepIn K0 (.ref a) = true) : KeepD C (.fn a) := show keepIn C.K (.ref a) = true from hK ▸ e

theorem cal_fnK {fd : FuncData} {a : Addr} {od : Option Addr} {oc : Value} {sl : Array (Option Value)} {names : List Str} {body : List Stmt} {ds : List D} {r : D} (hK : C.K = K0)
    (hl : K0.lookup a = some ⟨oc, od, .func fd, sl⟩) (hcd : codeIn K0 fd.code fd.qualname = true) (hbody : fd.body = .stmts body) (hclo : fd.closure = [])
    (hbind : ∀ (s : Shared) (vs : List Value), vs.length = ds.length → BindsTo s fd ⟨vs, []⟩ (names.zip vs)) (hnd : names.Nodup) (hlen : names.length = ds.length)
    (hk : (names.all fun x => fd.scope.names.lookup x == some .local || fd.scope.names.lookup x == some .cell) = true)
    (hek : fd.scope.kind = .function ∧ fd.globals = mainGlobals ∧ fd.builtins = builtinsNs)
    (hco : fd.scope.isCoroutine = false) (hgen : fd.scope.isGenerator = false) (hnc : ((cellsFrom 0 fd.scope.names []).map (·.1)).Nodup)
    (hb : ∀ L, Exs C n (defFm fd L a) (names.zip (ds.map LD.val)) body (.ret r)) : Cal C (n + 1) (.fn a) ds r :=
  cal_fn (hK ▸ hl) (hK ▸ hcd) hbody hclo hbind hnd hlen (fun x hx => by
    have := List.all_eq_true.mp hk x hx
    rcases Bool.or_eq_true_iff.mp this with q | q
    · exact .inl (by simpa using q)
    · exact .inr (by simpa using q)) hek hco hgen hnc hb
end

section
variable {C : Cst} {n m : Nat}
theorem Cal.mono {fd r : D} {ds : List D} (h : Cal C m fd ds r) (hm : m ≤ n) : Cal C n fd ds r := fun A av s vf vs Q E R => h A av s vf vs Q E (R.le hm)
end
end Mine
end
section
namespace Mine
section
variable {C : Cst} {n : Nat} {f : Fm} {σ : Sto}

theorem Rep.ob_inv {P : Params} {av : List Addr} {h : Heap} {v : Value} {q : Addr} {fo : Obj} {objs : List (Addr × Obj)} {ds : List D} {vs : List Value} (r : Rep P av h (.ob q fo objs ds vs) v) :
    v = .ref q ∧ q ∉ av ∧ h.get? q = some fo ∧ (∀ p ∈ objs, p.1 ∉ av ∧ h.get? p.1 = some p.2) ∧ RepL P av h ds vs := by simpa only [Rep] using r

/-- the code of an inner def lies there -/
noncomputable def CodeObj (oc : Obj) (qual : Str) : Prop := ∃ vs tq, oc.data = .fields vs ∧ vs[1]? = some (.str qual tq)

theorem exs_def {t : Tab} {name : Str} {params : Arguments} {body : List Stmt} {scope : Scope} {pos : Pos} {rest : List Stmt} {o : Out} {clos : List (Str × Addr)}
    (ht : t ∈ C.tabs) (hcode : f.env.code = .ref t.c) (hline : (pos.line : Int) = t.line) (hcol : (pos.col : Int) = t.col) (hq : qualnameIn f.env name name = t.qual) (hcl : closureFor scope f.env = pure clos)
    (hd0 : params.defaults = []) (hk0 : params.kw_defaults = []) (ha : annTrees params none f.env = []) (hx : Stk f name)
    (h : ∀ q fo doc pm c' ctv oc, fo = fnMade name t.qual params body scope clos doc pm c' ctv → CodeObj oc t.qual → Exs C n f ((name, .val (.ob q fo [(c', oc)] [] [])) :: σ) rest o) :
    Exs C n f σ (.FunctionDef name params body [] none [] scope none name pos :: rest) o := by
  intro A ow gs av g s Q E R F k hg hQ
  refine wpAny_execs_cons (nestDef_K hd0 hk0 ha ?_)
  rw [hq]
  obtain ⟨hPav, ps, hP, hps⟩ := F.wd.tabs t ht
  obtain ⟨bm, ob, b1, b2, b3, b4, b5, b6⟩ := C.bmain
  have hgs := C.g.keeps F.wd.sub
  have hgP : mainGlobals ≠ t.P := fun q => by
    obtain ⟨o, es, ep, e, hd, _⟩ := hgs
    rw [q, hP] at e; cases e; cases hd
  have hb3 := F.wd.sub _ _ b3
  have hbP : bm ≠ t.P := fun q => by rw [q, hP] at hb3; cases hb3; cases b4
  have hbG : bm ≠ mainGlobals := fun q => by
    obtain ⟨o, es, ep, e, hd, _⟩ := hgs
    rw [q, e] at hb3; cases hb3; rw [hd] at b6; cases b6
  have hC := (C.hd t ht).keeps F.wd.sub
  have hPT : t.P ∈ C.TP := List.mem_map_of_mem ht
  -- behind the making
  have fin : ∀ (s₁ : Shared) (q : Addr) (doc pm : Value) (c' : Addr) (ctv : Value) (oc : Obj), CodeObj oc t.qual → Wd C (f.mut ow ++ av) s₁ → Ext C s.heap s₁.heap →
      Rep C.P (f.mut ow ++ av) s₁.heap (.ob q (fnMade name t.qual params body scope clos doc pm c' ctv) [(c', oc)] [] []) (.ref q) →
      wpAny C.M A (storeName f.env name (.ref q)) (fun _ s'' => wpAny C.M A (execs rest f.env) Q E s'') E s₁ := fun s₁ q doc pm c' ctv oc hoc W₁ e₁ r₁ => by
    have F₁ := F.ext W₁ e₁
    refine st_any (d := .val (.ob q (fnMade name t.qual params body scope clos doc pm c' ctv) [(c', oc)] [] [])) F₁ hx r₁ fun h' tk a ha F' hsb => ?_
    exact h q _ doc pm c' ctv oc rfl hoc A ow gs av g _ Q E R F' (F₁.kp_same ha (k.ext e₁) hg hsb) hg hQ
  rcases hps with rfl | ⟨c', rfl, hc'av, hrec⟩
  · refine makeFunction_K (mg := C.mg) hcl F.ek.2.1 hgs hcode hC hP True.intro rfl hgP ⟨bm, ob, b1, b2, hbG, hbP, hb3, b4, b5, b6⟩ fun c' ctv doc h' tk hxb hge hlt hrec htb => ?_
    obtain ⟨c₂, oc, vs, tq, e2, hoc, hod, hv⟩ := hrec
    cases e2
    have keep : ∀ b o, b ∉ C.TP → s.heap.get? b = some o → (h'.push (fnMade name t.qual params body scope clos doc ((C.mg "__name__").getD .none) c' ctv)).get? b = some o := fun b o hb e =>
      Heap.get?_push_of_some _ (hxb b o (fun q => hb (q ▸ hPT)) e)
    have keep2 : ∀ b o, b ≠ t.P → s.heap.get? b = some o → (h'.push (fnMade name t.qual params body scope clos doc ((C.mg "__name__").getD .none) c' ctv)).get? b = some o := fun b o hb e =>
      Heap.get?_push_of_some _ (hxb b o hb e)
    have cnew : c' ∉ f.mut ow ++ av := fun m => by obtain ⟨o, e⟩ := F.wd.live c' m; exact Nat.lt_irrefl _ (Nat.lt_of_lt_of_le (Heap.lt_size e) hge)
    have hsz : s.heap.objs.size ≤ h'.objs.size := Nat.le_trans hge (Nat.le_of_lt hlt)
    have qnew : h'.objs.size ∉ f.mut ow ++ av := fun m => by obtain ⟨o, e⟩ := F.wd.live _ m; exact Nat.lt_irrefl _ (Nat.lt_of_lt_of_le (Heap.lt_size e) hsz)
    have W₁ : Wd C (f.mut ow ++ av) ⟨h'.push (fnMade name t.qual params body scope clos doc ((C.mg "__name__").getD .none) c' ctv), s.gens, s.drawn, tk, s.os⟩ := by
      refine ⟨fun b o e => keep2 b o (fun q => ?_) (F.wd.sub b o e), F.wd.out, fun b hb => ?_, fun t' ht' => ⟨(F.wd.tabs t' ht').1, ?_⟩, F.wd.gens, F.wd.os⟩
      · rw [q, F.wd.out _ hPav] at e; cases e
      · obtain ⟨o, e⟩ := F.wd.live b hb
        by_cases q : b = t.P
        · exact ⟨_, q ▸ Heap.get?_push_of_some _ htb⟩
        · exact ⟨o, keep2 b o q e⟩
      · by_cases q : t'.P = t.P
        · obtain rfl := C.tinj t' ht' t ht q
          refine ⟨_, Heap.get?_push_of_some _ htb, .inr ⟨c', ?_, cnew, c', oc, vs, tq, rfl, Heap.get?_push_of_some _ hoc, hod, hv⟩⟩
          rw [hline, hcol]; rfl
        · exact (F.wd.tabs t' ht').2.mono (fun o e => keep2 _ o q e) (fun b o hb e => keep2 b o (fun q2 => hb (q2 ▸ hPav)) e) fun _ hb _ => hb
    refine fin _ h'.objs.size doc ((C.mg "__name__").getD .none) c' ctv oc ⟨vs, tq, hod, hv⟩ W₁ (fun b o hb e => keep b o hb e) ?_
    simp only [Rep]
    exact ⟨trivial, qnew, Heap.get?_push_size _ rfl, fun p hp => by obtain rfl := List.mem_singleton.mp hp; exact ⟨cnew, Heap.get?_push_of_some _ hoc⟩, .nil⟩
  · obtain ⟨c₂, oc, vs, tq, e2, hoc, hod, hv⟩ := hrec
    cases e2
    refine makeFunction_hit (mg := C.mg) (cv := .ref c') hcl F.ek.2.1 hgs hcode hC hP (by simp [TriplesOk, rawInt]) (by simp [codeAmong, rawInt, hline, hcol]) ⟨bm, ob, b1, b2, hbG, hbP, hb3, b4, b5, b6⟩ fun ctv doc h' tk hk hsz => ?_
    have keep : ∀ b o, s.heap.get? b = some o → (h'.push (fnMade name t.qual params body scope clos doc ((C.mg "__name__").getD .none) c' ctv)).get? b = some o := fun b o e => Heap.get?_push_of_some _ (hk b o e)
    have qnew : h'.objs.size ∉ f.mut ow ++ av := fun m => by obtain ⟨o, e⟩ := F.wd.live _ m; exact Nat.lt_irrefl _ (Nat.lt_of_lt_of_le (Heap.lt_size e) hsz)
    refine fin _ h'.objs.size doc ((C.mg "__name__").getD .none) c' ctv oc ⟨vs, tq, hod, hv⟩ (F.wd.grow (s' := ⟨h'.push (fnMade name t.qual params body scope clos doc ((C.mg "__name__").getD .none) c' ctv), s.gens, s.drawn, tk, s.os⟩) rfl rfl keep) (.of_keep keep) ?_
    simp only [Rep]
    exact ⟨trivial, qnew, Heap.get?_push_size _ rfl, fun p hp => by obtain rfl := List.mem_singleton.mp hp; exact ⟨hc'av, keep _ _ hoc⟩, .nil⟩

/-- the cells of the frame turn no more -/
theorem FS.still {ow : List (Str × Addr)} {gs : List (D × Value)} {av : List Addr} {s : Shared} (F : FS C f σ ow gs av s) : FS C ⟨f.env, []⟩ σ ow gs av s := by
  have sub : ∀ a, a ∈ Fm.mut ⟨f.env, []⟩ ow → a ∈ f.mut ow := fun a h => by
    rcases List.mem_cons.mp h with rfl | h
    · exact List.mem_cons_self ..
    · exact List.mem_cons_of_mem _ (List.mem_append_right _ (by simpa using h))
  have sub2 : ∀ a, a ∈ Fm.mut ⟨f.env, []⟩ ow ++ av → a ∈ f.mut ow ++ av := fun a h => (List.mem_append.mp h).elim (fun h => List.mem_append_left _ (sub a h)) fun h => List.mem_append_right _ h
  refine ⟨F.ek, F.tp, F.wd.less sub2 fun t ht => List.mem_append_right _ (F.tp _ (List.mem_map_of_mem ht)), ?_, fun a h => F.dj a (sub a h), F.ci, F.cl, ?_, fun p hp => (F.gh p hp).mono (fun _ _ _ e => e) fun b h _ => sub2 b h⟩
  · have nd := F.nd
    rw [Fm.mut, List.nodup_cons, List.nodup_append] at nd
    show (f.env.locals :: ([] ++ ow.map (·.2))).Nodup
    rw [List.nil_append, List.nodup_cons]
    exact ⟨fun m => nd.1 (List.mem_append_right _ m), nd.2.2.1⟩
  · obtain ⟨m, hm, hv⟩ := F.vars
    refine ⟨m, hm, fun x ld h => ?_⟩
    obtain ⟨v, h1, h2⟩ := hv x ld h
    exact ⟨v, h1, h2.mono (fun _ _ _ e => e) (fun b h _ => sub2 b h) fun _ _ _ e => e⟩

/-- what the cells of these names hold -/
noncomputable def Capt (env : Env) : List Str → List (Addr × Obj) → List Value → Prop
  | [], cs, us => cs = [] ∧ us = []
  | x :: xs, cs, us => ∃ c o v cs' us', cs = (c, o) :: cs' ∧ us = v :: us' ∧ env.cells.lookup x = some c ∧ o.data = .cell (some v) ∧ Capt env xs cs' us'

theorem FS.capt {ow : List (Str × Addr)} {gs : List (D × Value)} {av : List Addr} {s : Shared} (F : FS C f σ ow gs av s) : ∀ (xs : List Str), (∀ x ∈ xs, ∃ ld, σ.lookup x = some ld) → (∀ x ∈ xs, f.env.kindOf x = some .cell) →
    ∃ cs us, Capt f.env xs cs us ∧ ∀ p ∈ cs, s.heap.get? p.1 = some p.2 ∧ ∃ x ∈ xs, f.env.cells.lookup x = some p.1
  | [], _, _ => ⟨[], [], ⟨rfl, rfl⟩, fun _ h => nomatch h⟩
  | x :: xs, h1, h2 => by
    obtain ⟨cs, us, hc, hp⟩ := F.capt xs (fun y hy => h1 y (List.mem_cons_of_mem _ hy)) fun y hy => h2 y (List.mem_cons_of_mem _ hy)
    obtain ⟨ld, hl⟩ := h1 x (List.mem_cons_self ..)
    obtain ⟨m, hm, hv⟩ := F.vars
    obtain ⟨v, hat, _⟩ := hv x ld hl
    rcases hat with ⟨k, _⟩ | ⟨_, c, hcl, o, ho, hd⟩
    · rw [h2 x (List.mem_cons_self ..)] at k; cases k
    · refine ⟨(c, o) :: cs, v :: us, ⟨c, o, v, cs, us, rfl, rfl, hcl, hd, hc⟩, fun p hp' => ?_⟩
      rcases List.mem_cons.mp hp' with rfl | hp'
      · exact ⟨ho, x, List.mem_cons_self .., hcl⟩
      · obtain ⟨e, y, hy, hcy⟩ := hp p hp'; exact ⟨e, y, List.mem_cons_of_mem _ hy, hcy⟩

theorem capt_reps {P : Params} {av : List Addr} {h : Heap} {env : Env} {R : Str → Value → Prop} : ∀ {caps : List (Str × D)} {cs : List (Addr × Obj)} {us : List Value}, Capt env (caps.map (·.1)) cs us →
    (∀ p ∈ caps, ∀ c o v, env.cells.lookup p.1 = some c → (c, o) ∈ cs → o.data = .cell (some v) → Rep P av h p.2 v) → RepL P av h (caps.map (·.2)) us
  | [], _, _, ⟨_, e⟩, _ => e ▸ .nil
  | p :: caps, _, _, hc, hr => by
    obtain ⟨c, o, v, cs', us', rfl, rfl, h1, h2, h3⟩ := hc
    exact .cons (hr p (List.mem_cons_self ..) c o v h1 (List.mem_cons_self ..) h2) (capt_reps (R := R) h3 fun p' hp' c' o' v' e1 e2 e3 => hr p' (List.mem_cons_of_mem _ hp') c' o' v' e1 (List.mem_cons_of_mem _ e2) e3)

/-- the inner def with what it has caught: the cells turn no more -/
theorem exs_pack {x : Str} {q : Addr} {fo : Obj} {objs : List (Addr × Obj)} {caps : List (Str × D)} {owns : List Str} {rest : List Stmt} {r : D}
    (hx : σ.lookup x = some (.val (.ob q fo objs [] []))) (hxk : f.env.kindOf x = some .cell) (hc : ∀ p ∈ caps, σ.lookup p.1 = some (.val p.2) ∧ f.env.kindOf p.1 = some .cell)
    (ho : ∀ x ∈ owns, (∃ ds, σ.lookup x = some (.own ds)) ∧ f.env.kindOf x = some .cell) (hca : ∀ y c, f.env.cells.lookup y = some c → c ∈ f.mc)
    (h : ∀ cs us cs2 us2, Capt f.env (caps.map (·.1)) cs us → Capt f.env owns cs2 us2 → Exs C n ⟨f.env, []⟩ ((x, .val (.ob q fo (cs ++ cs2 ++ objs) (caps.map (·.2)) us)) :: σ) rest (.ret r)) : Exs C n f σ rest (.ret r) := by
  intro A ow gs av g s Q E R F k hg hQ
  obtain ⟨cs, us, hcs, hp⟩ := F.capt (caps.map (·.1)) (fun y hy => by obtain ⟨p, hp, rfl⟩ := List.mem_map.mp hy; exact ⟨_, (hc p hp).1⟩) fun y hy => by obtain ⟨p, hp, rfl⟩ := List.mem_map.mp hy; exact (hc p hp).2
  obtain ⟨cs2, us2, hcs2, hp2⟩ := F.capt owns (fun y hy => let ⟨⟨ds, e⟩, _⟩ := ho y hy; ⟨_, e⟩) fun y hy => (ho y hy).2
  have F' := F.still
  have notav : ∀ y c, f.env.cells.lookup y = some c → c ∉ Fm.mut ⟨f.env, []⟩ ow ++ av := fun y c hl m => by
    have cm : c ∈ f.mut ow := List.mem_cons_of_mem _ (List.mem_append_left _ (hca y c hl))
    rcases List.mem_append.mp m with m | m
    · have nd := F.nd
      rw [Fm.mut, List.nodup_cons, List.nodup_append] at nd
      rcases List.mem_cons.mp m with e | m
      · exact nd.1 (e ▸ List.mem_append_left _ (hca y c hl))
      · exact nd.2.2.2 c (hca y c hl) c (by simpa using m) rfl
    · exact F.dj c cm m
  obtain ⟨m, hm, hv⟩ := F'.vars
  have look : ∀ y d, σ.lookup y = some (.val d) → f.env.kindOf y = some .cell → ∀ c o v, f.env.cells.lookup y = some c → s.heap.get? c = some o → o.data = .cell (some v) → Rep C.P (Fm.mut ⟨f.env, []⟩ ow ++ av) s.heap d v := fun y d hl hk c o v e1 e2 e3 => by
    obtain ⟨v', hat, hh⟩ := hv y _ hl
    rcases hat with ⟨k', _⟩ | ⟨_, c', e1', o', e2', e3'⟩
    · have : f.env.kindOf y = some .local := k'
      rw [hk] at this; cases this
    · have e1'' : f.env.cells.lookup y = some c' := e1'
      rw [e1] at e1''; cases e1''
      rw [e2] at e2'; cases e2'
      rw [e3] at e3'; cases e3'
      exact hh
  have robj : RepL C.P (Fm.mut ⟨f.env, []⟩ ow ++ av) s.heap (caps.map (·.2)) us := capt_reps (R := fun _ _ => True) hcs fun p hp' c o v e1 e2 e3 => look p.1 p.2 (hc p hp').1 (hc p hp').2 c o v e1 (hp _ e2).1 e3
  obtain ⟨v, hat, hh⟩ := hv x _ hx
  obtain ⟨rfl, q1, q2, q3, _⟩ := Rep.ob_inv (show Rep C.P _ _ _ v from hh)
  have rfull : Rep C.P (Fm.mut ⟨f.env, []⟩ ow ++ av) s.heap (.ob q fo (cs ++ cs2 ++ objs) (caps.map (·.2)) us) (.ref q) := by
    simp only [Rep]
    refine ⟨trivial, q1, q2, fun p hp' => ?_, robj⟩
    rcases List.mem_append.mp hp' with hp' | hp'
    · rcases List.mem_append.mp hp' with hp' | hp'
      · obtain ⟨e, y, _, hl⟩ := hp p hp'; exact ⟨notav y _ hl, e⟩
      · obtain ⟨e, y, _, hl⟩ := hp2 p hp'; exact ⟨notav y _ hl, e⟩
    · exact q3 p hp'
  have F'' : FS C ⟨f.env, []⟩ ((x, .val (.ob q fo (cs ++ cs2 ++ objs) (caps.map (·.2)) us)) :: σ) ow gs av s := by
    refine ⟨F'.ek, F'.tp, F'.wd, F'.nd, F'.dj, F'.ci, F'.cl, ⟨m, hm, fun y ld e => ?_⟩, F'.gh⟩
    rw [List.lookup_cons] at e
    by_cases qy : y = x
    · subst qy
      simp only [beq_self_eq_true, Option.some.injEq] at e
      subst e
      exact ⟨_, hat, rfull⟩
    · rw [beq_eq_false_iff_ne.mpr qy] at e
      exact hv y ld e
  exact h cs us cs2 us2 hcs hcs2 A ow gs av g s Q E R F'' k (fun a ha => hg a (by
    rcases List.mem_cons.mp ha with rfl | ha
    · exact List.mem_cons_self ..
    · exact List.mem_cons_of_mem _ (List.mem_append_right _ (by simpa using ha)))) fun fl s' ho => hQ fl s' ho

theorem ev_call_ob {func : Expr} {args : List Expr} {pos : Pos} {r : D} {q : Addr} {fo : Obj} {fd : FuncData} {objs : List (Addr × Obj)} {cds ds : List D} {cvs : List Value} (hd : fo.data = .func fd) (h1 : Ev C n f σ func (.ob q fo objs cds cvs)) (h2 : EvL C n f σ pos args ds) (h3 : Cal C n (.ob q fo objs cds cvs) ds r)
    (he : eval (.Call func args [] pos) f.env = (do callWith pos (← eval func f.env) [] (backTo pos (starEach args f.env)) (backToKw pos (keywordEach [] f.env))) := by rfl)
    (hp : (backTo pos (starEach args f.env)).any (·.1) = false := by rfl) : Ev C n f σ (.Call func args [] pos) r := by
  intro A ow gs av s Q E R F h
  refine Call_ (h1 A ow gs av s _ E R F fun fv s₁ W₁ e₁ r₁ => ?_) he
  have F₁ := F.ext W₁ e₁
  obtain ⟨rfl, _⟩ := r₁.ob_inv
  refine callWith_of (P := fun h => h.get? q = some fo) (by show ((backTo pos (starEach args f.env)).any (·.1) || false) = false; rw [hp]; rfl)
    (fun hh X => ⟨.frame, .inl rfl, (Looks.ld (part := none) X).andThen (by rw [hd]; exact .now)⟩) (evalArgs_evl hp (h2 A ow gs av s₁ _ E R F₁ fun vs s₂ W₂ e₂ r₂ => ⟨(r₁.ext W₁ e₂).ob_inv.2.2.1, ?_⟩))
  have F₂ := F₁.ext W₂ e₂
  exact h3 A _ s₂ _ vs Q E R W₂ F₂.tp' (r₁.ext W₁ e₂) r₂ fun v s₃ W₃ e₃ r₃ => h v s₃ W₃ ((e₁.trans e₂).trans e₃) r₃

/-- the entry of an inner def -/
theorem enter_clo {fd : FuncData} {fo : Obj} {q : Addr} {names : List Str} {body : List Stmt} {ds : List D} {fr : Sto} {gs : List (D × Value)} {A : Around} {av : List Addr} {s : Shared} {vs : List Value} {Q : Value → Shared → Prop} {E : Value → Shared → Prop}
    (hd : fo.data = .func fd) (hbody : fd.body = .stmts body) (hbind : ∀ (s : Shared) (vs : List Value), vs.length = ds.length → BindsTo s fd ⟨vs, []⟩ (names.zip vs)) (hnd : names.Nodup) (hlen : names.length = ds.length)
    (hk : (names.all fun x => fd.scope.names.lookup x == some .local) = true) (hek : fd.scope.kind = .function ∧ fd.globals = mainGlobals ∧ fd.builtins = builtinsNs)
    (hco : fd.scope.isCoroutine = false) (hgen : fd.scope.isGenerator = false) (hnc : ∀ x ∈ fd.scope.names, x.2 ≠ .cell)
    (hci : ∀ x y c, fd.closure.lookup x = some c → fd.closure.lookup y = some c → x = y)
    (R : Room (n + 1) A) (W : Wd C av s) (htp : ∀ a ∈ C.TP, a ∈ av) (ho : s.heap.get? q = some fo) (hcd : s.heap.CodeRec fd.code fd.qualname)
    (hcl : ∀ x c, fd.closure.lookup x = some c → ∃ v, s.heap.IsCell c v)
    (hfr : ∀ x ld, fr.lookup x = some ld → fd.scope.names.lookup x = some .free ∧ ∃ d c v, ld = .val d ∧ fd.closure.lookup x = some c ∧ s.heap.IsCell c (some v) ∧ Rep C.P av s.heap d v)
    (rv : RepL C.P av s.heap ds vs) (hgs : ∀ p ∈ gs, Rep C.P av s.heap p.1 p.2)
    (h : ∀ L s₁ E', FS C ⟨callEnv fd L q, []⟩ (names.zip (ds.map LD.val) ++ fr) [] gs av s₁ → (∀ b o, s.heap.get? b = some o → s₁.heap.get? b = some o) → s.heap.get? L = none → Room n (A.deeper (callEnv fd L q)) →
      wpAny C.M (A.deeper (callEnv fd L q)) (execs body (callEnv fd L q)) (fun fl s' => Q (match fl with | .ret v => v | _ => .none) s') E' s₁) : wpAny C.M A (call (.ref q) vs []) Q E s := by
  refine wpAny_call (codeAny_call_def R.lim ho hd (C.nolimit.keeps W.sub) hcd hbody (hbind s vs rv.length) hnc (fun x hx => ?_) (fun h₀ hns hk₀ => ?_) hco hgen hek.1)
  · have := List.all_eq_true.mp hk x.1 (List.of_mem_zip (show (x.1, x.2) ∈ names.zip vs from hx)).1
    simpa using this
  · have hLn : s.heap.get? s.heap.objs.size = none := fresh_none (Nat.le_refl _)
    refine h s.heap.objs.size _ _ ?_ hk₀ hLn (R.deeper _)
    have W₁ : Wd C (s.heap.objs.size :: av) ⟨h₀, s.gens, s.drawn, s.toks + (names.zip vs).length, s.os⟩ := by
      obtain ⟨o, e⟩ := ns_live hns
      exact W.aside (s' := ⟨h₀, s.gens, s.drawn, s.toks + (names.zip vs).length, s.os⟩) rfl rfl hk₀ hLn e
    have up : ∀ {d : D} {v : Value}, Rep C.P av s.heap d v → Rep C.P (s.heap.objs.size :: av) h₀ d v := fun r => r.aside hk₀ hLn
    refine ⟨hek, htp, W₁, by simp [Fm.mut], fun b hb hb' => ?_, hci, fun x c e => let ⟨v, hc⟩ := hcl x c e; ⟨v, hc.keeps hk₀⟩, ⟨_, hns, fun x ld e => ?_⟩, fun p hp => up (hgs p hp)⟩
    · obtain rfl : b = s.heap.objs.size := (by simpa [Fm.mut] using hb : b = (callEnv fd s.heap.objs.size q).locals)
      exact W.size_notin hb'
    · rw [List.lookup_append] at e
      have rv₁ : RepL C.P (s.heap.objs.size :: av) h₀ ds vs := rv.mono (fun b o _ e => hk₀ b o e) fun b hb ⟨o, e⟩ => by
        rcases List.mem_cons.mp hb with rfl | hb
        · rw [hLn] at e; cases e
        · exact hb
      have hkn : ∀ x ∈ names, (callEnv fd s.heap.objs.size q).kindOf x = some .local := fun x hx => by
        have := List.all_eq_true.mp hk x hx
        have e : fd.scope.names.lookup x = some .local := by simpa using this
        exact e
      cases e1 : List.lookup x (names.zip (ds.map LD.val)) with
      | some ld' =>
        rw [e1] at e; cases e
        obtain ⟨d, v, rfl, r1, k⟩ := lookup_zip_bind (env := callEnv fd s.heap.objs.size q) (m := fun _ => none) (cm := fun _ => none) rv₁ hnd hlen (fun x hx => .inl (hkn x hx)) x ld e1
        refine ⟨v, ?_, r1⟩
        rcases k with ⟨k, e2⟩ | ⟨k, _⟩
        · refine .inl ⟨k, ?_⟩
          have bl : ∀ (l : List (Str × Value)) (m : Str → Option Value), (l.map (·.1)).Nodup → (∀ p ∈ l, (callEnv fd s.heap.objs.size q).kindOf p.1 = some .local) → bindL (callEnv fd s.heap.objs.size q).kindOf l m x = (l.reverse.lookup x).or (m x) := by
            intro l
            induction l with
            | nil => intro m _ _; rfl
            | cons p l ih =>
              intro m hn hp
              obtain ⟨y, u⟩ := p
              unfold bindL
              rw [if_pos (hp (y, u) (List.mem_cons_self ..)), ih _ (List.nodup_cons.mp hn).2 fun p hm => hp p (List.mem_cons_of_mem _ hm)]
              rw [List.reverse_cons, List.lookup_append, Option.or_assoc]
              congr 1
              simp only [List.lookup_cons, List.lookup_nil]
              by_cases q : x = y
              · simp [q]
              · simp [q, beq_eq_false_iff_ne.mpr q]
          rw [bl] at e2
          · simpa using e2
          · have : (names.zip vs).map (·.1) = names := List.map_fst_zip (by rw [rv.length, hlen]; exact Nat.le_refl _)
            rw [this]; exact hnd
          · intro p hp; exact hkn p.1 (List.of_mem_zip (show (p.1, p.2) ∈ names.zip vs from hp)).1
        · have hx : x ∈ names := by
            have := mem_of_lookup e1
            exact (List.of_mem_zip this).1
          rw [hkn x hx] at k; cases k
      | none =>
        rw [e1] at e
        obtain ⟨k, d, c, v, rfl, hc, hcv, r⟩ := hfr x ld e
        exact ⟨v, .inr ⟨.inr k, c, hc, hcv.keeps hk₀⟩, up r⟩
end
end Mine
end
section
namespace Mine
section
variable {C : Cst} {n : Nat} {f : Fm} {σ : Sto}

-- subscripts
noncomputable def Sub (C : Cst) (n : Nat) (o i r : D) : Prop := ∀ A av s vo vi value slice Q E, Room n A → Wd C av s → (∀ a ∈ C.TP, a ∈ av) → Rep C.P av s.heap o vo → Rep C.P av s.heap i vi →
  (∀ v s', Wd C av s' → Ext C s.heap s'.heap → Rep C.P av s'.heap r v → Q v s') → wpAny C.M A (subscriptTail value slice vo vi) Q E s
theorem ev_sub {value slice : Expr} {pos : Pos} {o i r : D} (h1 : Ev C n f σ value o) (h2 : Ev C n f σ slice i) (h3 : Sub C n o i r) : Ev C n f σ (.Subscript value slice pos) r := by
  intro A ow gs av s Q E R F h
  refine Subscript_ (h1 A ow gs av s _ E R F fun vo s₁ W₁ e₁ r₁ => ?_)
  have F₁ := F.ext W₁ e₁
  refine h2 A ow gs av s₁ _ E R F₁ fun vi s₂ W₂ e₂ r₂ => ?_
  have F₂ := F₁.ext W₂ e₂
  exact h3 A _ s₂ vo vi value slice Q E R W₂ F₂.tp' (r₁.ext W₁ e₂) r₂ fun v s₃ W₃ e₃ r₃ => h v s₃ W₃ ((e₁.trans e₂).trans e₃) r₃
theorem subscripted_ops (slice : Expr) (o i : Value) : ∃ ops, subscripted slice false o i = operate ops (getItem o i) := by
  unfold subscripted
  split
  · exact ⟨_, rfl⟩
  · rename_i h; cases h
  · exact ⟨_, rfl⟩
theorem sub_list {ds : List D} {i : Int} {d : D} (h0 : 0 ≤ i) (hi : i < 2 ^ 63) (hd : ds[i.toNat]? = some d) : Sub C n (.lst ds) (.int i) d := by
  intro A av s vo vi value slice Q E R W tp ro ri h
  obtain ⟨a, vs, rfl, ha, hl, hr⟩ := ro.lst_inv
  obtain ⟨t, rfl⟩ := ri.int_inv
  obtain ⟨v, hv, rv⟩ := hr.get hd
  obtain ⟨ops, hops⟩ := subscripted_ops slice (.ref a) (.int i t)
  exact tail_any hl.isList.typeIs slot_list_getitem.lookup (wpAny_getItem_list hl.isList h0 hi (by simpa using hv) (h v s W (.refl _) rv)) hops
theorem sub_tup {ds : List D} {i : Int} {d : D} (h0 : 0 ≤ i) (hi : i < 2 ^ 63) (hd : ds[i.toNat]? = some d) : Sub C n (.tup ds) (.int i) d := by
  intro A av s vo vi value slice Q E R W tp ro ri h
  obtain ⟨a, vs, rfl, ha, hl, hr⟩ := ro.tup_inv
  obtain ⟨t, rfl⟩ := ri.int_inv
  obtain ⟨v, hv, rv⟩ := hr.get hd
  obtain ⟨ops, hops⟩ := subscripted_ops slice (.ref a) (.int i t)
  have hlt : i.toNat < vs.length := (List.getElem?_eq_some_iff.mp hv).1
  have hj : seqIndex? i (List.toArray vs).size = some i.toNat := by
    have h1 : ¬ i < 0 := by lia
    have h2 : (decide (0 ≤ i) && decide (i < (vs.length : Int))) = true := by simp; lia
    simp only [seqIndex?, List.size_toArray, h1, if_false, h2, if_true]
  exact tail_any hl.typeIs slot_tuple_getitem.lookup (getItem_tuple hl (by lia) hi hj (by simpa using hv) (h v s W (.refl _) rv)) hops

-- tests
theorem tst_plain {e : Expr} {d : D} {b : Bool} (h1 : Ev C n f σ e d) (ht : ∀ A av s v Q E, Room n A → Wd C av s → Rep C.P av s.heap d v → (∀ s', Wd C av s' → Ext C s.heap s'.heap → Q b s') → wpAny C.M A (truthy v) Q E s)
    (he : isTrue e f.env (eval e f.env) = (do let v ← eval e f.env; standAt e.pos; holding [v] (truthy v)) := by rfl) : Tst C n f σ e b := by
  intro A ow gs av s Q E R F h
  refine isTrue_plain (h1 A ow gs av s _ E R F fun v s₁ W₁ e₁ r₁ => ?_) he
  exact ht A _ s₁ v Q E R W₁ r₁ fun s₂ W₂ e₂ => h s₂ W₂ (e₁.trans e₂)
theorem truth_int {i : Int} : ∀ A av s v Q E, Room n A → Wd C av s → Rep C.P av s.heap (.int i) v → (∀ s', Wd C av s' → Ext C s.heap s'.heap → Q (decide (i ≠ 0)) s') → wpAny C.M A (truthy v) Q E s := by
  intro A av s v Q E R W r h
  obtain ⟨t, rfl⟩ := r.int_inv
  refine P.truthy_int ?_
  rw [show (i != 0) = decide (i ≠ 0) by by_cases q : i = 0 <;> simp [q, bne]]
  exact h s W (.refl _)
theorem truth_list {ds : List D} (hl : (ds.length : Int) < 2 ^ 63) : ∀ A av s v Q E, Room n A → Wd C av s → Rep C.P av s.heap (.lst ds) v → (∀ s', Wd C av s' → Ext C s.heap s'.heap → Q (!ds.isEmpty) s') → wpAny C.M A (truthy v) Q E s := by
  intro A av s v Q E R W r h
  obtain ⟨a, vs, rfl, ha, hp, hr⟩ := r.lst_inv
  refine wpAny_truthy_list hp.isList (by simpa [hr.length] using hl) ?_
  rw [show (!(List.toArray vs).isEmpty) = !ds.isEmpty by cases ds <;> cases vs <;> simp_all [RepL]]
  exact h _ (W.toks _) (.refl _)
theorem tst_not {e : Expr} {pos : Pos} {b : Bool} (h1 : Tst C n f σ e b) : Tst C n f σ (.UnaryOp .Not e pos) (!b) := by
  intro A ow gs av s Q E R F h
  exact isTrue_not (h1 A ow gs av s _ E R F fun s₁ W₁ e₁ => h s₁ W₁ e₁)
theorem tst_or_nil {pos : Pos} : Tst C n f σ (.BoolOp .Or [] pos) false := fun A ow gs av s Q E R F h => isTrue_or_nil (h s F.wd (.refl _))
theorem tst_or {e : Expr} {es : List Expr} {pos : Pos} {a b : Bool} (h1 : Tst C n f σ e a) (h2 : Tst C n f σ (.BoolOp .Or es pos) b) : Tst C n f σ (.BoolOp .Or (e :: es) pos) (a || b) := by
  intro A ow gs av s Q E R F h
  refine isTrue_or (h1 A ow gs av s _ E R F fun s₁ W₁ e₁ => ?_)
  cases a
  · exact h2 A ow gs av s₁ Q E R (F.ext W₁ e₁) fun s₂ W₂ e₂ => h s₂ W₂ (e₁.trans e₂)
  · exact h s₁ W₁ e₁
theorem ev_ifexp_true {t a b : Expr} {pos : Pos} {d : D} (h1 : Tst C n f σ t true) (h2 : Ev C n f σ a d) : Ev C n f σ (.IfExp t a b pos) d := by
  intro A ow gs av s Q E R F h
  refine wpAny_IfExp (h1 A ow gs av s _ E R F fun s₁ W₁ e₁ => ?_)
  exact h2 A ow gs av s₁ Q E R (F.ext W₁ e₁) fun v s₂ W₂ e₂ r₂ => h v s₂ W₂ (e₁.trans e₂) r₂
theorem ev_ifexp_false {t a b : Expr} {pos : Pos} {d : D} (h1 : Tst C n f σ t false) (h2 : Ev C n f σ b d) : Ev C n f σ (.IfExp t a b pos) d := by
  intro A ow gs av s Q E R F h
  refine wpAny_IfExp (h1 A ow gs av s _ E R F fun s₁ W₁ e₁ => ?_)
  exact h2 A ow gs av s₁ Q E R (F.ext W₁ e₁) fun v s₂ W₂ e₂ r₂ => h v s₂ W₂ (e₁.trans e₂) r₂

-- len
theorem cal_len_list {ds : List D} (hl : (ds.length : Int) < 2 ^ 63) : Cal C n (.bi "len") [.lst ds] (.int ds.length) := by
  intro A av s vf vs Q E R W tp rf rv h
  obtain rfl := rf.bi_inv
  obtain ⟨v, r, rfl, r1, r2⟩ := rv.inv
  obtain rfl := r2.inv0
  obtain ⟨a, us, rfl, ha, hp, hr⟩ := r1.lst_inv
  refine Calls.call_len_list hp.isList (by simpa [hr.length] using hl) ?_
  have e : (List.toArray us).size = ds.length := by simp [hr.length]
  rw [e]
  exact h _ _ (W.toks _) (.refl _) (rep_int _ _)

-- two names at once
theorem stores2 {x y : Str} {dx dy : D} {vx vy : Value} {A : Around} {ow : List (Str × Addr)} {gs : List (D × Value)} {av : List Addr} {s : Shared} {Q : Unit → Shared → Prop} {E : Value → Shared → Prop} (F : FS C f σ ow gs av s) (hx : Stk f x) (hy : Stk f y)
    (rx : Rep C.P (f.mut ow ++ av) s.heap dx vx) (ry : Rep C.P (f.mut ow ++ av) s.heap dy vy)
    (h : ∀ s', FS C f ((y, .val dy) :: (x, .val dx) :: σ) ow gs av s' → (∀ g, Kp C g s.heap → (∀ a ∈ f.mut ow, g a = none) → Kp C g s'.heap) → Q () s') :
    wpAny C.M A (storeName f.env x vx) (fun _ s₁ => wpAny C.M A (storeName f.env y vy) Q E s₁) E s := by
  refine st_any (d := .val dx) F hx rx fun h₁ tk₁ a₁ m₁ F₁ hs₁ => ?_
  have ry₁ : Rep C.P (f.mut ow ++ av) h₁ dy vy := ry.mono (fun b o hb e => (hs₁.2 b fun q => hb (q ▸ F.mut_av m₁)).trans e) fun _ h _ => h
  refine st_any (d := .val dy) F₁ hy ry₁ fun h₂ tk₂ a₂ m₂ F₂ hs₂ => ?_
  exact h _ F₂ fun g k hg => F₁.kp_same m₂ (F.kp_same m₁ k hg hs₁) hg hs₂

theorem assign2 {x y : Str} {px py pos : Pos} {k : Nat} {dx dy : D} {v : Value} {A : Around} {ow : List (Str × Addr)} {gs : List (D × Value)} {av : List Addr} {s : Shared} {Q : Unit → Shared → Prop} {E : Value → Shared → Prop} (R : Room n A) (F : FS C f σ ow gs av s) (hx : Stk f x) (hy : Stk f y)
    (r : Rep C.P (f.mut ow ++ av) s.heap (.tup [dx, dy]) v)
    (h : ∀ s', FS C f ((y, .val dy) :: (x, .val dx) :: σ) ow gs av s' → (∀ g, Kp C g s.heap → (∀ a ∈ f.mut ow, g a = none) → Kp C g s'.heap) → Q () s') :
    wpAny C.M A (assign (.Tuple [.Name x px, .Name y py] k pos) f.env v) Q E s := by
  obtain ⟨a, vs, rfl, ha, hl, hr⟩ := r.tup_inv
  obtain ⟨vx, r1, rfl, rx, hr1⟩ := hr.inv
  obtain ⟨vy, r2, rfl, ry, hr2⟩ := hr1.inv
  obtain rfl := hr2.inv0
  refine assign_Tuple_tuple R.hd hl rfl rfl fun h' he => ?_
  have keep : ∀ b o, s.heap.get? b = some o → h'.get? b = some o := fun b o e => he b o (Nat.ne_of_lt (Heap.lt_size e)) e
  have F' : FS C f σ ow gs av { s with heap := h' } := F.ext (s' := { s with heap := h' }) (F.wd.grow rfl rfl keep) (.of_keep keep)
  have up : ∀ {d v}, Rep C.P (f.mut ow ++ av) s.heap d v → Rep C.P (f.mut ow ++ av) h' d v := fun r => r.mono (fun b o _ e => keep b o e) fun _ h _ => h
  show wpAny C.M A (do holding [vy] (assign (.Name x px) f.env vx); holding [] (assign (.Name y py) f.env vy); pure ()) Q E _
  have := stores2 (Q := Q) (E := E) (A := A) F' hx hy (up rx) (up ry) fun s' F'' kk => h s' F'' fun g kg hg => kk g (fun b o hb e => keep b o (kg b o hb e)) hg
  refine wpAny_bind (wpAny_holding (wpAny_assign_Name (wpAny_mono this (fun _ s₁ h₁ => ?_) fun _ _ x => x)))
  exact wpAny_bind (wpAny_holding (wpAny_assign_Name (wpAny_mono h₁ (fun _ s₂ h₂ => wpAny_pure h₂) fun _ _ x => x)))

theorem ex_assign2 {x y : Str} {px py tpos pos : Pos} {k : Nat} {value : Expr} {dx dy : D} (h1 : Ev C n f σ value (.tup [dx, dy])) (hx : Stk f x) (hy : Stk f y)
    (hs : swapsWithSole [.Tuple [.Name x px, .Name y py] k tpos] value pos.line f.env = pure false := by rfl)
    (hw : swappedStores [.Tuple [.Name x px, .Name y py] k tpos] value f.env = pure none := by rfl) :
    Ex C n f σ (.Assign [.Tuple [.Name x px, .Name y py] k tpos] value pos) (.next ((y, .val dy) :: (x, .val dx) :: σ)) := by
  intro A ow gs av g s Q E R F kp hg h
  refine Assign_Tuple (h1 A ow gs av s _ E R F fun v s₁ W₁ e₁ r₁ => ?_) hs hw
  have F₁ := F.ext W₁ e₁
  exact assign2 R F₁ hx hy r₁ fun s' F' kk => h _ s' ⟨rfl, ow, F', kk g (kp.ext e₁) hg, hg⟩
theorem ex_ift {test : Expr} {body orelse : List Stmt} {pos : Pos} {o : Out} {b : Bool} (h1 : Tst C n f σ test b) (hb : b = true) (h2 : Exs C n f σ body o) : Ex C n f σ (.If test body orelse pos) o := ex_if_true (hb ▸ h1) h2
theorem ex_iff {test : Expr} {body orelse : List Stmt} {pos : Pos} {o : Out} {b : Bool} (h1 : Tst C n f σ test b) (hb : b = false) (h2 : Exs C n f σ orelse o) : Ex C n f σ (.If test body orelse pos) o := ex_if_false (hb ▸ h1) h2
theorem ev_ift {t a b : Expr} {pos : Pos} {d : D} {c : Bool} (h1 : Tst C n f σ t c) (hc : c = true) (h2 : Ev C n f σ a d) : Ev C n f σ (.IfExp t a b pos) d := ev_ifexp_true (hc ▸ h1) h2
theorem ev_iff {t a b : Expr} {pos : Pos} {d : D} {c : Bool} (h1 : Tst C n f σ t c) (hc : c = false) (h2 : Ev C n f σ b d) : Ev C n f σ (.IfExp t a b pos) d := ev_ifexp_false (hc ▸ h1) h2
theorem stk_def {fd : FuncData} {L a : Addr} {x : Str} (h : fd.scope.names.lookup x = some .cell) : Stk (defFm fd L a) x := by
  obtain ⟨c, hc⟩ := Option.isSome_iff_exists.mp (cellsFrom_some (x := x) fd.scope.names (L + 1) [] (.inl h))
  exact .inr ⟨h, c, hc, List.mem_map_of_mem (f := (·.2)) (mem_of_lookup hc)⟩
theorem cells_def {fd : FuncData} {L a : Addr} : ∀ y c, (defFm fd L a).env.cells.lookup y = some c → c ∈ (defFm fd L a).mc := fun y c h => List.mem_map_of_mem (f := (·.2)) (mem_of_lookup h)
/-- a call of an inner def that turns nothing -/
theorem cal_clo {fd : FuncData} {fo : Obj} {q : Addr} {names : List Str} {body : List Stmt} {ds cds : List D} {cvs : List Value} {objs : List (Addr × Obj)} {fr : Sto} {r : D}
    (hd : fo.data = .func fd) (hbody : fd.body = .stmts body) (hbind : ∀ (s : Shared) (vs : List Value), vs.length = ds.length → BindsTo s fd ⟨vs, []⟩ (names.zip vs)) (hnd : names.Nodup) (hlen : names.length = ds.length)
    (hk : (names.all fun x => fd.scope.names.lookup x == some .local) = true) (hek : fd.scope.kind = .function ∧ fd.globals = mainGlobals ∧ fd.builtins = builtinsNs)
    (hco : fd.scope.isCoroutine = false) (hgen : fd.scope.isGenerator = false) (hnc' : (fd.scope.names.all fun x => x.2 != .cell) = true)
    (hci' : fd.closure.Pairwise fun x y => x.2 ≠ y.2)
    (hcd : ∃ c' oc, fd.code = .ref c' ∧ (c', oc) ∈ objs ∧ CodeObj oc fd.qualname)
    (hcl' : ∀ p ∈ fd.closure, ∃ o v, (p.2, o) ∈ objs ∧ o.data = .cell (some v))
    (hfr' : ∀ p ∈ fr, fd.scope.names.lookup p.1 = some .free ∧ ∃ d c o v, p.2 = .val d ∧ fd.closure.lookup p.1 = some c ∧ (c, o) ∈ objs ∧ o.data = .cell (some v) ∧
      (∀ av h, Rep C.P av h (.ob q fo objs cds cvs) (.ref q) → Rep C.P av h d v))
    (hb : ∀ L, Exs C n ⟨callEnv fd L q, []⟩ (names.zip (ds.map LD.val) ++ fr) body (.ret r)) : Cal C (n + 1) (.ob q fo objs cds cvs) ds r := by
  have hnc : ∀ x ∈ fd.scope.names, x.2 ≠ .cell := fun x hx => by simpa using List.all_eq_true.mp hnc' x hx
  have hci : ∀ x y c, fd.closure.lookup x = some c → fd.closure.lookup y = some c → x = y := fun x y c h1 h2 => name_of_addr hci' (mem_of_lookup h1) (mem_of_lookup h2)
  have hcl : ∀ x c, fd.closure.lookup x = some c → ∃ o v, (c, o) ∈ objs ∧ o.data = .cell (some v) := fun x c h => hcl' (x, c) (mem_of_lookup h)
  have hfr : ∀ x ld, fr.lookup x = some ld → fd.scope.names.lookup x = some .free ∧ ∃ d c o v, ld = .val d ∧ fd.closure.lookup x = some c ∧ (c, o) ∈ objs ∧ o.data = .cell (some v) ∧
      (∀ av h, Rep C.P av h (.ob q fo objs cds cvs) (.ref q) → Rep C.P av h d v) := fun x ld h => hfr' (x, ld) (mem_of_lookup h)
  intro A av s vf vs Q E R W tp rf rv h
  obtain ⟨rfl, q1, q2, q3, q4⟩ := rf.ob_inv
  obtain ⟨c', oc, e1, e2, vs', tq, e3, e4⟩ := hcd
  refine enter_clo (fr := fr) (gs := []) hd hbody hbind hnd hlen hk hek hco hgen hnc hci R W tp q2 ⟨c', oc, vs', tq, e1, (q3 _ e2).2, e3, e4⟩
    (fun x c e => let ⟨o, v, m, hv⟩ := hcl x c e; ⟨some v, o, (q3 _ m).2, hv⟩) (fun x ld e => let ⟨k, d, c, o, v, e5, e6, m, hv, hr⟩ := hfr x ld e; ⟨k, d, c, v, e5, e6, ⟨o, (q3 _ m).2, hv⟩, hr av _ rf⟩) rv (fun p hp => nomatch hp) fun L s₁ E' F keep hLn R' => ?_
  refine hb L _ [] [] av (fun b => s.heap.get? b) _ _ _ R' F (fun b o _ e => keep b o e) (fun a ha => ?_) fun fl s' ho => ?_
  · obtain rfl : a = L := by simpa [Fm.mut, callEnv, newEnv] using ha
    exact hLn
  · obtain ⟨v, rfl, W', k', r'⟩ := ho
    exact h v s' W' (fun b o hb e => k' b o hb e) r'
theorem ev_eq {e : Expr} {d d' : D} (h : Ev C n f σ e d) (he : d = d') : Ev C n f σ e d' := he ▸ h
theorem cal_eq {fd d d' : D} {ds : List D} (h : Cal C n fd ds d) (he : d = d') : Cal C n fd ds d' := he ▸ h
end
end Mine
namespace Mine
theorem intBits_le {a : Int} {k : Nat} (h : a.natAbs < 2 ^ k) : Builtin.Int.intBits a ≤ k := by
  unfold Builtin.Int.intBits
  by_cases q : (a == 0) = true
  · rw [if_pos q]; exact Nat.zero_le _
  · rw [if_neg q]
    have : a.natAbs ≠ 0 := fun e => q (by simpa using e)
    have := (Nat.log2_lt this).mpr h
    lia
theorem mulOk_left {a b : Int} (h : a.natAbs < 2 ^ 64) : IntMulOk a b := IntMulOk.of_left (intBits_le h)
end Mine
end
section
namespace Mine
section
variable {C : Cst} {n : Nat} {f : Fm} {σ : Sto} {ow : List (Str × Addr)} {gs : List (D × Value)} {av : List Addr} {s s' : Shared}

/-- places set aside moved: the frame stands -/
theorem FS.move {X : List Addr} (F : FS C f σ ow gs av s) (W : Wd C (f.mut ow ++ av) s') (hk : ∀ b o, b ∉ X → s.heap.get? b = some o → s'.heap.get? b = some o) (hX : ∀ b ∈ X, b ∈ av)
    (hc : ∀ x c, f.env.cells.lookup x = some c → c ∉ X) : FS C f σ ow gs av s' := by
  obtain ⟨m, hm, hv⟩ := F.vars
  have nX : ∀ a ∈ f.mut ow, a ∉ X := fun a ha hx => F.dj a ha (hX a hx)
  have hk' : ∀ b o, b ∉ f.mut ow ++ av → s.heap.get? b = some o → s'.heap.get? b = some o := fun b o hb q => hk b o (fun m => hb (List.mem_append_right _ (hX b m))) q
  refine ⟨F.ek, F.tp, W, F.nd, F.dj, F.ci, fun x c h => ?_, ⟨m, hm.at' fun o q => hk _ o (nX _ F.L_mut) q, fun x ld h => ?_⟩, fun p hp => (F.gh p hp).mono hk' fun _ h _ => h⟩
  · obtain ⟨v, hcv⟩ := F.cl x c h
    exact ⟨v, isCell_at hcv fun o q => hk _ o (hc x c h) q⟩
  · obtain ⟨v, h1, h2⟩ := hv x ld h
    exact ⟨v, h1.imp id fun ⟨k, c, l, hcv⟩ => ⟨k, c, l, isCell_at hcv fun o q => hk _ o (hc x c l) q⟩, h2.mono hk' (fun _ h _ => h) fun a ha o q => hk _ o (nX _ (F.own_mem ha)) q⟩

/-- a name that bears a list of the frame's own -/
theorem FS.own (F : FS C f σ ow gs av s) {x : Str} {ds : List D} (hx : σ.lookup x = some (.own ds)) : ∃ a vs m, s.heap.Ns f.env.locals m ∧ AtVar f.env m s.heap x (.ref a) ∧ ow.lookup x = some a ∧ a ∈ f.mut ow ∧ s.heap.PlainList a (List.toArray vs) ∧ RepL C.P (f.mut ow ++ av) s.heap ds vs := by
  obtain ⟨m, hm, hv⟩ := F.vars
  obtain ⟨v, h1, a, vs, rfl, h2, h3, h4⟩ := hv x _ hx
  exact ⟨a, vs, m, hm, h1, h2, F.own_mem h2, h3, h4⟩

theorem atVar_name {A : Around} {x : Str} {pos : Pos} {v : Value} {m : Str → Option Value} {Q : Value → Shared → Prop} {E : Value → Shared → Prop} (F : FS C f σ ow gs av s) (hm : s.heap.Ns f.env.locals m) (h : AtVar f.env m s.heap x v) (hq : Q v s)
    (hd : (x == ("__debug__" : Str)) = false) (hc' : (x == ("__classdict__" : Str)) = false) : wpAny C.M A (eval (.Name x pos) f.env) Q E s := by
  rcases h with ⟨k, h⟩ | ⟨k | k, c, hc, hv⟩
  · exact wpAny_Name (wpAny_loadName_local F.ek.1 k hm h hq) hd
  · exact wpAny_Name (wpAny_loadName_cell F.ek.1 k hc hv hq) hd
  · exact wpAny_Name (wpAny_loadName_free F.ek.1 k hc hv hq hc') hd

theorem lookup_filter_ne {x : Str} {a b : Addr} : ∀ {l : List (Str × Addr)}, l.lookup x = some b → b ≠ a → (l.filter fun p => p.2 != a).lookup x = some b
  | p :: l, h, hb => by
    obtain ⟨y, c⟩ := p
    rw [List.lookup_cons] at h
    by_cases q : x = y
    · subst q
      simp only [beq_self_eq_true, Option.some.injEq] at h
      subst h
      rw [List.filter_cons, if_pos (by simpa using hb), List.lookup_cons]; simp
    · rw [beq_eq_false_iff_ne.mpr q] at h
      rw [List.filter_cons]
      split
      · rw [List.lookup_cons, beq_eq_false_iff_ne.mpr q]; exact lookup_filter_ne h hb
      · exact lookup_filter_ne h hb

/-- a list of the frame's own that turns no more -/
theorem FS.freeze (F : FS C f σ ow gs av s) {x : Str} {ds : List D} (hx : σ.lookup x = some (.own ds)) : ∃ ow', FS C f ((x, .val (.lst ds)) :: σ) ow' gs av s ∧ (∀ a ∈ f.mut ow', a ∈ f.mut ow) ∧ ∀ b ∈ f.mut ow, b ∈ f.mut ow' ∨ ow.lookup x = some b := by
  obtain ⟨a, vs, m, hm, hat, hl, ham, hpl, hr⟩ := F.own hx
  have sub : ∀ b ∈ f.mut (ow.filter fun p => p.2 != a), b ∈ f.mut ow := fun b hb => by
    rcases List.mem_cons.mp hb with rfl | hb
    · exact List.mem_cons_self ..
    · rcases List.mem_append.mp hb with hb | hb
      · exact List.mem_cons_of_mem _ (List.mem_append_left _ hb)
      · obtain ⟨p, hp, rfl⟩ := List.mem_map.mp hb
        exact List.mem_cons_of_mem _ (List.mem_append_right _ (List.mem_map_of_mem (List.mem_filter.mp hp).1))
  have sub2 : ∀ b, b ∈ f.mut (ow.filter fun p => p.2 != a) ++ av → b ∈ f.mut ow ++ av := fun b h => (List.mem_append.mp h).elim (fun h => List.mem_append_left _ (sub b h)) fun h => List.mem_append_right _ h
  have nd := F.nd
  rw [Fm.mut, List.nodup_cons, List.nodup_append] at nd
  have aow : a ∈ ow.map (·.2) := List.mem_map_of_mem (mem_of_lookup hl)
  have anot : a ∉ f.mut (ow.filter fun p => p.2 != a) ++ av := fun h => by
    rcases List.mem_append.mp h with h | h
    · rcases List.mem_cons.mp h with e | h
      · exact nd.1 (e ▸ List.mem_append_right _ aow)
      · rcases List.mem_append.mp h with h | h
        · exact nd.2.2.2 a h a aow rfl
        · obtain ⟨p, hp, e⟩ := List.mem_map.mp h
          have := (List.mem_filter.mp hp).2
          rw [e] at this; simp at this
    · exact F.dj a ham h
  obtain ⟨m', hm', hv⟩ := F.vars
  have down : ∀ {d v}, Rep C.P (f.mut ow ++ av) s.heap d v → Rep C.P (f.mut (ow.filter fun p => p.2 != a) ++ av) s.heap d v := fun r => r.mono (fun _ _ _ e => e) fun b h _ => sub2 b h
  refine ⟨ow.filter fun p => p.2 != a, ⟨F.ek, F.tp, F.wd.less sub2 fun t ht => List.mem_append_right _ (F.tp _ (List.mem_map_of_mem ht)), ?_, fun b h => F.dj b (sub b h), F.ci, F.cl, ⟨m', hm', fun y ld h => ?_⟩, fun p hp => down (F.gh p hp)⟩, sub, fun b hb => ?_⟩
  · rw [Fm.mut, List.nodup_cons, List.nodup_append]
    have hsub : ∀ b ∈ (ow.filter fun p => p.2 != a).map (·.2), b ∈ ow.map (·.2) := fun b hb => by obtain ⟨p, hp, rfl⟩ := List.mem_map.mp hb; exact List.mem_map_of_mem (List.mem_filter.mp hp).1
    refine ⟨fun h => nd.1 ((List.mem_append.mp h).elim (List.mem_append_left _) fun h => List.mem_append_right _ (hsub _ h)), nd.2.1, nd.2.2.1.sublist (List.filter_sublist.map _), fun c hc b hb => nd.2.2.2 c hc b (hsub b hb)⟩
  · rw [List.lookup_cons] at h
    by_cases q : y = x
    · subst q
      simp only [beq_self_eq_true, Option.some.injEq] at h
      subst h
      obtain ⟨v, h1, a', vs', rfl, h2, h3, h4⟩ := hv y _ hx
      rw [hl] at h2; cases h2
      refine ⟨_, h1, ?_⟩
      show Rep _ _ _ _ _
      simp only [Rep]
      exact ⟨a, vs', rfl, anot, h3, h4.mono (fun _ _ _ e => e) fun b h _ => sub2 b h⟩
    · rw [beq_eq_false_iff_ne.mpr q] at h
      obtain ⟨v, h1, h2⟩ := hv y ld h
      refine ⟨v, h1, ?_⟩
      cases ld with
      | val d => exact down h2
      | own es =>
        obtain ⟨a', vs', e, h3, h4, h5⟩ := h2
        refine ⟨a', vs', e, lookup_filter_ne h3 (fun e => ?_), h4, h5.mono (fun _ _ _ e => e) fun b h _ => sub2 b h⟩
        subst e
        have m1 := mem_of_lookup h3
        have m2 := mem_of_lookup hl
        have inj : ∀ {l : List (Str × Addr)}, (l.map (·.2)).Nodup → ∀ {y x : Str} {a : Addr}, (y, a) ∈ l → (x, a) ∈ l → y = x := by
          intro l
          induction l with
          | nil => intro _ _ _ _ h; cases h
          | cons p l ih =>
            intro hn y x a h1 h2
            rw [List.map_cons, List.nodup_cons] at hn
            rcases List.mem_cons.mp h1 with e1 | h1 <;> rcases List.mem_cons.mp h2 with e2 | h2
            · rw [← e1] at e2; exact (Prod.mk.inj e2).1.symm
            · exact absurd (by rw [← e1]; exact List.mem_map_of_mem (f := (·.2)) h2) hn.1
            · exact absurd (by rw [← e2]; exact List.mem_map_of_mem (f := (·.2)) h1) hn.1
            · exact ih hn.2 h1 h2
        exact q (inj nd.2.2.1 m1 m2)
  · by_cases q : b = a
    · exact .inr (q ▸ hl)
    · refine .inl ?_
      rcases List.mem_cons.mp hb with rfl | hb
      · exact List.mem_cons_self ..
      · rcases List.mem_append.mp hb with hb | hb
        · exact List.mem_cons_of_mem _ (List.mem_append_left _ hb)
        · obtain ⟨p, hp, rfl⟩ := List.mem_map.mp hb
          exact List.mem_cons_of_mem _ (List.mem_append_right _ (List.mem_map_of_mem (List.mem_filter.mpr ⟨hp, by simpa using q⟩)))

theorem exs_freeze {x : Str} {ds : List D} {st : List Stmt} {o : Out} (hx : σ.lookup x = some (.own ds)) (h1 : Exs C n f ((x, .val (.lst ds)) :: σ) st o) : Exs C n f σ st o := by
  intro A ow gs av g s Q E R F k hg h
  obtain ⟨ow', F', sub, _⟩ := F.freeze hx
  exact h1 A ow' gs av g s Q E R F' k (fun a ha => hg a (sub a ha)) h

noncomputable def D.scalar : D → Prop
  | .none | .bool _ | .int _ | .str _ => True
  | _ => False
theorem Rep.scalar {P : Params} {av av' : List Addr} {h h' : Heap} {d : D} {v : Value} (hd : d.scalar) (r : Rep P av h d v) : Rep P av' h' d v := by
  cases d <;> first | exact hd.elim | simpa only [Rep] using r

/-- the world stands with the list set aside too -/
theorem FS.unfreeze (F : FS C f σ ow gs av s) {x : Str} {ds : List D} (hx : σ.lookup x = some (.own ds)) {ow' : List (Str × Addr)} (F' : FS C f ((x, .val (.lst ds)) :: σ) ow' gs av s) (hsub : ∀ b ∈ f.mut ow, b ∈ f.mut ow' ∨ ow.lookup x = some b)
    (W : Wd C (f.mut ow' ++ av) s') (e : Ext C s.heap s'.heap) : Wd C (f.mut ow ++ av) s' := by
  obtain ⟨a, vs, m, hm, hat, hl, ham, ⟨k, hpl⟩, hr⟩ := F.own hx
  refine ⟨W.sub, fun b hb => F.wd.out b hb, fun b hb => ?_, fun t ht => ⟨List.mem_append_right _ (F.tp _ (List.mem_map_of_mem ht)), ?_⟩, W.gens, W.os⟩
  · rcases List.mem_append.mp hb with hb | hb
    · obtain ⟨o, ho⟩ := F.wd.live b (List.mem_append_left _ hb)
      exact ⟨o, e b o (F.mut_tp hb) ho⟩
    · exact W.live b (List.mem_append_right _ hb)
  · obtain ⟨ps, hp, hps⟩ := (W.tabs t ht).2
    refine ⟨ps, hp, hps.imp id fun ⟨c', e1, e2, e3⟩ => ⟨c', e1, fun m => ?_, e3⟩⟩
    rcases List.mem_append.mp m with m | m
    · rcases hsub c' m with m | m
      · exact e2 (List.mem_append_left _ m)
      · rw [hl] at m; cases m
        obtain ⟨c, oc, vs', tq, q1, q2, q3, _⟩ := e3
        cases q1
        rw [e a _ (F.mut_tp ham) hpl] at q2; cases q2; cases q3
    · exact e2 (List.mem_append_right _ m)

theorem FS.freeze2 (F : FS C f σ ow gs av s) {x : Str} {ds : List D} (hx : σ.lookup x = some (.own ds)) : ∃ ow', FS C f ((x, .val (.lst ds)) :: σ) ow' gs av s ∧ ∀ s', Wd C (f.mut ow' ++ av) s' → Ext C s.heap s'.heap → Wd C (f.mut ow ++ av) s' := by
  obtain ⟨ow', F', sub, hs⟩ := F.freeze hx
  exact ⟨ow', F', fun s' W e => F.unfreeze hx F' hs W e⟩

/-- a look at the frame's own list -/
theorem ev_own {x : Str} {ds : List D} {e : Expr} {d : D} (hx : σ.lookup x = some (.own ds)) (hd : d.scalar) (h1 : Ev C n f ((x, .val (.lst ds)) :: σ) e d) : Ev C n f σ e d := by
  intro A ow gs av s Q E R F h
  obtain ⟨ow', F', up⟩ := F.freeze2 hx
  exact h1 A ow' gs av s Q E R F' fun v s' W e r => h v s' (up s' W e) e (r.scalar hd)
/-- an expression gives a new list -/
noncomputable def EvO (C : Cst) (n : Nat) (f : Fm) (σ : Sto) (e : Expr) (ds : List D) : Prop := ∀ A ow gs av s Q E, Room n A → FS C f σ ow gs av s →
  (∀ a vs s', Wd C (f.mut ow ++ av) s' → Ext C s.heap s'.heap → s.heap.get? a = none → s'.heap.PlainList a (List.toArray vs) → RepL C.P (a :: (f.mut ow ++ av)) s'.heap ds vs → Q (.ref a) s') → wpAny C.M A (eval e f.env) Q E s
theorem evo_list {es : List Expr} {pos : Pos} {ds : List D} (h1 : EvL C n f σ pos es ds) (hl : ds.length ≤ sizeLine := by first | decide | (simp [sizeLine])) : EvO C n f σ (.List es pos) ds := by
  intro A ow gs av s Q E R F h
  refine wpAny_List (h1 A ow gs av s _ E R F fun vs s₁ W₁ e₁ r₁ => ⟨by rw [r₁.length]; exact hl, ?_⟩)
  have hn : s₁.heap.get? s₁.heap.objs.size = none := fresh_none (Nat.le_refl _)
  refine h _ vs _ (W₁.push _) (e₁.trans (Ext.push _ _)) ?_ ⟨0, Heap.get?_push_size _ rfl⟩ (r₁.mono (fun _ _ _ e => Heap.get?_push_of_some _ e) fun b hb ⟨o, e⟩ => ?_)
  · cases q : s.heap.get? s₁.heap.objs.size with
    | none => rfl
    | some o =>
      by_cases m : s₁.heap.objs.size ∈ C.TP
      · obtain ⟨ps, e⟩ := (F.ext W₁ e₁).tab_obj m
        rw [hn] at e; cases e
      · rw [e₁ _ _ m q] at hn; cases hn
  · rcases List.mem_cons.mp hb with rfl | hb
    · rw [hn] at e; cases e
    · exact hb
theorem evo_ev {e : Expr} {ds : List D} (h1 : EvO C n f σ e ds) : Ev C n f σ e (.lst ds) := by
  intro A ow gs av s Q E R F h
  refine h1 A ow gs av s Q E R F fun a vs s' W e hn hp r => h _ s' W e ?_
  simp only [Rep]
  have ha : a ∉ f.mut ow ++ av := fun m => by obtain ⟨o, e⟩ := F.wd.live a m; rw [hn] at e; cases e
  exact ⟨a, vs, rfl, ha, hp, r.mono (fun _ _ _ e => e) fun b hb _ => List.mem_cons_of_mem _ hb⟩

/-- the frame with a new list of its own -/
theorem FS.addown (F : FS C f σ ow gs av s) {x : Str} {a : Addr} (W : Wd C (f.mut ow ++ av) s') (e : Ext C s.heap s'.heap) (hn : s.heap.get? a = none) (hp : ∃ its, s'.heap.PlainList a its) :
    FS C f (σ.filter fun p => p.1 != x) ((x, a) :: ow) gs av s' := by
  have F' := F.ext W e
  have anot : a ∉ f.mut ow ++ av := fun m => by obtain ⟨o, e⟩ := F.wd.live a m; rw [hn] at e; cases e
  have mem : ∀ b, b ∈ f.mut ((x, a) :: ow) ++ av ↔ b = a ∨ b ∈ f.mut ow ++ av := fun b => by simp [Fm.mut]; grind
  have up : ∀ {d v}, Rep C.P (f.mut ow ++ av) s.heap d v → Rep C.P (f.mut ((x, a) :: ow) ++ av) s'.heap d v := fun r =>
    r.mono (fun b o hb q => e b o (fun m => hb (F.wd.tp m)) q) fun b hb ⟨o, q⟩ => ((mem b).mp hb).elim (fun h => by rw [h, hn] at q; cases q) id
  have upL : ∀ {d v}, RepL C.P (f.mut ow ++ av) s.heap d v → RepL C.P (f.mut ((x, a) :: ow) ++ av) s'.heap d v := fun r =>
    r.mono (fun b o hb q => e b o (fun m => hb (F.wd.tp m)) q) fun b hb ⟨o, q⟩ => ((mem b).mp hb).elim (fun h => by rw [h, hn] at q; cases q) id
  obtain ⟨its, k, hpl⟩ := hp
  have aG : C.G.get? a = none := by
    cases q : C.G.get? a with
    | none => rfl
    | some o => rw [F.wd.sub _ _ q] at hn; cases hn
  obtain ⟨m, hm, hv⟩ := F.vars
  refine ⟨F.ek, F.tp, ⟨W.sub, fun b hb => ((mem b).mp hb).elim (fun h => h ▸ aG) (W.out b), fun b hb => ((mem b).mp hb).elim (fun h => ⟨_, h ▸ hpl⟩) (W.live b), fun t ht => ⟨(mem _).mpr (.inr (W.tabs t ht).1), ?_⟩, W.gens, W.os⟩, ?_, fun b hb h => ?_, F.ci, F'.cl, ⟨m, hm.at' fun o q => e _ _ (F.mut_tp F.L_mut) q, fun y ld h => ?_⟩, fun p hp => up (F.gh p hp)⟩
  · obtain ⟨ps, q, r⟩ := (W.tabs t ht).2
    refine ⟨ps, q, r.imp id fun ⟨c', e1, e2, e3⟩ => ⟨c', e1, fun m => ((mem c').mp m).elim (fun h => ?_) e2, e3⟩⟩
    obtain ⟨c, oc, vs', tq, q1, q2, q3, _⟩ := e3
    cases q1
    rw [h, hpl] at q2; cases q2; cases q3
  · have nd := F.nd
    have a1 : a ∉ f.mut ow := fun m => anot (List.mem_append_left _ m)
    simp only [Fm.mut, List.map_cons, List.nodup_cons, List.nodup_append, List.mem_append, List.mem_cons] at nd a1 ⊢
    grind
  · rcases List.mem_cons.mp hb with rfl | hb
    · exact F.dj _ F.L_mut h
    · rcases List.mem_append.mp hb with hb | hb
      · exact F.dj b (List.mem_cons_of_mem _ (List.mem_append_left _ hb)) h
      · rcases List.mem_cons.mp hb with rfl | hb
        · exact anot (List.mem_append_right _ h)
        · exact F.dj b (List.mem_cons_of_mem _ (List.mem_append_right _ hb)) h
  · have hyx : y ≠ x ∧ σ.lookup y = some ld := by
      have : ∀ {l : Sto}, (l.filter fun p => p.1 != x).lookup y = some ld → y ≠ x ∧ l.lookup y = some ld := by
        intro l
        induction l with
        | nil => intro h; cases h
        | cons p l ih =>
          intro h
          rw [List.filter_cons] at h
          by_cases q : p.1 = x
          · rw [if_neg (by simp [q])] at h
            obtain ⟨h1, h2⟩ := ih h
            refine ⟨h1, ?_⟩
            obtain ⟨z, u⟩ := p
            rw [List.lookup_cons, beq_eq_false_iff_ne.mpr (fun e => h1 (e.trans q))]; exact h2
          · rw [if_pos (by simpa using q)] at h
            obtain ⟨z, u⟩ := p
            rw [List.lookup_cons] at h ⊢
            by_cases q2 : y = z
            · subst q2; exact ⟨q, by simpa using h⟩
            · rw [beq_eq_false_iff_ne.mpr q2] at h ⊢; exact ih h
      exact this h
    obtain ⟨v, h1, h2⟩ := hv y ld hyx.2
    refine ⟨v, h1.imp id fun ⟨k, c, l, hc⟩ => ⟨k, c, l, isCell_at hc fun o q => e _ _ (F.cell_tp hc) q⟩, ?_⟩
    cases ld with
    | val d => exact up h2
    | own es =>
      obtain ⟨b, vs, q1, q2, q3, q4⟩ := h2
      refine ⟨b, vs, q1, ?_, q3.at fun o q => e _ _ (F.mut_tp (F.own_mem q2)) q, upL q4⟩
      rw [List.lookup_cons, beq_eq_false_iff_ne.mpr hyx.1]; exact q2
end
end Mine
end
section
namespace Mine
section
variable {C : Cst} {n : Nat} {f : Fm} {σ : Sto} {ow : List (Str × Addr)} {gs : List (D × Value)} {av : List Addr} {s s' : Shared}

theorem getM_list {ds : List D} {name : Str} {id : String} (slot : Slot "list" name id) (hty : typeOf (.builtin id) = pure (.type "method_descriptor")) : GetM C (.lst ds) name id := by
  intro A av s v pl Q E r h
  obtain ⟨a, vs, rfl, _, ⟨k, hp⟩, _⟩ := r.lst_inv
  exact getMethod_builtin ⟨_, hp, rfl⟩ PySem.F.plainAttrs_list slot hty (fun b e => by cases e; exact ⟨_, hp, rfl⟩) h
theorem getM_str {x : Str} {name : Str} {id : String} (slot : Slot "str" name id) (hty : typeOf (.builtin id) = pure (.type "method_descriptor")) : GetM C (.str x) name id := by
  intro A av s v pl Q E r h
  obtain ⟨t, rfl⟩ := r.str_inv
  exact getMethod_builtin (typeIs_str _ _ _) PySem.F.plainAttrs_str slot hty (fun b e => by cases e) h

theorem FS.g_new (F : FS C f σ ow gs av s) {g : Addr → Option Obj} (k : Kp C g s.heap) {a : Addr} (hn : s.heap.get? a = none) : g a = none := by
  cases q : g a with
  | none => rfl
  | some o =>
    by_cases m : a ∈ C.TP
    · obtain ⟨ps, e⟩ := F.tab_obj m; rw [hn] at e; cases e
    · rw [k a o m q] at hn; cases hn

theorem look_filter {x y : Str} {ld : LD} : ∀ {l : Sto}, ((x, ld) :: l).lookup y = ((x, ld) :: l.filter fun p => p.1 != x).lookup y := by
  intro l
  by_cases q : y = x
  · simp [List.lookup_cons, q]
  · simp only [List.lookup_cons, beq_eq_false_iff_ne.mpr q]
    induction l with
    | nil => rfl
    | cons p l ih =>
      obtain ⟨z, u⟩ := p
      by_cases q2 : z = x
      · rw [List.filter_cons, if_neg (by simp [q2]), List.lookup_cons, beq_eq_false_iff_ne.mpr (fun e => q (e.trans q2))]; exact ih
      · rw [List.filter_cons, if_pos (by simpa using q2), List.lookup_cons, List.lookup_cons, ih]

/-- a new list under a name: the frame's own -/
theorem ex_assign_own {x : Str} {p : Pos} {value : Expr} {pos : Pos} {ds : List D} (h1 : EvO C n f σ value ds) (hx : Stk f x) (hs : swapsWith value (some (.Name x p)) pos.line f.env = pure false := by rfl) :
    Ex C n f σ (.Assign [.Name x p] value pos) (.next ((x, .own ds) :: σ)) := by
  intro A ow gs av g s Q E R F k hg h
  refine wpAny_Assign_Name (h1 A ow gs av s _ E R F fun a vs s₁ W₁ e₁ hn hp r₁ => ?_) hs
  have F₁ := F.addown (x := x) W₁ e₁ hn ⟨_, hp⟩
  have mem : ∀ b, b ∈ f.mut ((x, a) :: ow) ++ av ↔ b = a ∨ b ∈ f.mut ow ++ av := fun b => by simp [Fm.mut]; grind
  have hg' : ∀ b ∈ f.mut ((x, a) :: ow), g b = none := fun b hb => by
    rcases (mem b).mp (List.mem_append_left _ hb) with rfl | hb'
    · exact F.g_new k hn
    · rcases List.mem_append.mp hb' with hb' | hb'
      · exact hg b hb'
      · exact absurd hb' (F₁.dj b hb)
  refine st_any (d := .own ds) F₁ hx ⟨a, vs, rfl, by simp [List.lookup_cons], hp, r₁.mono (fun _ _ _ e => e) fun b hb _ => List.mem_cons.mpr ((mem b).mp hb)⟩ fun h' tk a' ha' F' hsb => ?_
  exact h _ _ ⟨rfl, (x, a) :: ow, F'.weaken fun y ld e => by rw [← look_filter]; exact e, F₁.kp_same ha' (k.ext e₁) hg' hsb, hg'⟩

theorem own_inj : ∀ {l : List (Str × Addr)}, (l.map (·.2)).Nodup → ∀ {y x : Str} {a : Addr}, (y, a) ∈ l → (x, a) ∈ l → y = x := by
  intro l
  induction l with
  | nil => intro _ _ _ _ h; cases h
  | cons p l ih =>
    intro hn y x a h1 h2
    rw [List.map_cons, List.nodup_cons] at hn
    rcases List.mem_cons.mp h1 with e1 | h1 <;> rcases List.mem_cons.mp h2 with e2 | h2
    · rw [← e1] at e2; exact (Prod.mk.inj e2).1.symm
    · exact absurd (by rw [← e1]; exact List.mem_map_of_mem (f := (·.2)) h2) hn.1
    · exact absurd (by rw [← e2]; exact List.mem_map_of_mem (f := (·.2)) h1) hn.1
    · exact ih hn.2 h1 h2

/-- the frame's own list turns -/
theorem FS.turn (F : FS C f σ ow gs av s) {x : Str} {ds ds' : List D} {a : Addr} {vs vs' : List Value} {h' : Heap} {tk : Nat} (hx : σ.lookup x = some (.own ds)) (hl : ow.lookup x = some a) (hp : s.heap.PlainList a (List.toArray vs))
    (hs : Heap.SameBut a s.heap h') (hp' : h'.PlainList a (List.toArray vs')) (r : RepL C.P (f.mut ow ++ av) s.heap ds' vs') : FS C f ((x, .own ds') :: σ) ow gs av { s with heap := h', toks := tk } := by
  have ham := F.own_mem hl
  obtain ⟨m, hm, hv⟩ := F.vars
  have keep : ∀ b o, b ≠ a → s.heap.get? b = some o → h'.get? b = some o := fun b o q e => (hs.2 b q).trans e
  have hk : ∀ b o, b ∉ f.mut ow ++ av → s.heap.get? b = some o → h'.get? b = some o := fun b o hb e => keep b o (fun q => hb (q ▸ F.mut_av ham)) e
  have cne : ∀ {c : Addr} {v : Option Value}, s.heap.IsCell c v → c ≠ a := fun ⟨o, e, hd⟩ q => by
    obtain ⟨k, hp⟩ := hp
    rw [q, hp] at e; cases e; cases hd
  refine ⟨F.ek, F.tp, F.wd_same ham hs (let ⟨k, e⟩ := hp'; ⟨_, e⟩), F.nd, F.dj, F.ci, fun y c h => let ⟨w, hc⟩ := F.cl y c h; ⟨w, isCell_at hc fun o e => keep _ o (cne hc) e⟩,
    ⟨m, hm.at' fun o e => keep _ o (Ne.symm (list_ns_ne hm hp)) e, fun y ld h => ?_⟩, fun p hp => Rep.mono hk (fun _ h _ => h) (F.gh p hp)⟩
  have hat : ∀ {y : Str} {v : Value}, AtVar f.env m s.heap y v → AtVar f.env m h' y v := fun h => h.imp id fun ⟨k, c, l, hc⟩ => ⟨k, c, l, isCell_at hc fun o e => keep _ o (cne hc) e⟩
  rw [List.lookup_cons] at h
  by_cases q : y = x
  · subst q
    simp only [beq_self_eq_true, Option.some.injEq] at h
    subst h
    obtain ⟨v, h1, a', us, rfl, h2, h3, h4⟩ := hv y _ hx
    rw [hl] at h2; cases h2
    exact ⟨_, hat h1, a, vs', rfl, hl, hp', r.mono hk fun _ h _ => h⟩
  · rw [beq_eq_false_iff_ne.mpr q] at h
    obtain ⟨v, h1, h2⟩ := hv y ld h
    refine ⟨v, hat h1, h2.mono hk (fun _ h _ => h) fun b hb o e => keep b o (fun q2 => ?_) e⟩
    subst q2
    have nd := F.nd
    rw [Fm.mut, List.nodup_cons, List.nodup_append] at nd
    exact q (own_inj nd.2.2.1 (mem_of_lookup hb) (mem_of_lookup hl))

/-- x.append(e) -/
theorem ex_append {x : Str} {xp apos cpos pos : Pos} {e : Expr} {pl : Sem Bool} {ds : List D} {d : D} (hx : σ.lookup x = some (.own ds)) (h1 : Ev C n f σ e d) (hl : ds.length ≤ sizeLine)
    (hd : (x == ("__debug__" : Str)) = false := by decide) (hc' : (x == ("__classdict__" : Str)) = false := by decide)
    (he : eval (.Call (.Attribute (.Name x xp) "append" apos) [e] [] cpos) f.env = (do
      let ov ← eval (.Name x xp) f.env
      standAt apos.atName
      let (fv, first) ← holding [ov] (getMethod ov "append" pl)
      callWith cpos fv first (backTo cpos (starEach [e] f.env)) []) := by rfl)
    (hp : (backTo cpos (starEach [e] f.env)).any (·.1) = false := by rfl) (hs : starEach [e] f.env = (false, eval e f.env) :: starEach [] f.env := by rfl)
    (hi : interactive f.env = false := by rfl) (hsw : swapsWith (.Call (.Attribute (.Name x xp) "append" apos) [e] [] cpos) none pos.line f.env = pure false := by rfl) :
    Ex C n f σ (.Expr (.Call (.Attribute (.Name x xp) "append" apos) [e] [] cpos) pos) (.next ((x, .own (ds ++ [d])) :: σ)) := by
  intro A ow gs av g s Q E R F k hg h
  obtain ⟨a, vs, m, hm, hat, hla, ham, hpl, hr⟩ := F.own hx
  refine wpAny_Expr (MethodCall_ (pl := pl) (atVar_name F hm hat ?_ hd hc') he) hi hsw
  obtain ⟨k', hpl'⟩ := hpl
  refine getMethod_builtin ⟨_, hpl', rfl⟩ PySem.F.plainAttrs_list PySem.F.slot_list_append PySem.F.type_list_append (fun b e => by cases e; exact ⟨_, hpl', rfl⟩) ?_
  refine callWith_of (P := C.K.In) (by show ((backTo cpos (starEach [e] f.env)).any (·.1) || false) = false; rw [hp]; rfl) (fun hh X => ⟨.machine, .inr (.inl rfl), Looks.of_pure rfl⟩) (evalArgs_evl hp ((evl_cons h1 evl_nil hs) A ow gs av s _ E R F fun us s₂ W₂ e₂ r₂ => ⟨W₂.KIn, ?_⟩))
  have F₂ := F.ext W₂ e₂
  obtain ⟨v, us', rfl, rv, r3⟩ := r₂.inv
  obtain rfl := r3.inv0
  obtain ⟨a₂, vs₂, m₂, hm₂, hat₂, hla₂, ham₂, hpl₂, hr₂⟩ := F₂.own hx
  rw [hla] at hla₂; cases hla₂
  refine wpAny_list_append_plain (x := v) hpl₂ (fun h' hp' hsb => ?_) (by simp [hr₂.length, hl])
  have e3 : (List.toArray vs₂).push v = List.toArray (vs₂ ++ [v]) := by simp
  rw [e3] at hp'
  exact h _ _ ⟨rfl, ow, F₂.turn (tk := s₂.toks) hx hla hpl₂ hsb hp' (hr₂.append (.one rv)), F₂.kp_same ham₂ (k.ext e₂) hg hsb, hg⟩

/-- x.reverse() -/
theorem ex_reverse {x : Str} {xp apos cpos pos : Pos} {pl : Sem Bool} {ds : List D} (hx : σ.lookup x = some (.own ds)) (hl : ds.length ≤ sizeLine)
    (hd : (x == ("__debug__" : Str)) = false := by decide) (hc' : (x == ("__classdict__" : Str)) = false := by decide)
    (he : eval (.Call (.Attribute (.Name x xp) "reverse" apos) [] [] cpos) f.env = (do
      let ov ← eval (.Name x xp) f.env
      standAt apos.atName
      let (fv, first) ← holding [ov] (getMethod ov "reverse" pl)
      callWith cpos fv first (backTo cpos (starEach [] f.env)) []) := by rfl)
    (hi : interactive f.env = false := by rfl) (hsw : swapsWith (.Call (.Attribute (.Name x xp) "reverse" apos) [] [] cpos) none pos.line f.env = pure false := by rfl) :
    Ex C n f σ (.Expr (.Call (.Attribute (.Name x xp) "reverse" apos) [] [] cpos) pos) (.next ((x, .own ds.reverse) :: σ)) := by
  intro A ow gs av g s Q E R F k hg h
  obtain ⟨a, vs, m, hm, hat, hla, ham, hpl, hr⟩ := F.own hx
  refine wpAny_Expr (MethodCall_ (pl := pl) (atVar_name F hm hat ?_ hd hc') he) hi hsw
  obtain ⟨k', hpl'⟩ := id hpl
  refine getMethod_builtin ⟨_, hpl', rfl⟩ PySem.F.plainAttrs_list PySem.F.slot_list_reverse PySem.F.type_list_reverse (fun b e => by cases e; exact ⟨_, hpl', rfl⟩) ?_
  refine callWith_method0 ?_
  have hsz : (List.toArray vs).size ≤ sizeLine := by simp [hr.length, hl]
  refine call_meets PySem.F.slot_list_reverse ⟨_, hpl', rfl⟩ PySem.F.entry_list_reverse (PySem.F.args_list_reverse_1 _) (AutoListH.list_reverse_list_0 a (List.toArray vs) k' hsz) ⟨hpl', ?_⟩
  have hp' : (s.heap.update a (Obj.mapSeq fun x => x.reverse)).PlainList a (List.toArray vs.reverse) := by
    refine ⟨k', ?_⟩
    rw [Heap.get?_update_self _ hpl' (by simp [Obj.mapSeq, Obj.isFreed])]
    simp [Obj.mapSeq]
  exact h _ _ ⟨rfl, ow, F.turn (tk := s.toks) hx hla hpl (Heap.SameBut.update ..) hp' hr.reverse, F.kp_same ham k hg (Heap.SameBut.update ..), hg⟩
end
end Mine
end
section
namespace Mine
/-- the number that the digits spell, the lowest first -/
noncomputable def valD (n : Nat) : List Int → Int
  | [] => 0
  | x :: r => x + 2 ^ n * valD n r
theorem valD_append (n : Nat) : ∀ xs ys : List Int, valD n (xs ++ ys) = valD n xs + 2 ^ (n * xs.length) * valD n ys
  | [], ys => by simp [valD]
  | x :: xs, ys => by
    simp only [List.cons_append, valD, valD_append n xs ys, List.length_cons, Nat.mul_succ, Int.pow_add]
    rw [Int.mul_add, ← Int.mul_assoc, Int.mul_comm (2 ^ (n * xs.length)) (2 ^ n)]
    lia
theorem valD_nonneg (n : Nat) : ∀ xs : List Int, (∀ x ∈ xs, 0 ≤ x) → 0 ≤ valD n xs
  | [], _ => by simp [valD]
  | x :: xs, h => by
    have h1 := h x (List.mem_cons_self ..)
    have h2 := valD_nonneg n xs fun y hy => h y (List.mem_cons_of_mem _ hy)
    have h3 : (0 : Int) ≤ 2 ^ n := Int.le_of_lt (Int.pow_pos (by decide))
    have h4 := Int.mul_nonneg h3 h2
    simp only [valD]; lia
theorem valD_lt (n : Nat) : ∀ xs : List Int, (∀ x ∈ xs, 0 ≤ x ∧ x < 2 ^ n) → valD n xs < 2 ^ (n * xs.length)
  | [], _ => by simp [valD]
  | x :: xs, h => by
    have h1 := h x (List.mem_cons_self ..)
    have h2 := valD_lt n xs fun y hy => h y (List.mem_cons_of_mem _ hy)
    have h3 : (0 : Int) < 2 ^ n := Int.pow_pos (by decide)
    have h4 : 2 ^ n * (valD n xs + 1) ≤ 2 ^ n * 2 ^ (n * xs.length) := Int.mul_le_mul_of_nonneg_left h2 (Int.le_of_lt h3)
    simp only [valD, List.length_cons, Nat.mul_succ, Int.pow_add]
    rw [Int.mul_add] at h4
    rw [Int.mul_comm (2 ^ (n * xs.length)) (2 ^ n)]
    lia
theorem valD_split (n : Nat) (xs : List Int) (L m R : Nat) (h1 : L ≤ m) (h2 : m ≤ R) (h3 : R ≤ xs.length) :
    valD n ((xs.drop L).take (R - L)) = valD n ((xs.drop L).take (m - L)) + 2 ^ (n * (m - L)) * valD n ((xs.drop m).take (R - m)) := by
  have e : (xs.drop L).take (R - L) = (xs.drop L).take (m - L) ++ (xs.drop m).take (R - m) := by
    have : R - L = (m - L) + (R - m) := by lia
    rw [this, List.take_add, List.drop_drop]
    have : L + (m - L) = m := by lia
    rw [this]
  rw [e, valD_append, List.length_take, List.length_drop]
  have : min (m - L) (xs.length - L) = m - L := by lia
  rw [this]
end Mine
end
section
namespace Mine
/-- an iterator: what it gives, turn by turn; wr its own places, gl what it looks at -/
structure Walk (C : Cst) (target : Expr) (it : Addr) (wr : List Addr) (gl : List (D × Value)) (items : List D) (St : Nat → Heap → Prop) : Prop where
  frame : ∀ i h h', St i h → (∀ b ∈ wr, ∀ o, h.get? b = some o → h'.get? b = some o) → St i h'
  item : ∀ (A : Around) (av : List Addr) (s : Shared) (i : Nat) (d : D) (QN : Shared → Prop) (QS : Value → Shared → Prop) (E : Value → Shared → Prop), A.handled = none → Wd C av s → (∀ a ∈ C.TP, a ∈ av) → (∀ a ∈ wr, a ∈ av ∧ a ∉ C.TP) → (∀ p ∈ gl, Rep C.P av s.heap p.1 p.2) →
    St i s.heap → items[i]? = some d →
    (∀ v s', Wd C av s' → (∀ b o, b ∉ wr → s.heap.get? b = some o → s'.heap.get? b = some o) → Rep C.P av s'.heap d v → St (i + 1) s'.heap → QS v s') →
    wpAny C.M A (pyNext (.ref it)) (fun r s₁ => match r with | none => QN s₁ | some v => wpAny C.M A (letOwnedTupleGo target (.ref it) v) (fun _ s' => QS v s') E s₁) E s
  done : ∀ (A : Around) (av : List Addr) (s : Shared) (QN : Shared → Prop) (QS : Value → Shared → Prop) (E : Value → Shared → Prop), A.handled = none → Wd C av s → (∀ a ∈ C.TP, a ∈ av) → (∀ a ∈ wr, a ∈ av ∧ a ∉ C.TP) → (∀ p ∈ gl, Rep C.P av s.heap p.1 p.2) →
    St items.length s.heap →
    (∀ s', s'.gens = s.gens → s'.os = s.os → (∀ b o, b ∉ wr → s.heap.get? b = some o → s'.heap.get? b = some o) → QN s') →
    wpAny C.M A (pyNext (.ref it)) (fun r s₁ => match r with | none => QN s₁ | some v => QS v s₁) E s
  self : ∀ (A : Around) (s : Shared) (Q : Value → Shared → Prop) (E : Value → Shared → Prop) (i : Nat), St i s.heap → Q (.ref it) s → wpAny C.M A (pyIter (.ref it)) Q E s

section
variable {C : Cst} {n : Nat} {f : Fm} {σ : Sto}

/-- moved at wr alone -/
theorem Wd.wr {av wr : List Addr} {s s' : Shared} (W : Wd C av s) (hw : ∀ a ∈ wr, a ∈ av ∧ a ∉ C.TP) (hg : s'.gens = s.gens) (ho : s'.os = s.os) (hk : ∀ b o, b ∉ wr → s.heap.get? b = some o → s'.heap.get? b = some o) (hl : ∀ a ∈ wr, ∃ o, s'.heap.get? a = some o) : Wd C av s' := by
  refine W.move hg ho (fun b o hb => hk b o fun m => hb (hw b m).1) (fun a ha => ?_) fun t ht o e => hk _ o (fun m => (hw _ m).2 (List.mem_map_of_mem ht)) e
  by_cases q : a ∈ wr
  · exact hl a q
  · obtain ⟨o, e⟩ := W.live a ha; exact ⟨o, hk a o q e⟩
/-- the same, wr set aside no more -/
theorem Wd.drop {av av' wr : List Addr} {s s' : Shared} (W : Wd C av s) (hw : ∀ a ∈ wr, a ∉ C.TP) (hg : s'.gens = s.gens) (ho : s'.os = s.os) (hk : ∀ b o, b ∉ wr → s.heap.get? b = some o → s'.heap.get? b = some o)
    (h1 : ∀ a ∈ av', a ∈ av) (h2 : ∀ a ∈ av, a ∈ av' ∨ a ∈ wr) (h3 : ∀ a ∈ av', a ∉ wr) (h4 : ∀ a ∈ wr, a ∈ av) (tp : ∀ a ∈ C.TP, a ∈ av') : Wd C av' s' where
  sub := fun b o e => hk b o (fun m => by rw [W.out b (h4 b m)] at e; cases e) (W.sub b o e)
  out := fun a m => W.out a (h1 a m)
  live := fun a m => let ⟨o, e⟩ := W.live a (h1 a m); ⟨o, hk a o (h3 a m) e⟩
  tabs := fun t ht => ⟨tp _ (List.mem_map_of_mem ht), (W.tabs t ht).2.mono (fun o e => hk _ o (fun m => hw _ m (List.mem_map_of_mem ht)) e) (fun b o hb e => hk b o (fun m => hb (h4 b m)) e) fun b hb _ => h1 b hb⟩
  gens := hg.trans W.gens
  os := ho.trans W.os
theorem Rep.wr {P : Params} {av wr : List Addr} {h h' : Heap} {d : D} {v : Value} (r : Rep P av h d v) (hw : ∀ a ∈ wr, a ∈ av) (hk : ∀ b o, b ∉ wr → h.get? b = some o → h'.get? b = some o) : Rep P av h' d v :=
  r.mono (fun b o hb e => hk b o (fun m => hb (hw b m)) e) fun _ h _ => h

theorem go_plain {M : Model} {A : Around} {E : Value → Shared → Prop} {s : Shared} {target : Expr} {I : Addr} {v : Value} {o : Obj} {nm : String} {Q : Unit → Shared → Prop} (ho : s.heap.get? I = some o) (hc : o.cls = .type nm)
    (hn : ["enumerate", "zip", "dict_itemiterator", "dict_reverseitemiterator", "odict_iterator", "itertools.zip_longest", "itertools.pairwise"].contains nm = false) (hQ : Q () s) :
    wpAny M A (letOwnedTupleGo target (.ref I) v) Q E s := by
  obtain ⟨c, dct, dt, sl⟩ := o
  replace hc : c = .type nm := hc
  subst hc
  have key : ∀ a : Addr, wpAny M A (do
      let o ← load I
      match o.cls, o.data with
      | .type n, .fields vs =>
        if ["enumerate", "zip", "dict_itemiterator", "dict_reverseitemiterator", "odict_iterator", "itertools.zip_longest", "itertools.pairwise"].contains n && vs[0]? == some (rawInt a) then
          rule "for.unpacks-the-owned-tuple"
          updateField I 0 .none
      | _, _ => pure ()) Q E s := by
    intro a
    refine wpAny_bind (wpAny_load ho ?_)
    cases dt <;> try exact wpAny_pure hQ
    dsimp only
    rw [hn, Bool.false_and, if_neg (by decide)]
    exact wpAny_pure hQ
  cases target <;> first
    | exact wpAny_pure hQ
    | (cases v <;> first | exact wpAny_pure hQ | exact key _)

-- a list
theorem walk_list {target : Expr} {it l : Addr} {items : List D} : Walk C target it [it] [(.lst items, .ref l)] items (fun i h => h.IsListIter it l i) where
  frame := fun i h h' st hk => st.at fun o e => hk it (List.mem_singleton.mpr rfl) o e
  item := fun A av s i d QN QS E hh W tp hw hg st hi hQ => by
    obtain ⟨a, vs, e, ha, hl, hr⟩ := (hg _ (List.mem_singleton.mpr rfl)).lst_inv
    cases e
    obtain ⟨v, hv, rv⟩ := hr.get hi
    have hne : l ≠ it := fun e => ha (e ▸ (hw it (List.mem_singleton.mpr rfl)).1)
    refine wpAny_pyNext_list_item st (hl.isList) (x := v) (by simp [hv]) fun h' hit' hs => ?_
    obtain ⟨o, ho, hc, hd⟩ := id hit'
    have hk : ∀ b o, b ∉ [it] → s.heap.get? b = some o → h'.get? b = some o := fun b o hb e => (hs.2 b fun q => hb (List.mem_singleton.mpr q)).trans e
    refine go_plain ho hc (by decide) (hQ v _ (W.wr hw rfl rfl hk fun a ha => by rw [List.mem_singleton.mp ha]; exact ⟨o, ho⟩) hk (rv.wr (fun a ha => (hw a ha).1) hk) hit')
  done := fun A av s QN QS E hh W tp hw hg st hQ => by
    obtain ⟨a, vs, e, ha, hl, hr⟩ := (hg _ (List.mem_singleton.mpr rfl)).lst_inv
    cases e
    exact wpAny_pyNext_list_end hh st hl.isList (by simp [hr.length]) fun h' hs => hQ _ rfl rfl fun b o hb e => hs b o (fun q => hb (List.mem_singleton.mpr q)) e
  self := fun A s Q E i st hQ => wpAny_pyIter_listiter st hQ

-- a list the other way
theorem walk_rev {target : Expr} {it l : Addr} {items : List D} : Walk C target it [it] [(.lst items, .ref l)] items.reverse (fun i h => h.IsRevIter it l ((items.length : Int) - 1 - (i : Int))) where
  frame := fun i h h' st hk => st.at fun o e => hk it (List.mem_singleton.mpr rfl) o e
  item := fun A av s i d QN QS E hh W tp hw hg st hi hQ => by
    obtain ⟨a, vs, e, ha, hl, hr⟩ := (hg _ (List.mem_singleton.mpr rfl)).lst_inv
    cases e
    have hlt : i < items.length := by
      have := (List.getElem?_eq_some_iff.mp hi).1
      simpa using this
    have hi' : items[items.length - 1 - i]? = some d := by rw [List.getElem?_reverse hlt] at hi; exact hi
    obtain ⟨v, hv, rv⟩ := hr.get hi'
    have e1 : (items.length : Int) - 1 - (i : Int) = ((items.length - 1 - i : Nat) : Int) := by lia
    rw [e1] at st
    refine wpAny_pyNext_rev_item st hl.isList (x := v) (by simp [hv]) fun h' hit' hs => ?_
    have e2 : ((items.length - 1 - i : Nat) : Int) - 1 = (items.length : Int) - 1 - ((i + 1 : Nat) : Int) := by lia
    rw [e2] at hit'
    obtain ⟨o, ho, hc, hd⟩ := id hit'
    have hk : ∀ b o, b ∉ [it] → s.heap.get? b = some o → h'.get? b = some o := fun b o hb e => (hs.2 b fun q => hb (List.mem_singleton.mpr q)).trans e
    refine go_plain ho hc (by decide) (hQ v _ (W.wr hw rfl rfl hk fun a ha => by rw [List.mem_singleton.mp ha]; exact ⟨o, ho⟩) hk (rv.wr (fun a ha => (hw a ha).1) hk) hit')
  done := fun A av s QN QS E hh W tp hw hg st hQ => by
    have e1 : (items.length : Int) - 1 - ((items.reverse.length : Nat) : Int) = -1 := by rw [List.length_reverse]; lia
    rw [e1] at st
    exact wpAny_pyNext_rev_end hh st fun h' hs => hQ _ rfl rfl fun b o hb e => hs b o (fun q => hb (List.mem_singleton.mpr q)) e
  self := fun A s Q E i st hQ => wpAny_pyIter_revIter st hQ

-- a range
theorem walk_range {target : Expr} {it : Addr} {a c : Int} {m : Nat} : Walk C target it [it] [] ((List.range m).map fun (k : Nat) => D.int (a + (k : Int) * c)) (fun i h => IsRangeIter h it (a + (i : Int) * c) ((m : Int) - (i : Int)) c) where
  frame := fun i h h' st hk => hk it (List.mem_singleton.mpr rfl) _ st
  item := fun A av s i d QN QS E hh W tp hw hg st hi hQ => by
    have hlt : i < m := by
      have := (List.getElem?_eq_some_iff.mp hi).1
      simpa using this
    have hd : d = .int (a + (i : Int) * c) := by simpa [hlt] using hi.symm
    subst hd
    refine wpAny_pyNext_range_item st (by lia) fun h' hit' hs => ?_
    have e2 : a + (i : Int) * c + c = a + ((i + 1 : Nat) : Int) * c := by rw [Int.natCast_add, Int.add_mul]; lia
    have e3 : (m : Int) - (i : Int) - 1 = (m : Int) - ((i + 1 : Nat) : Int) := by lia
    rw [e2, e3] at hit'
    have hk : ∀ b o, b ∉ [it] → s.heap.get? b = some o → h'.get? b = some o := fun b o hb e => (hs.2 b fun q => hb (List.mem_singleton.mpr q)).trans e
    exact go_plain hit' rfl (by decide) (hQ _ _ (W.wr hw rfl rfl hk fun a ha => by rw [List.mem_singleton.mp ha]; exact ⟨_, hit'⟩) hk (rep_int _ _) hit')
  done := fun A av s QN QS E hh W tp hw hg st hQ => by
    refine wpAny_pyNext_range_end hh st (by simp) fun h' hs => hQ _ rfl rfl fun b o hb e => hs b o (fun q => hb (List.mem_singleton.mpr q)) e
  self := fun A s Q E i st hQ => wpAny_pyIter_rangeiter st hQ

-- enumerate of a list
theorem walk_enum {es : List Expr} {k : Nat} {pos : Pos} {e it l : Addr} {items : List D} (hei : e ≠ it) : Walk C (.Tuple es k pos) e [e, it] [(.lst items, .ref l)] ((List.range items.length).map fun (j : Nat) => D.tup [.int (j : Int), items.getD j .none])
    (fun i h => (∃ old, IsEnum h e it i old) ∧ h.IsListIter it l i) where
  frame := fun i h h' st hk => ⟨let ⟨old, x⟩ := st.1; ⟨old, hk e (by simp) _ x⟩, st.2.at fun o x => hk it (by simp) o x⟩
  item := fun A av s i d QN QS E hh W tp hw hg st hi hQ => by
    obtain ⟨a, vs, ea, ha, hl, hr⟩ := (hg _ (List.mem_singleton.mpr rfl)).lst_inv
    cases ea
    obtain ⟨⟨old, he⟩, hit⟩ := st
    have hlt : i < items.length := by
      have := (List.getElem?_eq_some_iff.mp hi).1
      simpa using this
    have hd : d = .tup [.int i, items.getD i .none] := by simpa [hlt] using hi.symm
    subst hd
    have hx : items[i]? = some (items.getD i .none) := by rw [List.getD_eq_getElem?_getD, List.getElem?_eq_getElem hlt]; rfl
    obtain ⟨v, hv, rv⟩ := hr.get hx
    have hle : l ≠ e := fun q => ha (q ▸ (hw e (by simp)).1)
    have hli : l ≠ it := fun q => ha (q ▸ (hw it (by simp)).1)
    refine wpAny_pyNext_enum_item he hit hl.isList (x := v) (by simp [hv]) hei fun h' ho hit' hT hsz hk => ?_
    have helt : e < s.heap.objs.size := Heap.lt_size he
    have hilt : it < s.heap.objs.size := by obtain ⟨_, x, _⟩ := hit; exact Heap.lt_size x
    refine wpAny_letOwnedTupleGo_enum ho fun h₂ he₂ hs₂ => ?_
    replace hs₂ : Heap.SameBut e h' h₂ := hs₂
    have hk₂ : ∀ b o, b ∉ [e, it] → s.heap.get? b = some o → h₂.get? b = some o := fun b o hb x => (hs₂.2 b fun q => hb (by simp [q])).trans (hk b o (fun q => hb (by simp [q])) (fun q => hb (by simp [q])) x)
    have hit₂ : h₂.IsListIter it l (i + 1) := hit'.at fun o x => (hs₂.2 it hei.symm).trans x
    have hT₂ : h₂.get? s.heap.objs.size = some { cls := .type "tuple", data := .seq #[.int i s.toks, v] } := (hs₂.2 _ (Nat.ne_of_gt helt)).trans hT
    refine hQ _ _ (W.wr hw rfl rfl hk₂ fun a ha => ?_) hk₂ ?_ ⟨⟨v, by simpa using he₂⟩, hit₂⟩
    · rcases List.mem_cons.mp ha with rfl | ha
      · exact ⟨_, he₂⟩
      · rw [List.mem_singleton.mp ha]; obtain ⟨o, x, _⟩ := hit₂; exact ⟨o, x⟩
    · simp only [Rep]
      exact ⟨_, [.int i s.toks, v], rfl, W.size_notin, ⟨_, hT₂, rfl, _, rfl⟩, .cons (rep_int _ _) (.one (rv.wr (fun a ha => (hw a ha).1) hk₂))⟩
  done := fun A av s QN QS E hh W tp hw hg st hQ => by
    obtain ⟨a, vs, ea, ha, hl, hr⟩ := (hg _ (List.mem_singleton.mpr rfl)).lst_inv
    cases ea
    obtain ⟨⟨old, he⟩, hit⟩ := st
    refine wpAny_pyNext_enum_end hh he hit hl.isList (by simp [hr.length]) fun h' hs => hQ _ rfl rfl fun b o hb e => hs b o (fun q => hb (by simp [q])) e
  self := fun A s Q E i st hQ => let ⟨⟨old, he⟩, _⟩ := st; wpAny_pyIter_enum he hQ

-- zip of two lists
/-- an expression that is walked -/
noncomputable def EvIt (C : Cst) (n : Nat) (f : Fm) (σ : Sto) (e : Expr) (target : Expr) (items : List D) : Prop := ∀ A ow gs av s Q E, Room n A → FS C f σ ow gs av s →
  (∀ it wr gl St s', Wd C (wr ++ (f.mut ow ++ av)) s' → Ext C s.heap s'.heap → (∀ a ∈ wr, s.heap.get? a = none) → Walk C target it wr gl items St → St 0 s'.heap → (∀ p ∈ gl, Rep C.P (wr ++ (f.mut ow ++ av)) s'.heap p.1 p.2) → Q (.ref it) s') →
  wpAny C.M A (eval e f.env) (fun x s₁ => wpAny C.M A (pyIter x) Q E s₁) E s
/-- a call whose answer is walked -/
noncomputable def CalIt (C : Cst) (n : Nat) (fd : D) (ds : List D) (target : Expr) (items : List D) : Prop := ∀ A av s vf vs Q E, Room n A → Wd C av s → (∀ a ∈ C.TP, a ∈ av) → Rep C.P av s.heap fd vf → RepL C.P av s.heap ds vs →
  (∀ it wr gl St s', Wd C (wr ++ av) s' → Ext C s.heap s'.heap → (∀ a ∈ wr, s.heap.get? a = none) → Walk C target it wr gl items St → St 0 s'.heap → (∀ p ∈ gl, Rep C.P (wr ++ av) s'.heap p.1 p.2) → Q (.ref it) s') →
  wpAny C.M A (call vf vs []) (fun x s₁ => wpAny C.M A (pyIter x) Q E s₁) E s

theorem Ext.gone {ow gs av} {s s' : Shared} (F : FS C f σ ow gs av s') (e : Ext C s.heap s'.heap) {a : Addr} (h : s'.heap.get? a = none) : s.heap.get? a = none := by
  cases q : s.heap.get? a with
  | none => rfl
  | some o =>
    by_cases m : a ∈ C.TP
    · obtain ⟨ps, x⟩ := F.tab_obj m
      rw [h] at x; cases x
    · rw [e a o m q] at h; cases h

theorem evit_call {func : Expr} {args : List Expr} {pos : Pos} {fd : D} {ds items : List D} {target : Expr} (h1 : Ev C n f σ func fd) (hk : KeepD C fd) (h2 : EvL C n f σ pos args ds) (h3 : CalIt C n fd ds target items)
    (he : eval (.Call func args [] pos) f.env = (do callWith pos (← eval func f.env) [] (backTo pos (starEach args f.env)) (backToKw pos (keywordEach [] f.env))) := by rfl)
    (hp : (backTo pos (starEach args f.env)).any (·.1) = false := by rfl) : EvIt C n f σ (.Call func args [] pos) target items := by
  intro A ow gs av s Q E R F h
  refine Call_ (h1 A ow gs av s _ E R F fun fv s₁ W₁ e₁ r₁ => ?_) he
  have F₁ := F.ext W₁ e₁
  refine callWith_of (P := C.K.In) (by show ((backTo pos (starEach args f.env)).any (·.1) || false) = false; rw [hp]; rfl) (keepD hk r₁) (evalArgs_evl hp (h2 A ow gs av s₁ _ E R F₁ fun vs s₂ W₂ e₂ r₂ => ⟨W₂.KIn, ?_⟩))
  have F₂ := F₁.ext W₂ e₂
  exact h3 A _ s₂ fv vs Q E R W₂ F₂.tp' (r₁.ext W₁ e₂) r₂ fun it wr gl St s₃ W₃ e₃ hf wk st hg => h it wr gl St s₃ W₃ ((e₁.trans e₂).trans e₃) (fun a ha => Ext.gone F₂ (e₁.trans e₂) (hf a ha)) wk st hg

theorem Wd.one {av : List Addr} {s s' : Shared} {a : Addr} (W : Wd C av s) (hg : s'.gens = s.gens) (ho : s'.os = s.os) (hk : ∀ b o, s.heap.get? b = some o → s'.heap.get? b = some o)
    (hn : s.heap.get? a = none) (ha : ∃ o, s'.heap.get? a = some o) : Wd C ([a] ++ av) s' := W.asides hg ho hk (fun b h => by rw [List.mem_singleton.mp h]; exact hn) fun b h => by rw [List.mem_singleton.mp h]; exact ha
theorem Rep.asides {P : Params} {av as : List Addr} {h h' : Heap} {d : D} {v : Value} (x : Rep P av h d v) (hk : ∀ b o, h.get? b = some o → h'.get? b = some o) (hn : ∀ a ∈ as, h.get? a = none) : Rep P (as ++ av) h' d v :=
  x.mono (fun b o _ e => hk b o e) fun b hb hx => by
    rcases List.mem_append.mp hb with hb | hb
    · obtain ⟨o', e⟩ := hx; rw [hn b hb] at e; cases e
    · exact hb

/-- an expression that gives a list, walked -/
theorem evit_list {e target : Expr} {ds : List D} (h1 : Ev C n f σ e (.lst ds)) : EvIt C n f σ e target ds := by
  intro A ow gs av s Q E R F h
  refine h1 A ow gs av s _ E R F fun v s₁ W₁ e₁ r₁ => ?_
  obtain ⟨a, vs, rfl, ha, hl, hr⟩ := id r₁.lst_inv
  have hn : s₁.heap.get? s₁.heap.objs.size = none := fresh_none (Nat.le_refl _)
  have hk : ∀ b o, s₁.heap.get? b = some o → (s₁.heap.push { cls := .type "list_iterator", data := .fields #[.ref a, .int 0 0] }).get? b = some o := fun b o x => Heap.get?_push_of_some _ x
  have hx : (s₁.heap.push { cls := .type "list_iterator", data := .fields #[.ref a, .int 0 0] }).get? s₁.heap.objs.size = some _ := Heap.get?_push_size _ rfl
  refine wpAny_pyIter_list hl.isList (h _ [s₁.heap.objs.size] _ _ _ (W₁.one rfl rfl hk hn ⟨_, hx⟩) (e₁.trans (.of_keep hk)) (fun b hb => by rw [List.mem_singleton.mp hb]; exact Ext.gone (F.ext W₁ e₁) e₁ hn) walk_list ⟨_, hx, rfl, rfl⟩ fun p hp => ?_)
  rw [List.mem_singleton.mp hp]
  exact r₁.asides hk fun b hb => by rw [List.mem_singleton.mp hb]; exact hn

theorem calit_reversed {target : Expr} {ds : List D} : CalIt C n (.ty "reversed") [.lst ds] target ds.reverse := by
  intro A av s vf vs Q E R W tp rf rv h
  obtain rfl := rf.ty_inv
  obtain ⟨v, r, rfl, r1, r2⟩ := rv.inv
  obtain rfl := r2.inv0
  obtain ⟨a, vs, rfl, ha, hl, hr⟩ := id r1.lst_inv
  have hn : s.heap.get? s.heap.objs.size = none := fresh_none (Nat.le_refl _)
  have hk : ∀ b o, s.heap.get? b = some o → (s.heap.push (revObj a ((vs.toArray.size : Int) - 1))).get? b = some o := fun b o x => Heap.get?_push_of_some _ x
  have hx : (s.heap.push (revObj a ((vs.toArray.size : Int) - 1))).get? s.heap.objs.size = some _ := Heap.get?_push_size _ rfl
  have hit : (s.heap.push (revObj a ((vs.toArray.size : Int) - 1))).IsRevIter s.heap.objs.size a ((ds.length : Int) - 1 - ((0 : Nat) : Int)) := ⟨_, hx, rfl, by simp [revObj, hr.length]⟩
  refine call_reversed_list hl.isList (wpAny_pyIter_revIter hit (h _ [s.heap.objs.size] _ _ _ (W.one rfl rfl hk hn ⟨_, hx⟩) (.of_keep hk) (fun b hb => by rw [List.mem_singleton.mp hb]; exact hn) walk_rev hit fun p hp => ?_))
  rw [List.mem_singleton.mp hp]
  exact r1.asides hk fun b hb => by rw [List.mem_singleton.mp hb]; exact hn

theorem calit_enum {es : List Expr} {k : Nat} {pos : Pos} {ds : List D} : CalIt C n (.ty "enumerate") [.lst ds] (.Tuple es k pos) ((List.range ds.length).map fun (j : Nat) => D.tup [.int (j : Int), ds.getD j .none]) := by
  intro A av s vf vs Q E R W tp rf rv h
  obtain rfl := rf.ty_inv
  obtain ⟨v, r, rfl, r1, r2⟩ := rv.inv
  obtain rfl := r2.inv0
  obtain ⟨a, vs, rfl, ha, hl, hr⟩ := id r1.lst_inv
  have hn : ∀ b ∈ [s.heap.objs.size + 1, s.heap.objs.size], s.heap.get? b = none := fun b hb => by
    simp only [List.mem_cons, List.not_mem_nil, or_false] at hb
    rcases hb with rfl | rfl
    · exact fresh_none (Nat.le_succ _)
    · exact fresh_none (Nat.le_refl _)
  refine call_enumerate_list hl.isList fun h' he hit hsz hk => wpAny_pyIter_enum he (h _ [s.heap.objs.size + 1, s.heap.objs.size] _ _ _ (W.asides rfl rfl hk hn fun b hb => ?_) (.of_keep hk) hn (walk_enum (Nat.succ_ne_self _)) ⟨⟨_, he⟩, hit⟩ fun p hp => ?_)
  · simp only [List.mem_cons, List.not_mem_nil, or_false] at hb
    rcases hb with rfl | rfl
    · exact ⟨_, he⟩
    · obtain ⟨o, x, _⟩ := hit; exact ⟨o, x⟩
  · rw [List.mem_singleton.mp hp]
    exact r1.asides hk hn

theorem range_it {A : Around} {av : List Addr} {s s₀ : Shared} {r : Addr} {a b c : Int} {t u v : Tok} {m : Nat} {target : Expr} {Q : Value → Shared → Prop} {E : Value → Shared → Prop} (W : Wd C av s) (hf : s.heap.get? s.heap.objs.size = none → s₀.heap.get? s.heap.objs.size = none) (e : Ext C s₀.heap s.heap)
    (hr : IsRange s.heap r a b c t u v) (hs : Builtin.Range.small a b c = true) (hm : Builtin.Range.rangeSize a b c = m)
    (h : ∀ it wr gl St s', Wd C (wr ++ av) s' → Ext C s₀.heap s'.heap → (∀ a ∈ wr, s₀.heap.get? a = none) → Walk C target it wr gl ((List.range m).map fun (k : Nat) => D.int (a + (k : Int) * c)) St → St 0 s'.heap → (∀ p ∈ gl, Rep C.P (wr ++ av) s'.heap p.1 p.2) → Q (.ref it) s') :
    wpAny C.M A (pyIter (.ref r)) Q E s := by
  have hn : s.heap.get? s.heap.objs.size = none := fresh_none (Nat.le_refl _)
  refine wpAny_pyIter_range hr hs ?_
  have hk : ∀ b' o, s.heap.get? b' = some o → (s.heap.push { cls := .type "range_iterator", data := .fields #[rawInt a, rawInt (Builtin.Range.rangeSize a b c), rawInt c] }).get? b' = some o := fun b' o x => Heap.get?_push_of_some _ x
  have hx : (s.heap.push { cls := .type "range_iterator", data := .fields #[rawInt a, rawInt (Builtin.Range.rangeSize a b c), rawInt c] }).get? s.heap.objs.size = some _ := Heap.get?_push_size _ rfl
  refine h _ [s.heap.objs.size] [] _ _ (W.one rfl rfl hk hn ⟨_, hx⟩) (e.trans (.of_keep hk)) (fun b hb => by rw [List.mem_singleton.mp hb]; exact hf hn) walk_range ?_ (fun p hp => nomatch hp)
  show IsRangeIter _ _ _ _ _
  rw [hm] at hx
  have e1 : a + ((0 : Nat) : Int) * c = a := by simp
  have e2 : (m : Int) - ((0 : Nat) : Int) = m := by simp
  rw [e1, e2, hm]
  exact hx

theorem push_none {h : Heap} {o : Obj} {a : Addr} (hn : (h.push o).get? a = none) : h.get? a = none := by
  cases q : h.get? a with
  | none => rfl
  | some x => rw [Heap.get?_push_of_some _ q] at hn; cases hn

theorem calit_range1 {target : Expr} {b : Int} (hb : -(2 ^ 62) ≤ b) (hb' : b < 2 ^ 62) : CalIt C n (.ty "range") [.int b] target ((List.range b.toNat).map fun (k : Nat) => D.int (0 + (k : Int) * 1)) := by
  intro A av s vf vs Q E R W tp rf rv h
  obtain rfl := rf.ty_inv
  obtain ⟨v, r, rfl, r1, r2⟩ := rv.inv
  obtain rfl := r2.inv0
  obtain ⟨t, rfl⟩ := r1.int_inv
  refine call_range_1 ?_
  refine range_it (s₀ := s) ((W.push _).toks (s.toks + 1 + 1)) push_none (Ext.push _ _) (IsRange.new _ _ _ _ _ _ _) (small_one (by lia) (by lia) hb hb') ?_ h
  rw [rangeSize_one]; split <;> lia
theorem calit_range3 {target : Expr} {a b : Int} (ha : -(2 ^ 62) ≤ a) (ha' : a < 2 ^ 62) (hb : -(2 ^ 62) ≤ b) (hb' : b < 2 ^ 62) : CalIt C n (.ty "range") [.int a, .int b, .int (-1)] target ((List.range (a - b).toNat).map fun (k : Nat) => D.int (a + (k : Int) * (-1))) := by
  intro A av s vf vs Q E R W tp rf rv h
  obtain rfl := rf.ty_inv
  obtain ⟨v, r, rfl, r1, r2⟩ := rv.inv
  obtain ⟨v2, r, rfl, r2', r3⟩ := r2.inv
  obtain ⟨v3, r, rfl, r3', r4⟩ := r3.inv
  obtain rfl := r4.inv0
  obtain ⟨t, rfl⟩ := r1.int_inv
  obtain ⟨u, rfl⟩ := r2'.int_inv
  obtain ⟨z, rfl⟩ := r3'.int_inv
  refine call_range_3 (by decide) ?_ (.inl (PyProof.noPylong_small (by lia)))
  refine range_it (s₀ := s) ((W.push _).toks s.toks) push_none (Ext.push _ _) (IsRange.new _ _ _ _ _ _ _) (small_down ha ha' hb hb') ?_ h
  rw [rangeSize_down]; split <;> lia

-- binding the target
/-- the target takes the datum -/
noncomputable def Bnd (C : Cst) (n : Nat) (f : Fm) (target : Expr) (d : D) (σ σ' : Sto) : Prop := ∀ A ow gs av s v Q E, Room n A → FS C f σ ow gs av s → Rep C.P (f.mut ow ++ av) s.heap d v →
  (∀ s', FS C f σ' ow gs av s' → (∀ g, Kp C g s.heap → (∀ a ∈ f.mut ow, g a = none) → Kp C g s'.heap) → Q () s') → wpAny C.M A (assign target f.env v) Q E s
theorem bnd_name {x : Str} {p : Pos} {d : D} (hx : Stk f x) : Bnd C n f (.Name x p) d σ ((x, .val d) :: σ) := by
  intro A ow gs av s v Q E R F r h
  exact wpAny_assign_Name (st_any (d := .val d) F hx r fun h' tk a ha F' hs => h _ F' fun g k hg => F.kp_same ha k hg hs)
theorem bnd_two {x y : Str} {px py pos : Pos} {k : Nat} {dx dy : D} (hx : Stk f x) (hy : Stk f y) : Bnd C n f (.Tuple [.Name x px, .Name y py] k pos) (.tup [dx, dy]) σ ((y, .val dy) :: (x, .val dx) :: σ) := by
  intro A ow gs av s v Q E R F r h
  exact assign2 R F hx hy r h

theorem app_mem {f : Fm} {ow : List (Str × Addr)} {wr av : List Addr} {a : Addr} : a ∈ f.mut ow ++ (wr ++ av) ↔ a ∈ wr ++ (f.mut ow ++ av) := by
  simp only [List.mem_append]
  constructor <;> rintro (h | h | h) <;> simp [h]

/-- the frame with the iterator's places set aside -/
theorem FS.into {ow gs av} {s s' : Shared} (F : FS C f σ ow gs av s) {wr : List Addr} {gl : List (D × Value)} (W : Wd C (wr ++ (f.mut ow ++ av)) s') (e : Ext C s.heap s'.heap) (hf : ∀ a ∈ wr, s.heap.get? a = none)
    (hg : ∀ p ∈ gl, Rep C.P (wr ++ (f.mut ow ++ av)) s'.heap p.1 p.2) : FS C f σ ow (gl ++ gs) (wr ++ av) s' := by
  have up : ∀ {d v}, Rep C.P (f.mut ow ++ av) s.heap d v → Rep C.P (f.mut ow ++ (wr ++ av)) s'.heap d v := fun r =>
    r.mono (fun b o hb q => e b o (fun m => hb (F.wd.tp m)) q) fun b hb ⟨o, q⟩ => by
      rcases List.mem_append.mp (app_mem.mp hb) with hb | hb
      · rw [hf b hb] at q; cases q
      · exact hb
  have upL : ∀ {d v}, RepL C.P (f.mut ow ++ av) s.heap d v → RepL C.P (f.mut ow ++ (wr ++ av)) s'.heap d v := fun r =>
    r.mono (fun b o hb q => e b o (fun m => hb (F.wd.tp m)) q) fun b hb ⟨o, q⟩ => by
      rcases List.mem_append.mp (app_mem.mp hb) with hb | hb
      · rw [hf b hb] at q; cases q
      · exact hb
  obtain ⟨m, hm, hv⟩ := F.vars
  refine ⟨F.ek, fun a h => List.mem_append_right _ (F.tp a h), W.less (fun a h => app_mem.mp h) fun t ht => List.mem_append_right _ (List.mem_append_right _ (F.tp _ (List.mem_map_of_mem ht))), F.nd, fun a ha h => ?_, F.ci, fun x c h => ?_,
    ⟨m, hm.at' fun o q => e _ _ (F.mut_tp F.L_mut) q, fun x ld h => ?_⟩, fun p hp => ?_⟩
  · rcases List.mem_append.mp h with h | h
    · obtain ⟨o, x⟩ := F.wd.live a (F.mut_av ha)
      rw [hf a h] at x; cases x
    · exact F.dj a ha h
  · obtain ⟨v, hc⟩ := F.cl x c h
    exact ⟨v, isCell_at hc fun o q => e _ _ (F.cell_tp hc) q⟩
  · obtain ⟨v, h1, h2⟩ := hv x ld h
    refine ⟨v, h1.imp id fun ⟨k, c, l, hc⟩ => ⟨k, c, l, isCell_at hc fun o q => e _ _ (F.cell_tp hc) q⟩, ?_⟩
    cases ld with
    | val d => exact up h2
    | own es =>
      obtain ⟨b, vs, q1, q2, q3, q4⟩ := h2
      exact ⟨b, vs, q1, q2, q3.at fun o q => e _ _ (F.mut_tp (F.own_mem q2)) q, upL q4⟩
  · rcases List.mem_append.mp hp with hp | hp
    · exact (hg p hp).mono (fun _ _ _ e => e) fun b hb _ => app_mem.mp hb
    · exact up (F.gh p hp)

/-- the frame, the iterator's places set aside no more -/
theorem FS.outof {ow gs av} {s s' : Shared} {wr : List Addr} {gl : List (D × Value)} (F : FS C f σ ow (gl ++ gs) (wr ++ av) s) (tp : ∀ a ∈ C.TP, a ∈ av) (hwt : ∀ a ∈ wr, a ∉ C.TP ∧ a ∉ av) (hcw : ∀ x c, f.env.cells.lookup x = some c → c ∉ wr) (hg : s'.gens = s.gens) (ho : s'.os = s.os)
    (hk : ∀ b o, b ∉ wr → s.heap.get? b = some o → s'.heap.get? b = some o) : FS C f σ ow gs av s' := by
  have nw : ∀ a ∈ f.mut ow, a ∉ wr := fun a ha h => F.dj a ha (List.mem_append_left _ h)
  have sub : ∀ a ∈ f.mut ow ++ av, a ∈ f.mut ow ++ (wr ++ av) := fun a h => (List.mem_append.mp h).elim (fun h => List.mem_append_left _ h) fun h => List.mem_append_right _ (List.mem_append_right _ h)
  have wav : ∀ b ∈ wr, b ∈ f.mut ow ++ (wr ++ av) := fun b m => List.mem_append_right _ (List.mem_append_left _ m)
  have dn : ∀ {d v}, Rep C.P (f.mut ow ++ (wr ++ av)) s.heap d v → Rep C.P (f.mut ow ++ av) s'.heap d v := fun r =>
    r.mono (fun b o hb q => hk b o (fun m => hb (wav b m)) q) fun b hb _ => sub b hb
  have dnL : ∀ {d v}, RepL C.P (f.mut ow ++ (wr ++ av)) s.heap d v → RepL C.P (f.mut ow ++ av) s'.heap d v := fun r =>
    r.mono (fun b o hb q => hk b o (fun m => hb (wav b m)) q) fun b hb _ => sub b hb
  obtain ⟨m, hm, hv⟩ := F.vars
  refine ⟨F.ek, tp, F.wd.drop (fun a h => (hwt a h).1) hg ho hk sub (fun a h => ?_) (fun a h m => ?_) wav (fun a h => List.mem_append_right _ (tp a h)), F.nd, fun a ha h => F.dj a ha (List.mem_append_right _ h), F.ci, fun x c h => ?_,
    ⟨m, hm.at' fun o q => hk _ o (nw _ F.L_mut) q, fun x ld h => ?_⟩, fun p hp => dn (F.gh p (List.mem_append_right _ hp))⟩
  · rcases List.mem_append.mp h with h | h
    · exact .inl (List.mem_append_left _ h)
    · exact (List.mem_append.mp h).elim .inr fun h => .inl (List.mem_append_right _ h)
  · rcases List.mem_append.mp h with h | h
    · exact nw a h m
    · exact (hwt a m).2 h
  · obtain ⟨v, hc⟩ := F.cl x c h
    exact ⟨v, isCell_at hc fun o q => hk _ o (hcw x c h) q⟩
  · obtain ⟨v, h1, h2⟩ := hv x ld h
    refine ⟨v, h1.imp id fun ⟨k, c, l, hc⟩ => ⟨k, c, l, isCell_at hc fun o q => hk _ o (hcw x c l) q⟩, ?_⟩
    cases ld with
    | val d => exact dn h2
    | own es =>
      obtain ⟨b, vs, q1, q2, q3, q4⟩ := h2
      exact ⟨b, vs, q1, q2, q3.at fun o q => hk _ o (nw _ (F.own_mem q2)) q, dnL q4⟩

theorem ex_for {target iter : Expr} {body : List Stmt} {pos : Pos} {items : List D} (S : Nat → Sto) (h1 : EvIt C n f σ iter target items) (h0 : ∀ x ld, (S 0).lookup x = some ld → σ.lookup x = some ld)
    (turn : ∀ i d, items[i]? = some d → ∃ σ₁, Bnd C n f target d (S i) σ₁ ∧ Exs C n f σ₁ body (.next (S (i + 1))))
    (hs : ∀ x, foldedSetIterable iter f.env x = pure x := by intro _; rfl) : Ex C n f σ (.For target iter body [] pos) (.next (S items.length)) := by
  intro A ow gs av g s Q E R F k hg h
  refine wpAny_For (h1 A ow gs av s _ _ R F fun it wr gl St s₁ W₁ e₁ hf wk st hgl => ?_) hs
  have F₁ := (F.weaken h0).into W₁ e₁ hf hgl
  have hwt : ∀ a ∈ wr, a ∉ C.TP ∧ a ∉ av := fun a ha => by
    refine ⟨fun m => ?_, fun m => ?_⟩
    · obtain ⟨ps, x⟩ := F.tab_obj m; rw [hf a ha] at x; cases x
    · obtain ⟨o, x⟩ := F.wd.live a (List.mem_append_right _ m); rw [hf a ha] at x; cases x
  have hcw : ∀ x c, f.env.cells.lookup x = some c → c ∉ wr := fun x c h m => by obtain ⟨v, o, e, _⟩ := F.cl x c h; rw [hf c m] at e; cases e
  have hgw : ∀ a ∈ wr, g a = none := fun a ha => F.g_new k (hf a ha)
  refine codeAny_forLoop_any (fun kk s' => ∃ i ow', kk = items.length + 1 - i ∧ i ≤ items.length ∧ FS C f (S i) ow' (gl ++ gs) (wr ++ av) s' ∧ St i s'.heap ∧ Kp C g s'.heap ∧ ∀ a ∈ f.mut ow', g a = none) ?_ _ ⟨0, ow, rfl, Nat.zero_le _, F₁, st, k.ext e₁, hg⟩
  rintro kk s₂ ⟨i, ow', rfl, hi, F₂, st₂, k₂, hg₂⟩
  have hw : ∀ a ∈ wr, a ∈ f.mut ow' ++ (wr ++ av) ∧ a ∉ C.TP := fun a ha => ⟨List.mem_append_right _ (List.mem_append_left _ ha), (hwt a ha).1⟩
  have hgr : ∀ p ∈ gl, Rep C.P (f.mut ow' ++ (wr ++ av)) s₂.heap p.1 p.2 := fun p hp => F₂.gh p (List.mem_append_left _ hp)
  rcases Nat.lt_or_eq_of_le hi with hlt | rfl
  · have hd : items[i]? = some items[i] := List.getElem?_eq_getElem hlt
    obtain ⟨σ₁, hb, hx⟩ := turn i _ hd
    refine wk.item A _ s₂ i _ _ _ _ R.hd F₂.wd F₂.tp' hw hgr st₂ hd fun v s₃ W₃ hk₃ r₃ st₃ => ?_
    have F₃ : FS C f (S i) ow' (gl ++ gs) (wr ++ av) s₃ := F₂.move W₃ hk₃ (fun b hb => List.mem_append_left _ hb) hcw
    have k₃ : Kp C g s₃.heap := fun b o hb q => hk₃ b o (fun m => by rw [hgw b m] at q; cases q) (k₂ b o hb q)
    refine hb A ow' _ _ s₃ v _ _ R F₃ r₃ fun s₄ F₄ kk₄ => ?_
    have k₄ := kk₄ g k₃ hg₂
    let g' : Addr → Option Obj := fun b => if b ∈ f.mut ow' then none else s₃.heap.get? b
    have hg' : ∀ a ∈ f.mut ow', g' a = none := fun a ha => if_pos ha
    have k₄' : Kp C g' s₄.heap := kk₄ g' (fun b o _ q => by
      by_cases m : b ∈ f.mut ow'
      · rw [show g' b = none from if_pos m] at q; cases q
      · rwa [show g' b = s₃.heap.get? b from if_neg m] at q) hg'
    refine hx A ow' _ _ g' s₄ _ _ R F₄ k₄' hg' fun fl s₅ ho => ?_
    obtain ⟨rfl, ow₅, F₅, k₅, hg₅⟩ := ho
    refine ⟨items.length + 1 - (i + 1), by lia, i + 1, ow₅, rfl, hlt, F₅, wk.frame _ _ _ st₃ fun b hb o q => k₅ b o (hwt b hb).1 ?_, fun b o hb q => k₅ b o hb ?_, fun a ha => ?_⟩
    · rw [show g' b = s₃.heap.get? b from if_neg fun m => F₃.dj b m (List.mem_append_left _ hb)]; exact q
    · rw [show g' b = s₃.heap.get? b from if_neg fun m => by rw [hg₂ b m] at q; cases q]; exact k₃ b o hb q
    · have x := hg₅ a ha
      by_cases m : a ∈ f.mut ow'
      · exact hg₂ a m
      · rw [show g' a = s₃.heap.get? a from if_neg m] at x
        exact F₃.g_new k₃ x
  · have := wk.done A _ s₂ (fun s₃ => wpAny C.M A (execs [] f.env) (fun f s₃ => Q f s₃) (notedBy C.M A f.env fun e s' => cameBackBy C.M A f.env E e s') s₃) (fun _ _ => False) (notedBy C.M A f.env fun e s' => cameBackBy C.M A f.env E e s') R.hd F₂.wd F₂.tp' hw hgr st₂ fun s₃ hg₃ ho₃ hk₃ => ?_
    · refine wpAny_mono this (fun r s₃ h₃ => ?_) fun _ _ x => x
      cases r with
      | none => exact h₃
      | some v => exact h₃.elim
    · exact wpAny_execs_nil (h _ s₃ ⟨rfl, ow', F₂.outof F.tp hwt hcw hg₃ ho₃ hk₃, fun b o hb q => hk₃ b o (fun m => by rw [hgw b m] at q; cases q) (k₂ b o hb q), hg₂⟩)

end
end Mine
end
section
namespace Mine
section
variable {C : Cst} {n : Nat} {f : Fm} {σ : Sto}

theorem setItem_plain {prog : Program} {w : World} {A : Around} {E : Value → Shared → Prop} {s : Shared} {l : Addr} {items : Array Value} {k : Int} {t : Tok} {v : Value} {Q : Unit → Shared → Prop} (hp : s.heap.PlainList l items)
    (h0 : 0 ≤ k) (hfit : k < 2 ^ 63) (hn : k < items.size)
    (hQ : ∀ h', h'.PlainList l (items.setIfInBounds k.toNat v) → Heap.SameBut l s.heap h' → Q () { s with heap := h' }) :
    wpAny (model prog w) A (setItem (.ref l) (.int k t) v) Q E s := by
  have hl := hp.isList
  obtain ⟨ne, ho⟩ := id hp
  have hd : ({ cls := .type "list", dict := none, data := .seq items ne, slots := #[] } : Obj).data = .seq items ne := rfl
  unfold setItem
  try with_reducible refine wpAny_holding ?_
  first | refine wpAny_bind (wpAny_pure ?_) | skip
  refine wpAny_bind (wpAny_sequenceKey hl.typeIs (by decide) ?_)
  refine wpAny_bind (wpAny_callSpecial?_slot (name := Str.ofString "__setitem__") hl.typeIs slot_list_setitem
    (wpAny_call_entry slot_list_setitem hl.typeIs entry_list_setitem ?_ (args_list_setitem _ _ _)))
  show wpAny _ _ (Builtin.List.listSubscript? (.int k t) >>= _) _ _ s
  refine wpAny_bind (wpAny_listSubscript_int (fitsIndex_of h0 hfit) ?_)
  clear hfit
  obtain ⟨j, rfl⟩ := Int.eq_ofNat_of_zero_le h0
  have hj : j < items.size := by lia
  have hx' : items[j]? = some items[j] := Array.getElem?_eq_getElem hj
  show wpAny _ _ ((seqItemAt l j >>= fun r => pure (r.map (j, ·))) >>= _) _ _ s
  refine wpAny_bind (wpAny_bind (wpAny_seqItemAt ho hd (wpAny_pure ?_)))
  rw [hx']
  show wpAny _ _ (setSeqItemAt l j v >>= _) _ _ s
  have hfin : (s.heap.update l (Obj.mapSeq (·.setIfInBounds j v))).PlainList l (items.setIfInBounds j v) := ⟨ne, by
    rw [Heap.get?_update_self _ ho (by simp [Obj.mapSeq, Obj.isFreed])]; simp [Obj.mapSeq]⟩
  refine wpAny_bind (wpAny_setSeqItemAt ho hd ?_)
  first
    | exact wpAny_bind (wpAny_pure (wpAny_pure ⟨.none, rfl, wpAny_pure (hQ _ hfin (Heap.SameBut.update ..))⟩))
    | exact wpAny_pure ⟨.none, rfl, wpAny_pure (hQ _ hfin (Heap.SameBut.update ..))⟩

theorem RepL.set {P : Params} {av : List Addr} {h : Heap} {d : D} {v : Value} (r : Rep P av h d v) : ∀ {ds : List D} {vs : List Value} (i : Nat), RepL P av h ds vs → RepL P av h (ds.set i d) (vs.set i v)
  | [], _, _, x => by rw [x.inv0]; exact .nil
  | _ :: _, _, 0, x => by obtain ⟨u, q, rfl, h1, h2⟩ := x.inv; exact .cons r h2
  | _ :: _, _, i + 1, x => by obtain ⟨u, q, rfl, h1, h2⟩ := x.inv; exact .cons h1 (RepL.set r i h2)

/-- x[i] = e on the frame's own list -/
theorem ex_setown {x : Str} {xp spos pos : Pos} {ie value : Expr} {ds : List D} {d : D} {i : Int} (hx : σ.lookup x = some (.own ds)) (h1 : Ev C n f σ value d) (h2 : Ev C n f σ ie (.int i)) (h0 : 0 ≤ i) (hi : i < 2 ^ 63) (hl : i.toNat < ds.length)
    (hd : (x == ("__debug__" : Str)) = false := by decide) (hc' : (x == ("__classdict__" : Str)) = false := by decide)
    (hs : swapsWith value (some (.Subscript (.Name x xp) ie spos)) pos.line f.env = pure false := by rfl) :
    Ex C n f σ (.Assign [.Subscript (.Name x xp) ie spos] value pos) (.next ((x, .own (ds.set i.toNat d)) :: σ)) := by
  intro A ow gs av g s Q E R F k hg h
  refine wpAny_Assign_Subscript (h1 A ow gs av s _ E R F fun v s₁ W₁ e₁ r₁ => ?_) hs
  have F₁ := F.ext W₁ e₁
  obtain ⟨a, vs, m, hm, hat, hla, ham, hpl, hr⟩ := F₁.own hx
  refine atVar_name F₁ hm hat ?_ hd hc'
  refine h2 A ow gs av s₁ _ E R F₁ fun iv s₂ W₂ e₂ r₂ => ?_
  have F₂ := F₁.ext W₂ e₂
  obtain ⟨t, rfl⟩ := r₂.int_inv
  obtain ⟨a₂, vs₂, m₂, hm₂, hat₂, hla₂, ham₂, hpl₂, hr₂⟩ := F₂.own hx
  rw [hla] at hla₂; cases hla₂
  refine setItem_plain hpl₂ h0 hi (by have := hr₂.length; simp only [List.size_toArray]; lia) fun h' hp' hsb => ?_
  have e3 : (List.toArray vs₂).setIfInBounds i.toNat v = List.toArray (vs₂.set i.toNat v) := by simp
  rw [e3] at hp'
  exact h _ _ ⟨rfl, ow, F₂.turn (tk := s₂.toks) hx hla hpl₂ hsb hp' (hr₂.set (r₁.ext W₁ e₂) _), F₂.kp_same ham₂ (k.ext (e₁.trans e₂)) hg hsb, hg⟩

/-- a list set aside as the frame's own -/
theorem FS.adopt {gs : List (D × Value)} {av : List Addr} {s : Shared} {ad : Addr} (F : FS C f σ [] gs (ad :: av) s) {x : Str} {ds : List D} {vs : List Value} (hx : f.env.kindOf x = some .free) {c : Addr} (hc : f.env.cells.lookup x = some c) (hcv : s.heap.IsCell c (some (.ref ad)))
    (hp : s.heap.PlainList ad (List.toArray vs)) (hr : RepL C.P (f.mut [] ++ (ad :: av)) s.heap ds vs) (had : ad ∉ av) (tp : ∀ a ∈ C.TP, a ∈ av) : FS C f ((x, .own ds) :: σ) [(x, ad)] gs av s := by
  have mem : ∀ b, b ∈ f.mut [(x, ad)] ++ av ↔ b ∈ f.mut [] ++ (ad :: av) := fun b => by simp [Fm.mut]
  have up : ∀ {d v}, Rep C.P (f.mut [] ++ (ad :: av)) s.heap d v → Rep C.P (f.mut [(x, ad)] ++ av) s.heap d v := fun r => r.mono (fun _ _ _ e => e) fun b hb _ => (mem b).mp hb
  obtain ⟨m, hm, hv⟩ := F.vars
  have adn : ad ∉ f.mut [] := fun h => F.dj ad h (List.mem_cons_self ..)
  refine ⟨F.ek, tp, F.wd.less (fun a h => (mem a).mp h) fun t ht => List.mem_append_right _ (tp _ (List.mem_map_of_mem ht)), ?_, fun a ha h => ?_, F.ci, F.cl, ⟨m, hm, fun y ld h => ?_⟩, fun p hp => up (F.gh p hp)⟩
  · have nd := F.nd
    simp only [Fm.mut, List.map_nil, List.append_nil, List.map_cons, List.nodup_cons, List.nodup_append, List.mem_append, List.mem_cons, List.not_mem_nil, or_false] at nd adn ⊢
    grind
  · have : a ∈ f.mut [] ∨ a = ad := by simpa [Fm.mut, or_assoc] using ha
    rcases this with h1 | rfl
    · exact F.dj a h1 (List.mem_cons_of_mem _ h)
    · exact had h
  · rw [List.lookup_cons] at h
    by_cases q : y = x
    · subst q
      simp only [beq_self_eq_true, Option.some.injEq] at h
      subst h
      refine ⟨.ref ad, .inr ⟨.inr hx, c, hc, hcv⟩, ad, vs, rfl, by simp [List.lookup_cons], hp, hr.mono (fun _ _ _ e => e) fun b hb _ => (mem b).mp hb⟩
    · rw [beq_eq_false_iff_ne.mpr q] at h
      obtain ⟨v, h1, h2⟩ := hv y ld h
      refine ⟨v, h1, ?_⟩
      cases ld with
      | val d => exact up h2
      | own es => obtain ⟨b, us, _, q2, _⟩ := h2; cases q2

theorem repL_ints {P : Params} {av av' : List Addr} {h h' : Heap} : ∀ {xs : List Int} {vs : List Value}, RepL P av h (xs.map .int) vs → RepL P av' h' (xs.map .int) vs
  | [], _, x => by have := x.inv0; subst this; exact .nil
  | _ :: _, _, x => by
    obtain ⟨v, r, rfl, h1, h2⟩ := x.inv
    obtain ⟨t, rfl⟩ := h1.int_inv
    exact .cons (rep_int _ _) (repL_ints h2)

/-- a callee that turns the list that the cell c bears -/
noncomputable def CalW (C : Cst) (n : Nat) (c : Addr) (fd : D) (args : List D) (xs xs' : List Int) : Prop := ∀ A ad av s vf vs us Q E, Room n A → Wd C (ad :: av) s → (∀ a ∈ C.TP, a ∈ av) → ad ∉ av → s.heap.IsCell c (some (.ref ad)) → Rep C.P (ad :: av) s.heap fd vf → RepL C.P (ad :: av) s.heap args vs →
  s.heap.PlainList ad (List.toArray us) → RepL C.P [] s.heap (xs.map .int) us →
  (∀ s' us', Wd C (ad :: av) s' → (∀ b o, b ∉ C.TP → b ≠ ad → s.heap.get? b = some o → s'.heap.get? b = some o) → s'.heap.PlainList ad (List.toArray us') → RepL C.P [] s'.heap (xs'.map .int) us' → Q .none s') → wpAny C.M A (call vf vs []) Q E s

/-- the frame's own list turned elsewhere -/
theorem FS.turned {ow gs av} {s s' : Shared} (F : FS C f σ ow gs av s) {x : Str} {ds ds' : List D} {a : Addr} {vs' : List Value} (hx : σ.lookup x = some (.own ds)) (hl : ow.lookup x = some a) (W : Wd C (f.mut ow ++ av) s')
    (hk : ∀ b o, b ∉ C.TP → b ≠ a → s.heap.get? b = some o → s'.heap.get? b = some o) (hp' : s'.heap.PlainList a (List.toArray vs')) (r : RepL C.P (f.mut ow ++ av) s'.heap ds' vs') : FS C f ((x, .own ds') :: σ) ow gs av s' := by
  have ham := F.own_mem hl
  obtain ⟨m, hm, hv⟩ := F.vars
  obtain ⟨_, vs, m₀, hm₀, _, hl₀, _, hp, _⟩ := F.own hx
  rw [hl] at hl₀; cases hl₀
  have hk' : ∀ b o, b ∉ f.mut ow ++ av → s.heap.get? b = some o → s'.heap.get? b = some o := fun b o hb e => hk b o (fun m => hb (F.tp' b m)) (fun q => hb (q ▸ F.mut_av ham)) e
  have cne : ∀ {c : Addr} {v : Option Value}, s.heap.IsCell c v → c ≠ a := fun ⟨o, e, hd⟩ q => by
    obtain ⟨k, hp⟩ := hp
    rw [q, hp] at e; cases e; cases hd
  have cellk : ∀ {c : Addr} {v : Option Value}, s.heap.IsCell c v → s'.heap.IsCell c v := fun hc => isCell_at hc fun o e => hk _ o (F.cell_tp hc) (cne hc) e
  refine ⟨F.ek, F.tp, W, F.nd, F.dj, F.ci, fun y c h => let ⟨w, hc⟩ := F.cl y c h; ⟨w, cellk hc⟩,
    ⟨m, hm.at' fun o e => hk _ o (F.mut_tp F.L_mut) (Ne.symm (list_ns_ne hm hp)) e, fun y ld h => ?_⟩, fun p hp => Rep.mono hk' (fun _ h _ => h) (F.gh p hp)⟩
  have hat : ∀ {y : Str} {v : Value}, AtVar f.env m s.heap y v → AtVar f.env m s'.heap y v := fun h => h.imp id fun ⟨k, c, l, hc⟩ => ⟨k, c, l, cellk hc⟩
  rw [List.lookup_cons] at h
  by_cases q : y = x
  · subst q
    simp only [beq_self_eq_true, Option.some.injEq] at h
    subst h
    obtain ⟨v, h1, a', us, rfl, h2, h3, h4⟩ := hv y _ hx
    rw [hl] at h2; cases h2
    exact ⟨_, hat h1, a, vs', rfl, hl, hp', r⟩
  · rw [beq_eq_false_iff_ne.mpr q] at h
    obtain ⟨v, h1, h2⟩ := hv y ld h
    refine ⟨v, hat h1, h2.mono hk' (fun _ h _ => h) fun b hb o e => hk b o (F.mut_tp (F.own_mem hb)) (fun q2 => ?_) e⟩
    subst q2
    have nd := F.nd
    rw [Fm.mut, List.nodup_cons, List.nodup_append] at nd
    exact q (own_inj nd.2.2.1 (mem_of_lookup hb) (mem_of_lookup hl))

theorem ex_call_w {x : Str} {func : Expr} {args : List Expr} {cpos pos : Pos} {q c : Addr} {fo : Obj} {fd : FuncData} {objs : List (Addr × Obj)} {cds ds : List D} {cvs : List Value} {xs xs' : List Int}
    (hd : fo.data = .func fd) (h1 : Ev C n f σ func (.ob q fo objs cds cvs)) (h2 : EvL C n f σ cpos args ds) (hx : σ.lookup x = some (.own (xs.map .int))) (hkx : f.env.kindOf x ≠ some .local) (hc : f.env.cells.lookup x = some c)
    (h3 : CalW C n c (.ob q fo objs cds cvs) ds xs xs')
    (he : eval (.Call func args [] cpos) f.env = (do callWith cpos (← eval func f.env) [] (backTo cpos (starEach args f.env)) (backToKw cpos (keywordEach [] f.env))) := by rfl)
    (hp : (backTo cpos (starEach args f.env)).any (·.1) = false := by rfl)
    (hi : interactive f.env = false := by rfl) (hsw : swapsWith (.Call func args [] cpos) none pos.line f.env = pure false := by rfl) :
    Ex C n f σ (.Expr (.Call func args [] cpos) pos) (.next ((x, .own (xs'.map .int)) :: σ)) := by
  intro A ow gs av g s Q E R F k hg h
  refine wpAny_Expr (Call_ (h1 A ow gs av s _ E R F fun fv s₁ W₁ e₁ r₁ => ?_) he) hi hsw
  have F₁ := F.ext W₁ e₁
  obtain ⟨rfl, _⟩ := r₁.ob_inv
  refine callWith_of (P := fun h => h.get? q = some fo) (by show ((backTo cpos (starEach args f.env)).any (·.1) || false) = false; rw [hp]; rfl)
    (fun hh X => ⟨.frame, .inl rfl, (Looks.ld (part := none) X).andThen (by rw [hd]; exact .now)⟩) (evalArgs_evl hp (h2 A ow gs av s₁ _ E R F₁ fun vs s₂ W₂ e₂ r₂ => ⟨(r₁.ext W₁ e₂).ob_inv.2.2.1, ?_⟩))
  have F₂ := F₁.ext W₂ e₂
  obtain ⟨a, us, m, hm, hat, hla, ham, hpl, hr⟩ := F₂.own hx
  have hcell : s₂.heap.IsCell c (some (.ref a)) := by
    rcases hat with ⟨k, _⟩ | ⟨_, c', hc', hcv⟩
    · exact absurd k hkx
    · rw [hc] at hc'; cases hc'; exact hcv
  let av' := (f.mut ow ++ av).filter fun b => b != a
  have mem : ∀ b, b ∈ a :: av' ↔ b ∈ f.mut ow ++ av := fun b => by
    simp only [av', List.mem_cons, List.mem_filter, bne_iff_ne, ne_eq]
    constructor
    · rintro (rfl | h)
      · exact F₂.mut_av ham
      · exact h.1
    · intro h; by_cases q : b = a
      · exact .inl q
      · exact .inr ⟨h, q⟩
  have tpav : ∀ b ∈ C.TP, b ∈ av' := fun b hb => List.mem_filter.mpr ⟨F₂.tp' b hb, by simp only [bne_iff_ne, ne_eq]; intro q; exact F₂.mut_tp ham (q ▸ hb)⟩
  have rn : ∀ {d v}, Rep C.P (f.mut ow ++ av) s₂.heap d v → Rep C.P (a :: av') s₂.heap d v := fun r => r.mono (fun _ _ _ e => e) fun b hb _ => (mem b).mp hb
  refine h3 A a av' s₂ _ vs us _ E R (W₂.less (fun b hb => (mem b).mp hb) fun t ht => List.mem_cons_of_mem _ (tpav _ (List.mem_map_of_mem ht))) tpav (fun m => by have := (List.mem_filter.mp m).2; simp at this) hcell (rn (r₁.ext W₁ e₂)) (r₂.mono (fun _ _ _ e => e) fun b hb _ => (mem b).mp hb) hpl (repL_ints hr) fun s₃ us' W₃ hk₃ hp₃ hr₃ => ?_
  have W₃' : Wd C (f.mut ow ++ av) s₃ := W₃.less (fun b hb => (mem b).mpr hb) fun t ht => F₂.tp' _ (List.mem_map_of_mem ht)
  exact h _ s₃ ⟨rfl, ow, F₂.turned hx hla W₃' hk₃ hp₃ (repL_ints hr₃), fun b o hb e => hk₃ b o hb (fun q => by rw [q, hg a ham] at e; cases e) (e₂ b o hb (e₁ b o hb (k b o hb e))), hg⟩

/-- [x] * k -/
theorem foldl_rep {α : Type} (x : α) : ∀ (k : Nat) (acc : Array α), List.foldl (fun x1 x2 => x1 ++ x2) acc (List.replicate k #[x]) = acc ++ (List.replicate k x).toArray
  | 0, acc => by simp
  | k + 1, acc => by rw [List.replicate_succ, List.foldl_cons, foldl_rep x k]; apply Array.ext'; simp [List.replicate_succ]
theorem repL_replicate {P : Params} {av : List Addr} {h : Heap} {d : D} {v : Value} (r : Rep P av h d v) : ∀ k, RepL P av h (List.replicate k d) (List.replicate k v)
  | 0 => .nil
  | k + 1 => .cons r (repL_replicate r k)
theorem mul_list_raw {prog : Program} {w : World} {A : Around} {E : Value → Shared → Prop} {s : Shared} {l : Addr} {v : Value} {x : Int} {u : Tok} {Q : Value → Shared → Prop} (hp : s.heap.PlainList l (List.toArray [v]))
    (hlo : -(2 ^ 63 : Int) ≤ x) (hhi : x ≤ 2 ^ 24)
    (h : Q (.ref s.heap.objs.size) { s with heap := s.heap.push { cls := .type "list", data := .seq (List.replicate x.toNat v).toArray } }) :
    wpAny (model prog w) A (binaryOp .Mult (.ref l) (.int x u)) Q E s := by
  obtain ⟨k, hl⟩ := hp
  have e0 : (List.foldl (fun x1 x2 => x1 ++ x2) #[] (List.replicate (if (List.toArray [v]).isEmpty = true then 0 else x.toNat) (List.toArray [v]))) = (List.replicate x.toNat v).toArray := by
    rw [if_neg (by simp)]
    exact (foldl_rep v _ #[]).trans (by simp)
  exact wpAny_binaryOp_repeat_ref (T := "list") (U := "int") (by decide) ⟨_, hl, rfl⟩ (fun s' => typeIs_int s' x u) noFill_list_mul F.fills_int_mul F.slot_int_rmul repeat_list F.slot_int_index.lookup
    (call_meets F.slot_int_rmul (typeIs_int s x u) F.entry_int_rmul (F.args_int_rmul_2 _ _) (int___rmul___int_list x u l _ k)
      ⟨hl, rfl, ⟨_, hl, rfl⟩, call_meets F.slot_list_mul ⟨_, hl, rfl⟩ F.entry_list_mul (F.args_list_mul_2 _ _)
        (AutoListH.list___mul___list_int_3 l _ k x u (by simp [Builtin.List.listFitsIndex]; lia) (by simp; lia) (by simp [Builtin.List.listTooLong, sizeLine]; lia))
        ⟨hl, by rw [e0]; exact h⟩⟩)
theorem evo_mul {e ke : Expr} {lpos pos : Pos} {i : Int} {d : D} (h1 : Ev C n f σ e d) (h2 : Ev C n f σ ke (.int i)) (hi : i ≤ 2 ^ 24) (h0 : -(2 ^ 63) ≤ i) (he : starEach [e] f.env = (false, eval e f.env) :: starEach [] f.env := by rfl) :
    EvO C n f σ (.BinOp (.List [e] lpos) .Mult ke pos) (List.replicate i.toNat d) := by
  intro A ow gs av s Q E R F h
  refine wpAny_BinOp ((ev_list (evl_cons h1 evl_nil he) (by simp [sizeLine])) A ow gs av s _ E R F fun lv s₁ W₁ e₁ r₁ => ?_)
  have F₁ := F.ext W₁ e₁
  refine h2 A ow gs av s₁ _ E R F₁ fun iv s₂ W₂ e₂ r₂ => ?_
  obtain ⟨t, rfl⟩ := r₂.int_inv
  obtain ⟨a, vs, rfl, ha, hpl₂, hr⟩ := (r₁.ext W₁ e₂).lst_inv
  obtain ⟨v, r, rfl, rv, r'⟩ := hr.inv
  obtain rfl := r'.inv0
  have F₂ := F₁.ext W₂ e₂
  have hn : s₂.heap.get? s₂.heap.objs.size = none := fresh_none (Nat.le_refl _)
  refine mul_list_raw hpl₂ h0 hi ?_
  refine h _ (List.replicate i.toNat v) _ (W₂.push _) ((e₁.trans e₂).trans (Ext.push _ _)) (Ext.gone F₂ (e₁.trans e₂) hn) ⟨0, Heap.get?_push_size _ rfl⟩ (repL_replicate ?_ _)
  exact rv.aside (fun _ _ e => Heap.get?_push_of_some _ e) hn
theorem evo_mulK {e ke : Expr} {lpos pos : Pos} {K : Nat} {x : Int} (h1 : Ev C n f σ e (.int x)) (h2 : Ev C n f σ ke (.int K)) (hi : K ≤ 2 ^ 24) (he : starEach [e] f.env = (false, eval e f.env) :: starEach [] f.env := by rfl) :
    EvO C n f σ (.BinOp (.List [e] lpos) .Mult ke pos) ((List.replicate K x).map .int) := by
  have := evo_mul (lpos := lpos) (pos := pos) h1 h2 (by lia) (by lia) he
  rwa [Int.toNat_natCast, ← List.map_replicate] at this
end
end Mine
end
section
namespace Mine
section
variable {C : Cst} {n : Nat} {f : Fm} {σ : Sto}

/-- a body that turns the list y bears, and gives nothing -/
noncomputable def ExsW (C : Cst) (n : Nat) (f : Fm) (σ : Sto) (st : List Stmt) (y : Str) (xs : List Int) : Prop := ∀ A ow gs av g s Q E, Room n A → FS C f σ ow gs av s → Kp C g s.heap → (∀ a ∈ f.mut ow, g a = none) →
  (∀ fl s', (fl = .next ∨ fl = .ret .none) → (∃ σ' ow', FS C f σ' ow' gs av s' ∧ Kp C g s'.heap ∧ σ'.lookup y = some (.own (xs.map .int))) → Q fl s') → wpAny C.M A (execs st f.env) Q E s
theorem exsw_nil {y : Str} {xs : List Int} (h : σ.lookup y = some (.own (xs.map .int))) : ExsW C n f σ [] y xs := fun A ow gs av g s Q E R F k hg hQ => wpAny_execs_nil (hQ _ s (.inl rfl) ⟨σ, ow, F, k, h⟩)
theorem exsw_next {st : Stmt} {rest : List Stmt} {σ' : Sto} {y : Str} {xs : List Int} (h1 : Ex C n f σ st (.next σ')) (h2 : ExsW C n f σ' rest y xs) : ExsW C n f σ (st :: rest) y xs := by
  intro A ow gs av g s Q E R F k hg h
  refine wpAny_execs_cons (h1 A ow gs av g s _ E R F k hg fun fl s' ho => ?_)
  obtain ⟨rfl, ow', F', k', hg'⟩ := ho
  exact h2 A ow' gs av g s' Q E R F' k' hg' h
theorem exsw_ifret {test : Expr} {st : Stmt} {rest orelse : List Stmt} {rp pos : Pos} {σ' : Sto} {y : Str} {xs : List Int} {b : Bool} (h1 : Tst C n f σ test b) (hb : b = true) (h2 : Ex C n f σ st (.next σ')) (h : σ'.lookup y = some (.own (xs.map .int))) :
    ExsW C n f σ (.If test [st, .Return none rp] orelse pos :: rest) y xs := by
  subst hb
  intro A ow gs av g s Q E R F k hg hQ
  refine wpAny_execs_cons (wpAny_If (h1 A ow gs av s _ E R F fun s₁ W₁ e₁ => ?_))
  refine wpAny_execs_cons (h2 A ow gs av g s₁ _ E R (F.ext W₁ e₁) (k.ext e₁) hg fun fl s' ho => ?_)
  obtain ⟨rfl, ow', F', k', hg'⟩ := ho
  exact wpAny_execs_cons (wpAny_Return_none (hQ _ s' (.inr rfl) ⟨σ', ow', F', k', h⟩))

/-- a call of an inner def that turns a list it has caught -/
theorem calw_clo {fd : FuncData} {fo : Obj} {q c : Addr} {y : Str} {names : List Str} {body : List Stmt} {ds cds : List D} {cvs : List Value} {objs : List (Addr × Obj)} {fr : Sto} {xs xs' : List Int}
    (hd : fo.data = .func fd) (hbody : fd.body = .stmts body) (hbind : ∀ (s : Shared) (vs : List Value), vs.length = ds.length → BindsTo s fd ⟨vs, []⟩ (names.zip vs)) (hnd : names.Nodup) (hlen : names.length = ds.length)
    (hk : (names.all fun x => fd.scope.names.lookup x == some .local) = true) (hek : fd.scope.kind = .function ∧ fd.globals = mainGlobals ∧ fd.builtins = builtinsNs)
    (hco : fd.scope.isCoroutine = false) (hgen : fd.scope.isGenerator = false) (hnc' : (fd.scope.names.all fun x => x.2 != .cell) = true)
    (hci' : fd.closure.Pairwise fun x y => x.2 ≠ y.2)
    (hcd : ∃ c' oc, fd.code = .ref c' ∧ (c', oc) ∈ objs ∧ CodeObj oc fd.qualname)
    (hcl' : ∀ p ∈ fd.closure, ∃ o v, (p.2, o) ∈ objs ∧ o.data = .cell (some v))
    (hy : fd.scope.names.lookup y = some .free) (hyc : fd.closure.lookup y = some c)
    (hfr' : ∀ p ∈ fr, fd.scope.names.lookup p.1 = some .free ∧ ∃ d c o v, p.2 = .val d ∧ fd.closure.lookup p.1 = some c ∧ (c, o) ∈ objs ∧ o.data = .cell (some v) ∧
      (∀ av h, Rep C.P av h (.ob q fo objs cds cvs) (.ref q) → Rep C.P av h d v))
    (hb : ∀ L, ExsW C n ⟨callEnv fd L q, []⟩ ((y, .own (xs.map .int)) :: (names.zip (ds.map LD.val) ++ fr)) body y xs') : CalW C (n + 1) c (.ob q fo objs cds cvs) ds xs xs' := by
  have hnc : ∀ x ∈ fd.scope.names, x.2 ≠ .cell := fun x hx => by simpa using List.all_eq_true.mp hnc' x hx
  have hci : ∀ x y c, fd.closure.lookup x = some c → fd.closure.lookup y = some c → x = y := fun x y c h1 h2 => name_of_addr hci' (mem_of_lookup h1) (mem_of_lookup h2)
  have hcl : ∀ x c, fd.closure.lookup x = some c → ∃ o v, (c, o) ∈ objs ∧ o.data = .cell (some v) := fun x c h => hcl' (x, c) (mem_of_lookup h)
  have hfr : ∀ x ld, fr.lookup x = some ld → fd.scope.names.lookup x = some .free ∧ ∃ d c o v, ld = .val d ∧ fd.closure.lookup x = some c ∧ (c, o) ∈ objs ∧ o.data = .cell (some v) ∧
      (∀ av h, Rep C.P av h (.ob q fo objs cds cvs) (.ref q) → Rep C.P av h d v) := fun x ld h => hfr' (x, ld) (mem_of_lookup h)
  intro A ad av s vf vs us Q E R W tp had hcv rf rv hp hr h
  obtain ⟨rfl, q1, q2, q3, q4⟩ := rf.ob_inv
  obtain ⟨c', oc, e1, e2, vs', tq, e3, e4⟩ := hcd
  have tp' : ∀ a ∈ C.TP, a ∈ ad :: av := fun a h => List.mem_cons_of_mem _ (tp a h)
  have adT : ad ∉ C.TP := fun m => had (tp ad m)
  refine enter_clo (fr := fr) (gs := []) hd hbody hbind hnd hlen hk hek hco hgen hnc hci R W tp' q2 ⟨c', oc, vs', tq, e1, (q3 _ e2).2, e3, e4⟩
    (fun x c e => let ⟨o, v, m, hv⟩ := hcl x c e; ⟨some v, o, (q3 _ m).2, hv⟩) (fun x ld e => let ⟨k, d, c, o, v, e5, e6, m, hv, hr⟩ := hfr x ld e; ⟨k, d, c, v, e5, e6, ⟨o, (q3 _ m).2, hv⟩, hr (ad :: av) _ rf⟩) rv (fun p hp => nomatch hp) fun L s₁ E' F keep hLn R' => ?_
  have F' := F.adopt (x := y) (ds := xs.map .int) hy hyc (hcv.keeps keep) (hp.at (keep ad)) (repL_ints hr) had tp
  let g : Addr → Option Obj := fun b => if b = ad then none else s.heap.get? b
  refine hb L _ _ [] av g _ _ _ R' F' (fun b o _ e => ?_) (fun a ha => ?_) fun fl s' hfl ho => ?_
  · by_cases m : b = ad
    · rw [show g b = none from if_pos m] at e; cases e
    · rw [show g b = s.heap.get? b from if_neg m] at e; exact keep b o e
  · have : a = L ∨ a = ad := by simpa [Fm.mut, callEnv, newEnv] using ha
    rcases this with rfl | rfl
    · show (if _ then _ else _) = _; split
      · rfl
      · exact hLn
    · exact if_pos rfl
  · obtain ⟨σ', ow', F₂, k₂, hl⟩ := ho
    obtain ⟨a₂, us₂, m₂, hm₂, hat₂, hla₂, ham₂, hp₂, hr₂⟩ := F₂.own hl
    have keep2 : ∀ b o, b ∉ C.TP → b ≠ ad → s.heap.get? b = some o → s'.heap.get? b = some o := fun b o h1 h2 e => k₂ b o h1 ((if_neg h2).trans e)
    have cne : c ≠ ad := fun q => by
      obtain ⟨o, e, hd⟩ := hcv
      obtain ⟨k, hp⟩ := hp
      rw [q, hp] at e; cases e; cases hd
    have cT : c ∉ C.TP := F.cell_tp (hcv.keeps keep)
    have hcell : s'.heap.IsCell c (some (.ref ad)) := isCell_at hcv fun o e => keep2 c o cT cne e
    have ea : a₂ = ad := by
      rcases hat₂ with ⟨k, _⟩ | ⟨_, c₂, l₂, hc₂⟩
      · have : fd.scope.names.lookup y = some .local := k
        rw [hy] at this; cases this
      · have l₂' : fd.closure.lookup y = some c₂ := l₂
        rw [hyc] at l₂'; cases l₂'
        obtain ⟨o, e, hd⟩ := hcell
        obtain ⟨o', e', hd'⟩ := hc₂
        rw [e] at e'; cases e'
        rw [hd] at hd'; cases hd'; rfl
    subst ea
    have Wd' : Wd C (a₂ :: av) s' := F₂.wd.less (fun b hb => by
      rcases List.mem_cons.mp hb with rfl | hb
      · exact List.mem_append_left _ ham₂
      · exact List.mem_append_right _ hb) fun t ht => List.mem_cons_of_mem _ (tp _ (List.mem_map_of_mem ht))
    have := h s' us₂ Wd' keep2 hp₂ (repL_ints hr₂)
    rcases hfl with rfl | rfl
    · exact this
    · exact this
theorem CalW.mono {n m : Nat} {c : Addr} {fd : D} {ds : List D} {xs xs' : List Int} (h : CalW C n c fd ds xs xs') (hm : n ≤ m) : CalW C m c fd ds xs xs' :=
  fun A ad av s vf vs us Q E R => h A ad av s vf vs us Q E (R.le hm)
end
end Mine
end
section
namespace Mine
/-- the store knows all of these -/
noncomputable def Knows (σ : Sto) : Sto → Prop
  | [] => True
  | p :: r => σ.lookup p.1 = some p.2 ∧ Knows σ r
theorem Knows.look {σ : Sto} : ∀ {τ : Sto}, Knows σ τ → ∀ x ld, τ.lookup x = some ld → σ.lookup x = some ld
  | [], _, _, _, h => nomatch h
  | (y, l) :: r, ⟨h1, h2⟩, x, ld, h => by
    rw [List.lookup_cons] at h
    by_cases q : x = y
    · subst q
      simp only [beq_self_eq_true, Option.some.injEq] at h
      subst h; exact h1
    · rw [beq_eq_false_iff_ne.mpr q] at h
      exact Knows.look h2 x ld h
section
variable {C : Cst} {n : Nat} {f : Fm} {σ : Sto}
/-- a run of the loop's body ends in the next store -/
theorem exs_to {st : List Stmt} {σ₁ σ₂ : Sto} (h1 : Exs C n f σ st (.next σ₁)) (hw : Knows σ₁ σ₂) : Exs C n f σ st (.next σ₂) := exs_out hw.look h1
end
end Mine
end
section
namespace Mine
/-- the text of these signs -/
noncomputable def Tx (l : List Nat) : Str := ⟨l.toArray⟩
theorem Tx_cps (l : List Nat) : (Tx l).cps.toList = l := by simp [Tx]
theorem Tx_length (l : List Nat) : (Tx l).length = l.length := by simp [Tx, Str.length]
theorem Tx_of (x : Str) : x = Tx x.cps.toList := by cases x; simp [Tx]
theorem Tx_inj {a b : List Nat} (h : Tx a = Tx b) : a = b := by have := congrArg (·.cps.toList) h; simpa [Tx] using this
theorem Tx_append (a b : List Nat) : Tx a ++ Tx b = Tx (a ++ b) := by
  apply PySem.Str.ext'; simp [Tx, PySem.Str.cps_append]

/-- each sign c gives place to z -/
noncomputable def esc1 (c : Nat) (z : List Nat) (l : List Nat) : List Nat := l.flatMap fun k => if k = c then z else [k]
theorem esc1_free {c : Nat} {z : List Nat} : ∀ {l : List Nat}, c ∉ l → esc1 c z l = l
  | [], _ => rfl
  | k :: r, h => by
    have h1 : ¬ k = c := fun e => h (e ▸ List.mem_cons_self ..)
    have := esc1_free (c := c) (z := z) (l := r) fun m => h (List.mem_cons_of_mem _ m)
    show (if k = c then z else [k]) ++ esc1 c z r = _
    rw [if_neg h1, this]; rfl
theorem esc1_append (c : Nat) (z a b : List Nat) : esc1 c z (a ++ b) = esc1 c z a ++ esc1 c z b := by simp [esc1]
theorem join_esc1 (c : Nat) (z : List Nat) : ∀ parts : List Str, (∀ p ∈ parts, c ∉ p.cps.toList) → esc1 c z (Str.join ⟨#[c]⟩ parts).cps.toList = (Str.join (Tx z) parts).cps.toList
  | [], _ => rfl
  | [p], h => esc1_free (h p (List.mem_singleton.mpr rfl))
  | p :: q :: r, h => by
    have ih := join_esc1 c z (q :: r) fun a ha => h a (List.mem_cons_of_mem _ ha)
    show esc1 c z (p ++ ⟨#[c]⟩ ++ Str.join ⟨#[c]⟩ (q :: r)).cps.toList = (p ++ Tx z ++ Str.join (Tx z) (q :: r)).cps.toList
    simp only [PySem.Str.cps_append, Array.toList_append, esc1_append]
    rw [ih, esc1_free (h p (List.mem_cons_self ..))]
    simp [esc1, Tx]
theorem replace_esc1 (c : Nat) (z l : List Nat) : Txt.replace (Tx l) (Tx [c]) (Tx z) = Tx (esc1 c z l) := by
  have h : (Txt.replace (Tx l) (Tx [c]) (Tx z)).cps.toList = esc1 c z l := by
    show (Txt.replace (Tx l) ⟨#[c]⟩ (Tx z)).cps.toList = _
    rw [StrLaws.replace_one, ← join_esc1 c z _ (StrLaws.split_free (Tx l) c), StrLaws.join_split, Tx_cps]
  rw [Tx_of (Txt.replace _ _ _), h]
theorem contains_one (c : Nat) (l : List Nat) : Txt.contains (Tx l) (Tx [c]) = decide (c ∈ l) := by
  have := StrLaws.found_one (Tx l) c
  rw [Tx_cps] at this
  exact this

/-- the signs of the table give place to their names -/
noncomputable def escT (T : List (Nat × List Nat)) (l : List Nat) : List Nat := l.flatMap fun k => (T.lookup k).getD [k]
theorem escT_nil (l : List Nat) : escT [] l = l := by
  unfold escT
  induction l with
  | nil => rfl
  | cons k r ih => rw [List.flatMap_cons, ih]; rfl
theorem lookup_snoc {T : List (Nat × List Nat)} {c k : Nat} {z : List Nat} : (T ++ [(c, z)]).lookup k = (T.lookup k).or (if k = c then some z else none) := by
  rw [List.lookup_append]
  congr 1
  rw [List.lookup_cons]
  by_cases h : k = c
  · simp [h]
  · simp [beq_eq_false_iff_ne.mpr h, h]
theorem esc1_escT {T : List (Nat × List Nat)} {c : Nat} {z : List Nat} (h : ∀ p ∈ T, c ≠ p.1 ∧ c ∉ p.2) (l : List Nat) : esc1 c z (escT T l) = escT (T ++ [(c, z)]) l := by
  unfold escT
  induction l with
  | nil => rfl
  | cons k r ih =>
    rw [List.flatMap_cons, esc1_append, ih, List.flatMap_cons, lookup_snoc]
    congr 1
    cases q : T.lookup k with
    | none =>
      simp only [Option.getD_none, Option.none_or]
      by_cases e : k = c
      · simp [esc1, e]
      · simp [esc1, e]
    | some u =>
      have hm : (k, u) ∈ T := by
        clear h ih
        induction T with
        | nil => cases q
        | cons p T ih =>
          obtain ⟨y, v⟩ := p
          rw [List.lookup_cons] at q
          by_cases e : k = y
          · subst e; simp at q; subst q; exact List.mem_cons_self ..
          · rw [beq_eq_false_iff_ne.mpr e] at q; exact List.mem_cons_of_mem _ (ih q)
      simp only [Option.getD_some, Option.some_or]
      exact esc1_free (h _ hm).2
theorem escT_length {T : List (Nat × List Nat)} (h : ∀ p ∈ T, p.2.length ≤ 6) : ∀ l : List Nat, (escT T l).length ≤ 6 * l.length
  | [] => by simp [escT]
  | k :: r => by
    have ih := escT_length h r
    unfold escT at ih ⊢
    rw [List.flatMap_cons, List.length_append, List.length_cons]
    have : ((T.lookup k).getD [k]).length ≤ 6 := by
      cases q : T.lookup k with
      | none => simp
      | some u =>
        have hm : ∀ {T : List (Nat × List Nat)}, T.lookup k = some u → (k, u) ∈ T := by
          intro T
          induction T with
          | nil => intro q; cases q
          | cons p T ih =>
            intro q
            obtain ⟨y, v⟩ := p
            rw [List.lookup_cons] at q
            by_cases e : k = y
            · subst e; simp at q; subst q; exact List.mem_cons_self ..
            · rw [beq_eq_false_iff_ne.mpr e] at q; exact List.mem_cons_of_mem _ (ih q)
        exact h _ (hm q)
    lia

section
variable {C : Cst} {n : Nat} {f : Fm} {σ : Sto}

/-- if c in x: x = x.replace(c, z) -/
theorem ex_escape {x cS zS : Str} {T : List (Nat × List Nat)} {l z : List Nat} {c : Nat} {k1 k2 k3 : Nat} {p1 p2 p3 p4 p5 p6 p7 p8 p9 p10 pos : Pos} {pl : Sem Bool}
    (hl : σ.lookup x = some (.val (.str (Tx (escT T l))))) (hk : f.env.kindOf x = some .local) (hc : cS = Tx [c]) (hz : zS = Tx z) (hcz : (Tx [c] == Tx z) = false) (hT : ∀ p ∈ T, c ≠ p.1 ∧ c ∉ p.2) (hT6 : ∀ p ∈ T, p.2.length ≤ 6) (hz6 : z.length ≤ 6) (hn : l.length ≤ 100000)
    (hd : (x == ("__debug__" : Str)) = false := by decide)
    (hm : behindInMarks .In (.Name x p2) = false := by with_unfolding_all rfl)
    (he : eval (.Call (.Attribute (.Name x p5) "replace" p6) [.Constant (.str cS) k2 p8, .Constant (.str zS) k3 p9] [] p7) f.env = (do
      let ov ← eval (.Name x p5) f.env
      standAt p6.atName
      let (fv, first) ← holding [ov] (getMethod ov "replace" pl)
      callWith p7 fv first (backTo p7 (starEach [.Constant (.str cS) k2 p8, .Constant (.str zS) k3 p9] f.env)) []) := by rfl)
    (hsw : swapsWith (.Call (.Attribute (.Name x p5) "replace" p6) [.Constant (.str cS) k2 p8, .Constant (.str zS) k3 p9] [] p7) (some (.Name x p4)) p10.line f.env = pure false := by rfl) :
    Ex C n f σ (.If (.Compare (.Constant (.str cS) k1 p1) [.In] [.Name x p2] p3)
      [.Assign [.Name x p4] (.Call (.Attribute (.Name x p5) "replace" p6) [.Constant (.str cS) k2 p8, .Constant (.str zS) k3 p9] [] p7) p10] [] pos) (.next ((x, .val (.str (Tx (escT (T ++ [(c, z)]) l)))) :: σ)) := by
  subst hc; subst hz
  intro A ow gs av g s Q E R F k hg h
  have name : ∀ {s : Shared} {p : Pos} {A : Around} {Q : Value → Shared → Prop} {E : Value → Shared → Prop}, FS C f σ ow gs av s → (∀ t, Q (.str (Tx (escT T l)) t) s) → wpAny C.M A (eval (.Name x p) f.env) Q E s := by
    intro s p A Q E F hq
    obtain ⟨m, hm, hv⟩ := F.vars
    obtain ⟨v, h1, h2⟩ := hv x _ hl
    obtain ⟨t, rfl⟩ := (show Rep C.P (f.mut ow ++ av) s.heap (.str (Tx (escT T l))) v from h2).str_inv
    rcases h1 with ⟨_, h1⟩ | ⟨k, _⟩
    · exact wpAny_Name (wpAny_loadName_local F.ek.1 hk hm h1 (hq t)) hd
    · rw [hk] at k; rcases k with k | k <;> cases k
  refine wpAny_If (wpAny_isTrue_Compare1 (wpAny_Constant_str ?_) hm)
  have F₁ : FS C f σ ow gs av { s with toks := s.toks + 1 } := F.toks _
  refine name F₁ fun t => SB.contains (wpAny_truthy_bool ?_)
  rw [contains_one]
  by_cases hin : c ∈ escT T l
  · rw [if_pos (by simpa using hin)]
    refine wpAny_execs_cons (wpAny_Assign_Name (MethodCall_ (pl := pl) (name F₁ fun t => ?_) he) hsw)
    refine getMethod_builtin (typeIs_str _ _ _) PySem.F.plainAttrs_str PySem.F.slot_str_replace PySem.F.type_str_replace (fun b e => by cases e) ?_
    refine callWith_of (P := C.K.In) (by rfl) (fun hh X => ⟨.machine, .inr (.inl rfl), Looks.of_pure rfl⟩) (evalArgs_evl (by rfl) (wpAny_items_cons (wpAny_Constant_str (wpAny_items_cons (wpAny_Constant_str (wpAny_items_nil ⟨F₁.wd.KIn, ?_⟩))))))
    have hlen : (Tx (escT T l)).length ≤ 1048576 := by
      rw [Tx_length]; have := escT_length hT6 l; lia
    refine SC.replaceW (by show s.toks + 1 ≠ 0; lia) (by show s.toks + 1 + 1 ≠ 0; lia) (by show s.toks + 1 ≠ s.toks + 1 + 1; lia) hcz hlen (by rw [Tx_length]; lia) fun t' tk => ?_
    rw [replace_esc1, esc1_escT hT]
    have F₂ : FS C f σ ow gs av { s with toks := tk } := F.toks _
    refine st_local (d := .val (.str (Tx (escT (T ++ [(c, z)]) l)))) F₂ hk (show Rep _ _ _ _ _ from rep_str _ _) fun h' tk' F' hsb => ?_
    exact wpAny_execs_nil (h _ _ ⟨rfl, ow, F', F₂.kp_same F.L_mut k hg hsb, hg⟩)
  · rw [if_neg (by simpa using hin)]
    refine wpAny_execs_nil (h _ _ ⟨rfl, ow, F₁.weaken fun y ld e => ?_, k, hg⟩)
    rw [List.lookup_cons] at e
    by_cases q : y = x
    · subst q
      simp only [beq_self_eq_true, Option.some.injEq] at e
      subst e
      rw [← esc1_escT hT, esc1_free hin]; exact hl
    · rw [beq_eq_false_iff_ne.mpr q] at e; exact e

/-- a try whose body returns -/
theorem ex_try_ret {body orelse : List Stmt} {h₀ : ExceptHandler} {hs : List ExceptHandler} {pos : Pos} {d : D} (h1 : Exs C n f σ body (.ret d)) : Ex C n f σ (.Try body (h₀ :: hs) orelse [] pos) (.ret d) := by
  intro A ow gs av g s Q E R F k hg h
  refine wpAny_Try_except (h1 A ow gs av g s _ _ R F k hg fun fl s' ho => ?_)
  obtain ⟨v, rfl, r⟩ := ho
  exact h _ s' ⟨v, rfl, r⟩
end
end Mine
end
section
namespace Mine
section
variable {prog : Program} {w : World} {A : Around} {R : Result → Shared → Prop} {s : Shared}
theorem codeAny_compLoop_own {elt target iter : Expr} {ifs : List Expr} {scope : Scope} {pos : Pos} {it acc : Value} {env : Env} (I : Nat → Shared → Prop)
    (turn : ∀ n s, I n s → wpAny (model prog w) A (pyNext it) (fun r s₁ => match r with
      | none => R (.ok .next) s₁
      | some v => wpAny (model prog w) A (letOwnedTupleGo target it v) (fun _ s₁' => wpAny (model prog w) A (assign target env v) (fun _ s₂ =>
          wpAny (model prog w) A (forIn ifs true fun c r => if r = true then do let ok ← isTrue c env (eval c env); pure (ForInStep.yield ok) else pure (ForInStep.yield r)) (fun ok s₃ =>
            if ok = true then wpAny (model prog w) A (eval elt env) (fun x s₄ =>
              wpAny (model prog w) A (call (.builtin "list.append") [acc, x]) (fun _ s₅ => ∃ m, m < n ∧ I m s₅) (notedBy (model prog w) A env fun e s' => R (.error e) s') s₄) (notedBy (model prog w) A env fun e s' => R (.error e) s') s₃
            else ∃ m, m < n ∧ I m s₃) (notedBy (model prog w) A env fun e s' => R (.error e) s') s₂) (notedBy (model prog w) A env fun e s' => R (.error e) s') s₁') (notedBy (model prog w) A env fun e s' => R (.error e) s') s₁) (notedBy (model prog w) A env fun e s' => R (.error e) s') s)
    (n : Nat) (h : I n s) :
    codeAny (model prog w) A (.compLoop (.ListComp elt [⟨target, iter, ifs, 0⟩] scope pos) 0 it acc env) R s := by
  refine codeAny_loop rfl I (fun n s hI => ?_) n h
  show wpAny _ A ((compTurn (.ListComp elt [⟨target, iter, ifs, 0⟩] scope pos) 0 it acc env).onRaise (fun x => do noteFrame x env; theTreesLotGoes x)) _ _ s
  refine wpAny_noted ?_
  rw [compTurn_list]
  refine wpAny_bind (wpAny_standAt (wpAny_bind (wpAny_mono (turn n s hI) (fun r s₁ h₁ => ?_) fun _ _ h' => h')))
  cases r with
  | none => exact wpAny_pure h₁
  | some v =>
    refine wpAny_bind (wpAny_mono h₁ (fun _ s₁' h₁' => ?_) fun _ _ h' => h')
    refine wpAny_bind (wpAny_mono h₁' (fun _ s₂ h₂ => wpAny_bind (wpAny_mono h₂ (fun ok s₃ h₃ => ?_) fun _ _ h' => h')) fun _ _ h' => h')
    cases ok with
    | false => exact wpAny_pure ⟨rfl, h₃⟩
    | true =>
      exact wpAny_bind (wpAny_bind (wpAny_mono h₃ (fun x s₄ h₄ => wpAny_bind (wpAny_mono h₄ (fun _ s₅ h₅ => wpAny_pure (wpAny_pure ⟨rfl, h₅⟩)) fun _ _ h' => h')) fun _ _ h' => h'))
end

section
variable {C : Cst} {n : Nat} {f : Fm} {σ : Sto}

/-- the tests of a clause -/
noncomputable def Tests (C : Cst) (n : Nat) (f : Fm) (σ : Sto) : List Expr → Bool → Prop
  | [], b => b = true
  | e :: r, b => ∃ b1, Tst C n f σ e b1 ∧ ((b1 = false ∧ b = false) ∨ (b1 = true ∧ Tests C n f σ r b))
theorem forIn_false {M : Model} {A : Around} {E : Value → Shared → Prop} {s : Shared} {env : Env} {Q : Bool → Shared → Prop} (h : Q false s) : ∀ ifs : List Expr,
    wpAny M A (forIn ifs false fun c r => if r = true then do let ok ← isTrue c env (eval c env); pure (ForInStep.yield ok) else pure (ForInStep.yield r)) Q E s
  | [] => by rw [List.forIn_nil]; exact wpAny_pure h
  | c :: r => by
    rw [List.forIn_cons]
    refine wpAny_bind ?_
    rw [if_neg (by decide)]
    exact wpAny_pure (forIn_false h r)
theorem tests_run {A : Around} {ow gs av} {E : Value → Shared → Prop} (R : Room n A) : ∀ {ifs : List Expr} {b : Bool} {s : Shared} {Q : Bool → Shared → Prop}, Tests C n f σ ifs b → FS C f σ ow gs av s →
    (∀ s', Wd C (f.mut ow ++ av) s' → Ext C s.heap s'.heap → Q b s') →
    wpAny C.M A (forIn ifs true fun c r => if r = true then do let ok ← isTrue c f.env (eval c f.env); pure (ForInStep.yield ok) else pure (ForInStep.yield r)) Q E s
  | [], b, s, Q, ht, F, h => by
    rw [List.forIn_nil]
    have : b = true := ht
    subst this
    exact wpAny_pure (h s F.wd (.refl _))
  | c :: r, b, s, Q, ⟨b1, h1, h2⟩, F, h => by
    rw [List.forIn_cons]
    refine wpAny_bind ?_
    rw [if_pos rfl]
    refine wpAny_bind (h1 A ow gs av s _ E R F fun s₁ W₁ e₁ => wpAny_pure ?_)
    rcases h2 with ⟨rfl, rfl⟩ | ⟨rfl, h2⟩
    · exact forIn_false (h s₁ W₁ e₁) r
    · exact tests_run R h2 (F.ext W₁ e₁) fun s₂ W₂ e₂ => h s₂ W₂ (e₁.trans e₂)

/-- what the outer frame's names tell inside -/
noncomputable def Caught (f : Fm) (σ : Sto) (scope : Scope) (cl : List (Str × Addr)) (σc : Sto) : Prop := ∀ x ld, σc.lookup x = some ld → (∃ d, ld = .val d) ∧ σ.lookup x = some ld ∧ f.env.kindOf x ≠ some .local ∧ cl.lookup x = f.env.cells.lookup x ∧
  ((relabel scope f.env).names.lookup x = some .cell ∨ (relabel scope f.env).names.lookup x = some .free)

noncomputable def compRes (b : Nat → Bool) (F : Nat → D) (k : Nat) : List D := ((List.range k).filter b).map F
theorem compRes_succ (b : Nat → Bool) (F : Nat → D) (k : Nat) : compRes b F (k + 1) = compRes b F k ++ (if b k then [F k] else []) := by
  unfold compRes
  rw [List.range_succ, List.filter_append, List.map_append]
  cases h : b k <;> simp [h]
theorem compRes_length (b : Nat → Bool) (F : Nat → D) (k : Nat) : (compRes b F k).length ≤ k := by
  unfold compRes
  rw [List.length_map]
  exact Nat.le_trans (List.length_filter_le _ _) (by simp)

theorem comp_core {elt target iter : Expr} {ifs : List Expr} {scope : Scope} {cl : List (Str × Addr)} {pos : Pos} {items : List D} {σc : Sto} (b : Nat → Bool) (F : Nat → D)
    (h1 : EvIt C n f σ iter target items) (hnc : (scope.names.all fun x => x.2 != .cell) = true) (hkind : scope.kind = .function)
    (hcap : Caught f σ scope cl σc) (hci : ∀ x y c, cl.lookup x = some c → cl.lookup y = some c → x = y) (hcl2 : ∀ x c, cl.lookup x = some c → f.env.cells.lookup x = some c)
    (hlen : items.length ≤ sizeLine)
    (item : ∀ Cc i d, items[i]? = some d → ∃ σ₁, Bnd C n ⟨compEnvC scope cl Cc f.env, []⟩ target d σc σ₁ ∧ (∀ x ld, σc.lookup x = some ld → σ₁.lookup x = some ld) ∧
      Tests C n ⟨compEnvC scope cl Cc f.env, []⟩ σ₁ ifs (b i) ∧ (b i = true → Ev C n ⟨compEnvC scope cl Cc f.env, []⟩ σ₁ elt (F i)))
    {A : Around} {ow gs av} {s : Shared} {E : Value → Shared → Prop} {RR : Value → Addr → Result → Shared → Prop} (R : Room n A) (Fo : FS C f σ ow gs av s)
    (hQ : ∀ D Cc s' vs m, Wd C (Cc :: (f.mut ow ++ av)) s' → Ext C s.heap s'.heap → s.heap.get? Cc = none → s.heap.get? D = none → D ≠ Cc → s'.heap.PlainList D (List.toArray vs) → RepL C.P (Cc :: D :: (f.mut ow ++ av)) s'.heap (compRes b F items.length) vs →
      s'.heap.Ns Cc m → RR (.ref D) Cc (.ok .next) s') :
    wpAny C.M A (eval iter f.env) (fun x s₁ => wpAny C.M A (pyIter x) (fun it s₂ => wpAny C.M A (newList []) (fun acc s₃ =>
      wpAny C.M A (newFunctionEnv scope f.env.globals cl [] f.env.qual none .none (some f.env)) (fun cenv s₄ =>
        codeAny C.M A (.compStart (.ListComp elt [⟨target, iter, ifs, 0⟩] scope pos) 0 it acc { cenv with scope := relabel scope f.env }) (RR acc cenv.locals) s₄) E s₃) E s₂) E s₁) E s := by
  refine h1 A ow gs av s _ E R Fo fun it wr gl St s₂ W₂ e₂ hf wk st hgl => ?_
  refine wpAny_newObj_type (wpAny_newFunctionEnv (fun x hx => by simpa using List.all_eq_true.mp hnc x hx) (by intro y hy; simp at hy) (fun h₁ hns₁ hsb₁ => ?_) hkind)
  dsimp only at hns₁ hsb₁ ⊢
  generalize hH2 : s₂.heap.push { cls := .type "list", dict := none, data := .seq ([] : List Value).toArray } = H2 at hns₁ hsb₁ ⊢
  have hC : H2.objs.size = s₂.heap.objs.size + 1 := by rw [← hH2, Heap.size_push]
  generalize hDd : s₂.heap.objs.size = D at hC
  generalize hCd : H2.objs.size = Cc at hns₁ hsb₁ hC ⊢
  have hDC : D ≠ Cc := by lia
  have nD : s₂.heap.get? D = none := fresh_none (by lia)
  have nC : s₂.heap.get? Cc = none := fresh_none (by lia)
  have lt : ∀ b o, s₂.heap.get? b = some o → b ≠ Cc ∧ b ≠ D := fun b o e => ⟨fun q => (by rw [q, nC] at e; cases e), fun q => (by rw [q, nD] at e; cases e)⟩
  have keep₁ : ∀ b o, s₂.heap.get? b = some o → h₁.get? b = some o := fun b o e => hsb₁.extBut b o (lt b o e).1 (Heap.get?_push_of_some _ (hH2 ▸ Heap.get?_push_of_some _ e))
  have hacc : h₁.PlainList D (List.toArray []) := ⟨0, hsb₁.extBut _ _ hDC (Heap.get?_push_of_some _ (by rw [← hH2, ← hDd]; exact Heap.get?_push_size _ rfl))⟩
  let f' : Fm := ⟨compEnvC scope cl Cc f.env, []⟩
  let av' := wr ++ (D :: (f.mut ow ++ av))
  have wrl : ∀ a ∈ wr, ∃ o, s₂.heap.get? a = some o := fun a ha => W₂.live a (List.mem_append_left _ ha)
  have wrT : ∀ a ∈ wr, a ∉ C.TP := fun a ha m => by obtain ⟨ps, x⟩ := Fo.tab_obj m; rw [hf a ha] at x; cases x
  have DT : D ∉ C.TP := fun m => by
    obtain ⟨o, x⟩ := W₂.live D (List.mem_append_right _ (Fo.tp' D m)); rw [nD] at x; cases x
  have CT : Cc ∉ C.TP := fun m => by
    obtain ⟨o, x⟩ := W₂.live Cc (List.mem_append_right _ (Fo.tp' Cc m)); rw [nC] at x; cases x
  have Dwr : D ∉ wr := fun m => by obtain ⟨o, x⟩ := wrl D m; rw [nD] at x; cases x
  have Cwr : Cc ∉ wr := fun m => by obtain ⟨o, x⟩ := wrl Cc m; rw [nC] at x; cases x
  have gone : ∀ {a}, s₂.heap.get? a = none → s.heap.get? a = none := fun {a} h => by
    cases q : s.heap.get? a with
    | none => rfl
    | some o =>
      by_cases m : a ∈ C.TP
      · obtain ⟨o', x⟩ := W₂.live a (List.mem_append_right _ (Fo.tp' a m)); rw [h] at x; cases x
      · rw [e₂ a o m q] at h; cases h
  have memav : ∀ a, a ∈ [Cc, D] ++ (wr ++ (f.mut ow ++ av)) ↔ a ∈ f'.mut [] ++ av' := fun a => by
    simp only [f', av', Fm.mut, compEnvC, List.map_nil, List.append_nil, List.mem_append, List.mem_cons, List.not_mem_nil, or_false]
    grind
  have W₃ : Wd C (f'.mut [] ++ av') ⟨h₁, s₂.gens, s₂.drawn, s₂.toks + ([] : List (Str × Value)).length, s₂.os⟩ := by
    have := W₂.asides (as := [Cc, D]) (s' := ⟨h₁, s₂.gens, s₂.drawn, s₂.toks + ([] : List (Str × Value)).length, s₂.os⟩) rfl rfl keep₁ (fun a ha => by
      rcases List.mem_cons.mp ha with rfl | ha
      · exact nC
      · rw [List.mem_singleton.mp ha]; exact nD) (fun a ha => by
      rcases List.mem_cons.mp ha with rfl | ha
      · exact ns_live hns₁
      · rw [List.mem_singleton.mp ha]; obtain ⟨k, x⟩ := hacc; exact ⟨_, x⟩)
    exact this.less (fun a h => (memav a).mpr h) fun t ht => (memav _).mp (List.mem_append_right _ (List.mem_append_right _ (Fo.tp' _ (List.mem_map_of_mem ht))))
  have tp' : ∀ a ∈ C.TP, a ∈ av' := fun a h => List.mem_append_right _ (List.mem_cons_of_mem _ (Fo.tp' a h))
  have CcA : Cc ∉ av' := fun h => by
    rcases List.mem_append.mp h with h | h
    · exact Cwr h
    · rcases List.mem_cons.mp h with h | h
      · exact hDC h.symm
      · obtain ⟨o, x⟩ := W₂.live Cc (List.mem_append_right _ h); rw [nC] at x; cases x
  have mut1 : f'.mut [] = [Cc] := by simp [f', Fm.mut, compEnvC]
  have up2 : ∀ {d v}, Rep C.P (wr ++ (f.mut ow ++ av)) s₂.heap d v → Rep C.P (f'.mut [] ++ av') h₁ d v := fun r => r.mono (fun b o _ e => keep₁ b o e) fun b hb ⟨o, x⟩ => by
    rcases List.mem_append.mp ((memav b).mpr hb) with h | h
    · rcases List.mem_cons.mp h with rfl | h
      · rw [nC] at x; cases x
      · rw [List.mem_singleton.mp h, nD] at x; cases x
    · exact h
  have up1 : ∀ {d v}, Rep C.P (f.mut ow ++ av) s.heap d v → Rep C.P (wr ++ (f.mut ow ++ av)) s₂.heap d v := fun r => r.mono (fun b o hb e => e₂ b o (fun m => hb (Fo.tp' b m)) e) fun b hb ⟨o, x⟩ => by
    rcases List.mem_append.mp hb with h | h
    · rw [hf b h] at x; cases x
    · exact h
  have hcll : ∀ x c, cl.lookup x = some c → ∃ v, s.heap.IsCell c v := fun x c h => Fo.cl x c (hcl2 x c h)
  have cellUp : ∀ {c v}, s.heap.IsCell c v → h₁.IsCell c v := fun hc => isCell_at hc fun o e => keep₁ _ o (e₂ _ o (Fo.cell_tp hc) e)
  have F₃ : FS C f' σc [] gl av' ⟨h₁, s₂.gens, s₂.drawn, s₂.toks + ([] : List (Str × Value)).length, s₂.os⟩ := by
    obtain ⟨mo, hmo, hvo⟩ := Fo.vars
    refine ⟨⟨hkind, Fo.ek.2.1, Fo.ek.2.2⟩, tp', W₃, by rw [mut1]; simp, fun a ha h => by rw [mut1] at ha; rw [List.mem_singleton.mp ha] at h; exact CcA h, hci, fun x c h => let ⟨v, hc⟩ := hcll x c h; ⟨v, cellUp hc⟩, ⟨_, hns₁, fun x ld h => ?_⟩, fun p hp => up2 (hgl p hp)⟩
    obtain ⟨⟨d, rfl⟩, hl, hk, hcx, hkx⟩ := hcap x ld h
    obtain ⟨v, hat, hr⟩ := hvo x _ hl
    rcases hat with ⟨k, _⟩ | ⟨_, c, hc, hcv⟩
    · exact absurd k hk
    · exact ⟨v, .inr ⟨hkx, c, hcx.trans hc, cellUp hcv⟩, up2 (up1 hr)⟩
  have hcw : ∀ (X : List Addr), (∀ a ∈ X, s.heap.get? a = none) → ∀ x c, f'.env.cells.lookup x = some c → c ∉ X := fun X hX x c h m => by
    obtain ⟨v, o, e, _⟩ := hcll x c h; rw [hX c m] at e; cases e
  have hw : ∀ a ∈ wr, a ∈ f'.mut [] ++ av' ∧ a ∉ C.TP := fun a ha => ⟨List.mem_append_right _ (List.mem_append_left _ ha), wrT a ha⟩
  have DA : D ∈ av' := List.mem_append_right _ (List.mem_cons_self ..)
  have loop : codeAny C.M A (.compLoop (.ListComp elt [⟨target, iter, ifs, 0⟩] scope pos) 0 (.ref it) (.ref D) f'.env) (RR (.ref D) Cc) ⟨h₁, s₂.gens, s₂.drawn, s₂.toks + ([] : List (Str × Value)).length, s₂.os⟩ := by
    refine codeAny_compLoop_own (fun kk s' => ∃ i vs, kk = items.length + 1 - i ∧ i ≤ items.length ∧ FS C f' σc [] gl av' s' ∧ St i s'.heap ∧ s'.heap.PlainList D (List.toArray vs) ∧ RepL C.P (f'.mut [] ++ av') s'.heap (compRes b F i) vs ∧
      ∀ a o, a ∉ C.TP → a ≠ Cc → a ≠ D → a ∉ wr → h₁.get? a = some o → s'.heap.get? a = some o) ?_ _ ⟨0, [], rfl, Nat.zero_le _, F₃, wk.frame _ _ _ st fun a ha o e => keep₁ a o e, hacc, .nil, fun _ _ _ _ _ _ e => e⟩
    rintro kk s' ⟨i, vs, rfl, hi, F', st', hp', hr', hk'⟩
    rcases Nat.lt_or_eq_of_le hi with hlt | rfl
    · have hd : items[i]? = some items[i] := List.getElem?_eq_getElem hlt
      obtain ⟨σ₁, hb, hle, htst, hev⟩ := item Cc i _ hd
      refine wk.item A _ s' i _ _ _ _ R.hd F'.wd F'.tp' hw F'.gh st' hd fun v s₅ W₅ hk₅ r₅ st₅ => ?_
      have F₅ : FS C f' σc [] gl av' s₅ := F'.move W₅ hk₅ (fun a ha => List.mem_append_left _ ha) (hcw wr hf)
      have hp₅ := hp'.at (hk₅ D · Dwr)
      have hr₅ : RepL C.P (f'.mut [] ++ av') s₅.heap (compRes b F i) vs := hr'.mono (fun a o ha e => hk₅ a o (fun m => ha (hw a m).1) e) fun _ h _ => h
      refine hb A [] _ _ s₅ v _ _ R F₅ r₅ fun s₆ F₆ kk₆ => ?_
      have hk₆ : ∀ a o, a ∉ C.TP → a ≠ Cc → s₅.heap.get? a = some o → s₆.heap.get? a = some o := fun a o h1 h2 e =>
        kk₆ (fun b => if b = Cc then none else s₅.heap.get? b) (fun b o _ q => by
          dsimp only at q
          by_cases m : b = Cc
          · rw [if_pos m] at q; cases q
          · rwa [if_neg m] at q) (fun b hb => by rw [mut1] at hb; exact if_pos (List.mem_singleton.mp hb)) a o h1 ((if_neg h2).trans e)
      refine tests_run R htst F₆ fun s₇ W₇ e₇ => ?_
      have F₇ := F₆.ext W₇ e₇
      have hk₇ : ∀ a o, a ∉ C.TP → a ≠ Cc → s₅.heap.get? a = some o → s₇.heap.get? a = some o := fun a o h1 h2 e => e₇ a o h1 (hk₆ a o h1 h2 e)
      have hr₇ : RepL C.P (f'.mut [] ++ av') s₇.heap (compRes b F i) vs := hr₅.mono (fun a o ha e => hk₇ a o (fun m => ha (F₅.tp' a m)) (fun q => ha (List.mem_append_left _ (by rw [mut1, q]; exact List.mem_singleton.mpr rfl))) e) fun _ h _ => h
      have hp₇ := hp₅.at (hk₇ D · DT hDC)
      have st₇ : St (i + 1) s₇.heap := wk.frame _ _ _ st₅ fun a ha o e => hk₇ a o (wrT a ha) (fun q => Cwr (q ▸ ha)) e
      have hall₇ : ∀ a o, a ∉ C.TP → a ≠ Cc → a ≠ D → a ∉ wr → h₁.get? a = some o → s₇.heap.get? a = some o := fun a o h1 h2 h3 h4 e => hk₇ a o h1 h2 (hk₅ a o h4 (hk' a o h1 h2 h3 h4 e))
      cases hbi : b i with
      | false =>
        simp only [Bool.false_eq_true, if_false]
        refine ⟨items.length + 1 - (i + 1), by lia, i + 1, vs, rfl, hlt, F₇.weaken hle, st₇, hp₇, ?_, hall₇⟩
        rw [compRes_succ, hbi]; simpa using hr₇
      | true =>
        simp only [if_true]
        refine hev hbi A [] _ _ s₇ _ _ R F₇ fun x s₈ W₈ e₈ r₈ => ?_
        have F₈ := F₇.ext W₈ e₈
        have hp₈ := hp₇.at (e₈ D · DT)
        have hr₈ := hr₇.ext W₇ e₈
        refine wpAny_list_append_plain (x := x) hp₈ (fun h' hp₉ hsb => ?_) (by
          have := compRes_length b F i; have := hr₈.length; simp only [List.size_toArray]; lia)
        have hk₉ : ∀ a o, a ∉ [D] → s₈.heap.get? a = some o → h'.get? a = some o := fun a o ha e => (hsb.2 a fun q => ha (List.mem_singleton.mpr q)).trans e
        have W₉ : Wd C (f'.mut [] ++ av') { s₈ with heap := h' } := W₈.wr (wr := [D]) (fun a ha => by rw [List.mem_singleton.mp ha]; exact ⟨List.mem_append_right _ DA, DT⟩) rfl rfl hk₉ fun a ha => by
          rw [List.mem_singleton.mp ha]; obtain ⟨k, x⟩ := hp₉; exact ⟨_, x⟩
        have F₉ : FS C f' σ₁ [] gl av' { s₈ with heap := h' } := F₈.move W₉ hk₉ (fun a ha => by rw [List.mem_singleton.mp ha]; exact DA) (hcw [D] fun a ha => by rw [List.mem_singleton.mp ha]; exact gone nD)
        have e3 : (List.toArray vs).push x = List.toArray (vs ++ [x]) := by simp
        rw [e3] at hp₉
        refine ⟨items.length + 1 - (i + 1), by lia, i + 1, vs ++ [x], rfl, hlt, F₉.weaken hle, wk.frame _ _ _ st₇ fun a ha o e => hk₉ a o (fun q => Dwr (List.mem_singleton.mp q ▸ ha)) (e₈ a o (wrT a ha) e), hp₉, ?_, fun a o h1 h2 h3 h4 e => hk₉ a o (fun q => h3 (List.mem_singleton.mp q)) (e₈ a o h1 (hall₇ a o h1 h2 h3 h4 e))⟩
        rw [compRes_succ, hbi]
        exact (hr₈.append (.one r₈)).mono (fun a o ha e => hk₉ a o (fun q => ha (by rw [List.mem_singleton.mp q]; exact List.mem_append_right _ DA)) e) fun _ h _ => h
    · have := wk.done A _ s' (fun s₃ => RR (.ref D) Cc (.ok .next) s₃) (fun _ _ => False) (notedBy C.M A f'.env fun e s'' => RR (.ref D) Cc (.error e) s'') R.hd F'.wd F'.tp' hw F'.gh st' fun s₅ hg₅ ho₅ hk₅ => ?_
      · refine wpAny_mono this (fun r s₃ h₃ => ?_) fun _ _ x => x
        cases r with
        | none => exact h₃
        | some v => exact h₃.elim
      · obtain ⟨m₅, hm₅, _⟩ := F'.vars
        have nwm : ∀ a ∈ f.mut ow ++ av, a ∉ wr ∧ a ≠ D ∧ a ≠ Cc := fun a ha => by
          obtain ⟨o, e⟩ := Fo.wd.live a ha
          exact ⟨fun m => (by rw [hf a m] at e; cases e), fun q => (by rw [q, gone nD] at e; cases e), fun q => (by rw [q, gone nC] at e; cases e)⟩
        refine hQ D Cc s₅ vs m₅ ?_ (fun a o ha e => ?_) (gone nC) (gone nD) hDC (hp'.at fun o e => hk₅ D o Dwr e) (hr'.mono (fun a o ha e => hk₅ a o (fun m => ha (hw a m).1) e) fun a ha _ => ?_) (hm₅.at' fun o e => hk₅ Cc o Cwr e)
        · have W₆ : Wd C (Cc :: D :: (f.mut ow ++ av)) s₅ := F'.wd.drop (wr := wr) wrT hg₅ ho₅ hk₅ (fun a ha => ?_) (fun a ha => ?_) (fun a ha => ?_) (fun a ha => (hw a ha).1) fun a ha => List.mem_cons_of_mem _ (List.mem_cons_of_mem _ (Fo.tp' a ha))
          · exact W₆.less (fun a ha => by
              rcases List.mem_cons.mp ha with rfl | ha
              · exact List.mem_cons_self ..
              · exact List.mem_cons_of_mem _ (List.mem_cons_of_mem _ ha)) fun t ht => List.mem_cons_of_mem _ (Fo.tp' _ (List.mem_map_of_mem ht))
          · refine (memav a).mp ?_
            simp only [List.mem_append, List.mem_cons, List.not_mem_nil, or_false] at ha ⊢
            grind
          · have := (memav a).mpr ha
            simp only [List.mem_append, List.mem_cons, List.not_mem_nil, or_false] at this ⊢
            grind
          · rcases List.mem_cons.mp ha with rfl | ha
            · exact Cwr
            · rcases List.mem_cons.mp ha with rfl | ha
              · exact Dwr
              · exact (nwm a ha).1
        · have e' := e₂ a o ha e
          have hne := lt a o e'
          have hw' : a ∉ wr := fun m => by rw [hf a m] at e; cases e
          exact hk₅ a o hw' (hk' a o ha hne.1 hne.2 hw' (keep₁ a o e'))
        · refine (memav a).mp ?_
          simp only [List.mem_append, List.mem_cons, List.not_mem_nil, or_false] at ha ⊢
          grind
  exact codeAny_compStart_list loop (wk.self A _ _ _ 0 (wk.frame _ _ _ st fun a ha o e => keep₁ a o e) loop)
end
end Mine
end
section
namespace Mine
section
variable {C : Cst} {n : Nat} {f : Fm} {σ : Sto}

/-- the comprehension's new place goes -/
theorem Wd.cons_drop {av : List Addr} {s : Shared} {Cc : Addr} {h' : Heap} (W : Wd C (Cc :: av) s) (hs : Heap.SameBut Cc s.heap h') (hC : Cc ∉ av) (tp : ∀ a ∈ C.TP, a ∈ av) : Wd C av { s with heap := h' } :=
  W.drop (wr := [Cc]) (fun a ha m => by rw [List.mem_singleton.mp ha] at m; exact hC (tp _ m)) rfl rfl (fun b o hb e => (hs.2 b fun q => hb (List.mem_singleton.mpr q)).trans e) (fun a ha => List.mem_cons_of_mem _ ha)
    (fun a ha => by rcases List.mem_cons.mp ha with rfl | ha; exact .inr (List.mem_singleton.mpr rfl); exact .inl ha) (fun a ha m => hC (by rw [← List.mem_singleton.mp m]; exact ha)) (fun a ha => by rw [List.mem_singleton.mp ha]; exact List.mem_cons_self ..) tp

theorem evo_comp {elt target iter : Expr} {ifs : List Expr} {scope : Scope} {cl : List (Str × Addr)} {pos : Pos} {items : List D} {σc : Sto} (b : Nat → Bool) (F : Nat → D)
    (hclos : closureFor scope f.env = pure cl)
    (h1 : EvIt C n f σ iter target items) (hnc : (scope.names.all fun x => x.2 != .cell) = true) (hkind : scope.kind = .function) (hnames : (scope.names.all fun x => x.2 != .local || scope.names.lookup x.1 == some .local) = true)
    (hcap : Caught f σ scope cl σc) (hci : ∀ x y c, cl.lookup x = some c → cl.lookup y = some c → x = y) (hcl2 : ∀ x c, cl.lookup x = some c → f.env.cells.lookup x = some c)
    (hlen : items.length ≤ sizeLine)
    (item : ∀ Cc i d, items[i]? = some d → ∃ σ₁, Bnd C n ⟨compEnvC scope cl Cc f.env, []⟩ target d σc σ₁ ∧ (∀ x ld, σc.lookup x = some ld → σ₁.lookup x = some ld) ∧
      Tests C n ⟨compEnvC scope cl Cc f.env, []⟩ σ₁ ifs (b i) ∧ (b i = true → Ev C n ⟨compEnvC scope cl Cc f.env, []⟩ σ₁ elt (F i)))
    (hs : ∀ x, foldedSetIterable iter f.env x = pure x := by intro _; rfl) : EvO C n f σ (.ListComp elt [⟨target, iter, ifs, 0⟩] scope pos) (compRes b F items.length) := by
  intro A ow gs av s Q E R Fo h
  rw [eval_ListComp]
  have hnm : ∀ x ∈ scope.names, x.2 = .local → scope.names.lookup x.1 = some .local := fun x hx hl => by
    have := List.all_eq_true.mp hnames x hx
    rw [hl] at this; simpa using this
  refine wpAny_comprehension_free (use := none) rfl hs hclos hkind hnm (comp_core b F h1 hnc hkind hcap hci hcl2 hlen item R Fo fun D Cc s' vs m W' e' gC gD hDC hp hr hn => ?_)
  refine ⟨m, hn, fun h' hs' => ?_⟩
  have CcA : Cc ∉ f.mut ow ++ av := fun m => by obtain ⟨o, e⟩ := Fo.wd.live Cc m; rw [gC] at e; cases e
  have CT : Cc ∉ C.TP := fun m => CcA (Fo.tp' Cc m)
  refine h D vs { s' with heap := h' } (W'.cons_drop hs' CcA Fo.tp') (fun a o ha e => (hs'.2 a fun q => by rw [q, gC] at e; cases e).trans (e' a o ha e)) gD (hp.at fun o e => (hs'.2 D hDC).trans e) ?_
  exact hr.mono (fun a o ha e => (hs'.2 a fun q => ha (q ▸ List.mem_cons_self ..)).trans e) fun a ha _ => List.mem_cons_of_mem _ ha

/-- y = [comprehension], where the list is laid in the name first -/
theorem ex_assign_comp {y : Str} {py spos : Pos} {elt target iter : Expr} {ifs : List Expr} {scope : Scope} {cl : List (Str × Addr)} {pos : Pos} {items : List D} {σc : Sto} (b : Nat → Bool) (F : Nat → D)
    (hclos : closureFor scope f.env = pure cl)
    (h1 : EvIt C n f σ iter target items) (hnc : (scope.names.all fun x => x.2 != .cell) = true) (hkind : scope.kind = .function) (hnames : (scope.names.all fun x => x.2 != .local || scope.names.lookup x.1 == some .local) = true)
    (hcap : Caught f σ scope cl σc) (hci : ∀ x y c, cl.lookup x = some c → cl.lookup y = some c → x = y) (hcl2 : ∀ x c, cl.lookup x = some c → f.env.cells.lookup x = some c)
    (hlen : items.length ≤ sizeLine)
    (item : ∀ Cc i d, items[i]? = some d → ∃ σ₁, Bnd C n ⟨compEnvC scope cl Cc f.env, []⟩ target d σc σ₁ ∧ (∀ x ld, σc.lookup x = some ld → σ₁.lookup x = some ld) ∧
      Tests C n ⟨compEnvC scope cl Cc f.env, []⟩ σ₁ ifs (b i) ∧ (b i = true → Ev C n ⟨compEnvC scope cl Cc f.env, []⟩ σ₁ elt (F i)))
    (hy : Stk f y)
    (hsw : swapsWith (.ListComp elt [⟨target, iter, ifs, 0⟩] scope pos) (some (.Name y py)) spos.line f.env = pure true := by rfl)
    (hs : ∀ x, foldedSetIterable iter f.env x = pure x := by intro _; rfl) :
    Ex C n f σ (.Assign [.Name y py] (.ListComp elt [⟨target, iter, ifs, 0⟩] scope pos) spos) (.next ((y, .val (.lst (compRes b F items.length))) :: σ)) := by
  intro A ow gs av g s Q E R Fo k hg h
  have hnm : ∀ x ∈ scope.names, x.2 = .local → scope.names.lookup x.1 = some .local := fun x hx hl => by
    have := List.all_eq_true.mp hnames x hx
    rw [hl] at this; simpa using this
  rw [exec_Assign_Name_used _ _ _ _ hsw]
  refine wpAny_bind (wpAny_standAt (wpAny_bind ?_))
  show wpAny _ A (do let _ ← comprehension (.ListComp elt [⟨target, iter, ifs, 0⟩] scope pos) scope f.env _ (newList []) false (eval iter f.env) (some (assign (.Name y py) f.env))) _ _ s
  refine wpAny_bind (wpAny_mono (wpAny_comprehension_free (use := some (assign (.Name y py) f.env)) (Q := fun _ s' => Q .next s') rfl hs hclos hkind hnm
    (comp_core b F h1 hnc hkind hcap hci hcl2 hlen item R Fo (RR := fun acc C' => compPost C.M A E (some (assign (.Name y py) f.env)) (fun _ s' => Q .next s') acc C') fun D Cc s' vs m W' e' gC gD hDC hp hr hn => ?_)) (fun _ s' hq => wpAny_pure (wpAny_pure hq)) fun _ _ e => e)
  have CcA : Cc ∉ f.mut ow ++ av := fun m => by obtain ⟨o, e⟩ := Fo.wd.live Cc m; rw [gC] at e; cases e
  have DcA : D ∉ f.mut ow ++ av := fun m => by obtain ⟨o, e⟩ := Fo.wd.live D m; rw [gD] at e; cases e
  have CT : Cc ∉ C.TP := fun m => CcA (Fo.tp' Cc m)
  have F₁ : FS C f σ ow ([] ++ gs) ([Cc] ++ av) s' := Fo.into (wr := [Cc]) (gl := []) W' e' (fun a ha => by rw [List.mem_singleton.mp ha]; exact gC) fun _ h => nomatch h
  have mem : ∀ a, a ∈ f.mut ow ++ ([Cc] ++ av) ↔ a ∈ Cc :: (f.mut ow ++ av) := fun a => app_mem
  have rD : Rep C.P (f.mut ow ++ ([Cc] ++ av)) s'.heap (.lst (compRes b F items.length)) (.ref D) := by
    simp only [Rep]
    refine ⟨D, vs, rfl, fun m => ?_, hp, hr.mono (fun _ _ _ e => e) fun a ha _ => ?_⟩
    · rcases List.mem_cons.mp ((mem D).mp m) with e | e
      · exact hDC e
      · exact DcA e
    · rcases List.mem_cons.mp ((mem a).mp ha) with e | e
      · exact e ▸ List.mem_cons_self ..
      · exact List.mem_cons_of_mem _ (List.mem_cons_of_mem _ e)
  show wpAny _ A (assign (.Name y py) f.env (.ref D)) _ _ _
  refine wpAny_assign_Name (st_any (d := .val (.lst (compRes b F items.length))) F₁ hy rD fun h' tk a ha F₂ hsb => ?_)
  have aC : a ≠ Cc := fun q => CcA (q ▸ List.mem_append_left _ ha)
  refine ⟨m, hn.at' fun o e => (hsb.2 Cc (Ne.symm aC)).trans e, fun h₂ hs₂ => ?_⟩
  have k₁ : Kp C g s'.heap := k.ext e'
  have k₂ := F₁.kp_same ha k₁ hg hsb
  have hcw : ∀ x c, f.env.cells.lookup x = some c → c ∉ [Cc] := fun x c hl m => by
    obtain ⟨v, o, e, _⟩ := Fo.cl x c hl
    rw [List.mem_singleton.mp m, gC] at e; cases e
  refine h _ _ ⟨rfl, ow, F₂.outof (wr := [Cc]) (gl := []) Fo.tp (fun a ha => by
    rw [List.mem_singleton.mp ha]; exact ⟨CT, fun m => CcA (List.mem_append_right _ m)⟩) hcw rfl rfl fun b o hb e => (hs₂.2 b fun q => hb (List.mem_singleton.mpr q)).trans e, fun b o hb q => (hs₂.2 b fun e => by
      rw [e, Fo.g_new k gC] at q; cases q).trans (k₂ b o hb q), hg⟩
end
end Mine
end
section
namespace Mine
section
variable {C : Cst} {n : Nat} {f : Fm} {σ : Sto}

/-- x += e -/
theorem ex_aug {x : Str} {p pos : Pos} {op : Operator} {value : Expr} {a b r : D} (hx : f.env.kindOf x = some .local) (hl : σ.lookup x = some (.val a)) (h1 : Ev C n f σ value b)
    (h2 : ∀ A av s va vb Q E, Room n A → Wd C av s → (∀ a ∈ C.TP, a ∈ av) → Rep C.P av s.heap a va → Rep C.P av s.heap b vb → (∀ v s', Wd C av s' → Ext C s.heap s'.heap → Rep C.P av s'.heap r v → Q v s') → wpAny C.M A (inplaceOp op va vb) Q E s) :
    Ex C n f σ (.AugAssign (.Name x p) op value pos) (.next ((x, .val r) :: σ)) := by
  intro A ow gs av g s Q E R F k hg h
  obtain ⟨m, hm, hv⟩ := F.vars
  obtain ⟨v, hat, hr⟩ := hv x _ hl
  have hmv : m x = some v := by
    rcases hat with ⟨_, h⟩ | ⟨k, _⟩
    · exact h
    · rw [hx] at k; rcases k with k | k <;> cases k
  refine wpAny_AugAssign_Name (wpAny_loadName_local F.ek.1 hx hm hmv ?_)
  refine h1 A ow gs av s _ E R F fun vb s₁ W₁ e₁ r₁ => ?_
  have F₁ := F.ext W₁ e₁
  have hr' : Rep C.P (f.mut ow ++ av) s₁.heap a v := Rep.ext (show Rep C.P (f.mut ow ++ av) s.heap a v from hr) F.wd e₁
  refine h2 A _ s₁ v vb _ E R W₁ F₁.tp' hr' r₁ fun w s₂ W₂ e₂ r₂ => ?_
  have F₂ := F₁.ext W₂ e₂
  refine st_local (d := .val r) F₂ hx r₂ fun h' tk F' hsb => ?_
  exact h _ _ ⟨rfl, ow, F', F₂.kp_same F₂.L_mut (k.ext (e₁.trans e₂)) hg hsb, hg⟩
theorem repL_intsAre {P : Params} {av : List Addr} {h : Heap} : ∀ {xs : List Int} {vs : List Value}, RepL P av h (xs.map .int) vs → IntsAre vs xs
  | [], _, x => by rw [x.inv0]; exact .nil
  | _ :: _, _, x => by
    obtain ⟨v, r, rfl, h1, h2⟩ := x.inv
    obtain ⟨t, rfl⟩ := h1.int_inv
    exact .cons _ _ (repL_intsAre h2)

theorem cal_sum {xs : List Int} : Cal C n (.bi "sum") [.lst (xs.map .int)] (.int xs.sum) := by
  intro A av s vf vs Q E R W tp rf rv h
  obtain rfl := rf.bi_inv
  obtain ⟨v, r, rfl, r1, r2⟩ := rv.inv
  obtain rfl := r2.inv0
  obtain ⟨a, us, rfl, ha, hp, hr⟩ := r1.lst_inv
  have hi := repL_intsAre hr
  obtain ⟨ys, hys⟩ := hi.allInts.items
  have hl' : s.heap.IsList a (intItems ys) := hys ▸ hp.isList
  refine sum_intListG R.hd hl' fun h' tk t' hk => ?_
  have e1 : xs = ys.toList.map (·.1) := by
    rw [← nums_intItems, ← hys]
    exact (show numsOf us.toArray.toList = xs from hi.numsOf).symm
  have e2 : preSum (numAt ys) ys.size = xs.sum := by
    rw [preSum_eq, List.take_of_length_le (by simp), e1]
  rw [e2]
  exact h _ _ (W.grow (s' := { s with heap := h', toks := tk }) rfl rfl hk) (.of_keep hk) (rep_int _ _)

theorem getM_count : GetM C (.lst ds) "count" "list.count" := getM_list PySem.F.slot_list_count PySem.F.type_list_count
theorem countP_ints {k : Int} {t : Tok} : ∀ {vs : List Value} {xs : List Int}, IntsAre vs xs → vs.countP (isInt k) = xs.count k
  | _, _, .nil => rfl
  | _, _, .cons n u h => by
    rw [List.countP_cons, List.count_cons, countP_ints (t := t) h]
    rfl
theorem cal_count {xs : List Int} {k : Int} : Cal C n (.bi "list.count") [.lst (xs.map .int), .int k] (.int (xs.count k : Nat)) := by
  intro A av s vf vs Q E R W tp rf rv h
  obtain rfl := rf.bi_inv
  obtain ⟨v, r, rfl, r1, r2⟩ := rv.inv
  obtain ⟨v2, r, rfl, r3, r4⟩ := r2.inv
  obtain rfl := r4.inv0
  obtain ⟨t, rfl⟩ := r3.int_inv
  obtain ⟨a, us, rfl, ha, ⟨nn, hp⟩, hr⟩ := r1.lst_inv
  have hi := repL_intsAre hr
  refine call_meets PySem.F.slot_list_count ⟨_, hp, rfl⟩ PySem.F.entry_list_count (PySem.F.args_list_count_2 _ _) (SeqAt.list_countAt a _ nn none #[] (.int k t) (isInt k))
    ⟨hp, fun y hy => (eq_isInt k t hi y (by simpa using hy)).at _ _, ?_⟩
  rw [show us.toArray.toList = us from rfl, countP_ints (t := t) hi]
  exact h _ _ (W.toks _) (.refl _) (rep_int _ _)

theorem tst_chain {l r1 r2 : Expr} {op1 op2 : CmpOp} {pos : Pos} {a b c : D} {b1 b2 : Bool} (h1 : Ev C n f σ l a) (h2 : Ev C n f σ r1 b) (h3 : Ev C n f σ r2 c) (h4 : Cmp C n op1 a b b1) (h5 : Cmp C n op2 b c b2)
    (hm : lastMarks [op1, op2] [r1, r2] = false := by with_unfolding_all rfl) : Tst C n f σ (.Compare l [op1, op2] [r1, r2] pos) (b1 && b2) := by
  intro A ow gs av s Q E R F h
  refine isTrue_chain (h1 A ow gs av s _ E R F fun va s₁ W₁ e₁ ra => ?_) hm
  have F₁ := F.ext W₁ e₁
  refine test_link (h2 A ow gs av s₁ _ E R F₁ fun vb s₂ W₂ e₂ rb => ?_)
  have F₂ := F₁.ext W₂ e₂
  refine h4 A _ s₂ va vb _ E R W₂ F₂.tp' (ra.ext W₁ e₂) rb fun s₃ W₃ e₃ => wpAny_truthy_bool ?_
  have F₃ := F₂.ext W₃ e₃
  cases b1 with
  | false =>
    rw [if_neg (by decide)]
    exact h s₃ W₃ ((e₁.trans e₂).trans e₃)
  | true =>
    rw [if_pos rfl]
    show wpAny _ _ (testChain pos vb [op2] [eval r2 f.env]) _ _ _
    refine test_last (h3 A ow gs av s₃ _ E R F₃ fun vc s₄ W₄ e₄ rc => ?_)
    have F₄ := F₃.ext W₄ e₄
    refine h5 A _ s₄ vb vc _ E R W₄ F₄.tp' ((rb.ext W₂ e₃).ext W₃ e₄) rc fun s₅ W₅ e₅ => wpAny_truthy_bool ?_
    exact h s₅ W₅ ((((e₁.trans e₂).trans e₃).trans e₄).trans e₅)

-- texts
theorem bop_addstr {a b : List Nat} (hl : a.length + b.length ≤ 16777216) : Bop C n .Add (.str (Tx a)) (.str (Tx b)) (.str (Tx (a ++ b))) := by
  intro A av s va vb Q E R W tp ra rb h
  obtain ⟨t, rfl⟩ := ra.str_inv; obtain ⟨u, rfl⟩ := rb.str_inv
  refine SB.add (fun t' k => ?_) (by rw [Tx_length, Tx_length]; exact hl)
  rw [Tx_append]
  exact h _ _ (W.toks _) (.refl _) (rep_str _ _)
theorem foldl_app (x : Array Nat) : ∀ (k : Nat) (acc : Array Nat), (List.foldl (fun a b => a ++ b) acc (List.replicate k x)).toList = acc.toList ++ (List.replicate k x.toList).flatten
  | 0, acc => by simp
  | k + 1, acc => by rw [List.replicate_succ, List.foldl_cons, foldl_app x k]; simp [List.replicate_succ]
theorem bop_mulstr {a : List Nat} {k : Int} (hk : k ≤ 1024) (hk0 : 0 ≤ k) (hl : a.length ≤ 1024) : Bop C n .Mult (.str (Tx a)) (.int k) (.str (Tx (List.replicate k.toNat a).flatten)) := by
  intro A av s va vb Q E R W tp ra rb h
  obtain ⟨t, rfl⟩ := ra.str_inv; obtain ⟨u, rfl⟩ := rb.int_inv
  have hlen : (Tx a).length = a.length := Tx_length a
  have hmul : (Tx a).length * k.toNat ≤ 1024 * 1024 := by rw [hlen]; exact Nat.mul_le_mul hl (by lia)
  refine P.mul_str (by simp; lia) (fun h1 _ h2 => ?_) (fun h1 _ => ?_) ?_
  · have h3 : (1024 : Int) ≤ (2 ^ 63 - 1) / k := by
      rw [Int.le_ediv_iff_mul_le (by lia)]
      have : (1024 : Int) * k ≤ 1024 * 1024 := by lia
      lia
    lia
  · unfold Builtin.Str.tooLong
    refine decide_eq_false ?_
    have : sizeLine = 16777216 := rfl
    lia
  · by_cases h1 : k < 1
    · rw [if_pos h1]
      have : k.toNat = 0 := by lia
      refine ⟨by decide, ?_⟩
      rw [this] at h
      exact h _ _ (W.toks _) (.refl _) (rep_str _ _)
    · rw [if_neg h1]
      by_cases h2 : (k == 1 || (Tx a).length == 0) = true
      · rw [if_pos h2]
        have : Tx (List.replicate k.toNat a).flatten = Tx a := by
          rcases Bool.or_eq_true_iff.mp h2 with e | e
          · have : k = 1 := by simpa using e
            subst this; simp
          · rw [hlen] at e
            have : a = [] := List.length_eq_zero_iff.mp (by simpa using e)
            subst this; simp
        rw [this] at h
        exact h _ _ W (.refl _) (rep_str _ _)
      · rw [if_neg h2]
        have e : (⟨(List.replicate k.toNat (Tx a).cps).foldl (· ++ ·) #[]⟩ : Str) = Tx (List.replicate k.toNat a).flatten := by
          rw [Tx_of ⟨_⟩]
          show Tx ((List.replicate k.toNat (Tx a).cps).foldl (· ++ ·) #[]).toList = _
          rw [foldl_app, Tx_cps]; rfl
        refine ⟨?_, ?_⟩
        · rw [e, Tx_length]
          have : (List.replicate k.toNat a).flatten.length = k.toNat * a.length := by simp
          rw [this, Nat.mul_comm]
          have : sizeLine = 16777216 := rfl
          rw [hlen] at hmul; lia
        · rw [e]; exact h _ _ (W.toks _) (.refl _) (rep_str _ _)
end
end Mine
end
section
namespace Mine
section
variable {C : Cst} {n : Nat} {f : Fm} {σ : Sto}

-- join
-- count of a sign
theorem getM_scount {x : Str} : GetM C (.str x) "count" "str.count" := getM_str PySem.F.slot_str_count PySem.F.type_str_count
theorem cal_scount {l : List Nat} {c : Nat} : Cal C n (.bi "str.count") [.str (Tx l), .str (Tx [c])] (.int (l.count c : Nat)) := by
  intro A av s vf vs Q E R W tp rf rv h
  obtain rfl := rf.bi_inv
  obtain ⟨v, r, rfl, r1, r2⟩ := rv.inv
  obtain ⟨v2, r, rfl, r3, r4⟩ := r2.inv
  obtain rfl := r4.inv0
  obtain ⟨t, rfl⟩ := r1.str_inv
  obtain ⟨u, rfl⟩ := r3.str_inv
  refine SC.count ?_
  have : Txt.count (Tx l) (Tx [c]) = (l.count c : Nat) := by
    have e := count_cnt (Tx l) c
    rw [Tx_cps] at e
    have k : ∀ l : List Nat, cnt c l = (l.count c : Nat) := by
      intro l
      induction l with
      | nil => rfl
      | cons x r ih =>
        rw [cnt_cons, ih, List.count_cons]
        by_cases q : x = c
        · simp [q]; lia
        · simp [q]
    exact e.trans (k l)
  rw [this]
  exact h _ _ (W.toks _) (.refl _) (rep_int _ _)

-- a sign of a text
-- lists end to end
theorem bop_addlst {xs ys : List D} (hl : xs.length + ys.length ≤ 16777216) : Bop C n .Add (.lst xs) (.lst ys) (.lst (xs ++ ys)) := by
  intro A av s va vb Q E R W tp ra rb h
  obtain ⟨a, us, rfl, ha, ⟨k, hp⟩, hr⟩ := ra.lst_inv
  obtain ⟨b, vs, rfl, hb, ⟨k', hp'⟩, hr'⟩ := rb.lst_inv
  refine P.add_list (n := k) (n2 := k') hp hp' ?_ (by have := hr.length; have := hr'.length; simp only [List.size_toArray]; have : sizeLine = 16777216 := rfl; lia)
  have e : us.toArray ++ vs.toArray = (us ++ vs).toArray := by simp
  rw [e]
  exact h _ _ (W.push _) (Ext.push _ _) (rep_newLst W (hr.append hr'))

-- in a row of numbers
-- alike
end
end Mine
end
section
namespace Mine
mutual
noncomputable def D.py : D → PyData
  | .bool b => .bool b | .int i => .int i | .str x => .str x
  | .tup l => .tuple (D.pyL l) | .lst l => .list (D.pyL l)
  | _ => .none
noncomputable def D.pyL : List D → List PyData
  | [] => []
  | d :: r => D.py d :: D.pyL r
end
mutual
/-- plain data -/
noncomputable def D.flat : D → Bool
  | .none | .bool _ | .int _ => true
  | .str x => PyData.strOk x
  | .tup l | .lst l => D.flatL l
  | _ => false
noncomputable def D.flatL : List D → Bool
  | [] => true
  | d :: r => D.flat d && D.flatL r
end
mutual
theorem D.canLay : ∀ {d : D}, d.flat = true → d.py.canLay0 = true
  | .none, _ => by simp only [D.py, PyData.canLay0]
  | .bool _, _ => by simp only [D.py, PyData.canLay0]
  | .int _, _ => by simp only [D.py, PyData.canLay0]
  | .str x, h => by simpa only [D.py, PyData.canLay0, D.flat] using h
  | .tup l, h => by
    simp only [D.flat] at h
    simp only [D.py, PyData.canLay0]
    exact D.canLayL h
  | .lst l, h => by
    simp only [D.flat] at h
    simp only [D.py, PyData.canLay0]
    exact D.canLayL h
  | .fn _, h => by simp only [D.flat] at h; cases h
  | .bi _, h => by simp only [D.flat] at h; cases h
  | .ty _, h => by simp only [D.flat] at h; cases h
  | .dct _, h => by simp only [D.flat] at h; cases h
  | .ls0 _, h => by simp only [D.flat] at h; cases h
  | .ob _ _ _ _ _, h => by simp only [D.flat] at h; cases h
theorem D.canLayL : ∀ {l : List D}, D.flatL l = true → PyData.canLayAll0 (D.pyL l) = true
  | [], _ => by simp only [D.pyL, PyData.canLayAll0]
  | d :: r, h => by
    simp only [D.flatL, Bool.and_eq_true] at h
    simp only [D.pyL, PyData.canLayAll0, Bool.and_eq_true]
    exact ⟨D.canLay h.1, D.canLayL h.2⟩
end
section
variable {P : Params} {av : List Addr} {h : Heap}
mutual
theorem Rep.reads : ∀ {d : D} {v : Value}, d.flat = true → Rep P av h d v → ∃ as, Reads h v d.py as
  | .none, v, _, r => by rw [r.none_inv]; simp only [D.py]; exact ⟨_, .none⟩
  | .bool b, v, _, r => by rw [r.bool_inv]; simp only [D.py]; exact ⟨_, .bool b⟩
  | .int i, v, _, r => by obtain ⟨t, rfl⟩ := r.int_inv; simp only [D.py]; exact ⟨_, .int i t⟩
  | .str x, v, _, r => by obtain ⟨t, rfl⟩ := r.str_inv; simp only [D.py]; exact ⟨_, .str x t⟩
  | .tup l, v, hf, r => by
    simp only [D.flat] at hf
    simp only [D.py]
    obtain ⟨a, vs, rfl, _, ⟨o, ho, hc, n, hd⟩, hr⟩ := r.tup_inv
    obtain ⟨as, ra⟩ := RepL.reads (ds := l) hf hr
    exact ⟨_, .tuple ho hc hd ra⟩
  | .lst l, v, hf, r => by
    simp only [D.flat] at hf
    simp only [D.py]
    obtain ⟨a, vs, rfl, _, ⟨n, ho⟩, hr⟩ := r.lst_inv
    obtain ⟨as, ra⟩ := RepL.reads (ds := l) hf hr
    exact ⟨_, .list ho rfl rfl ra⟩
  | .fn _, _, h, _ => by simp only [D.flat] at h; cases h
  | .bi _, _, h, _ => by simp only [D.flat] at h; cases h
  | .ty _, _, h, _ => by simp only [D.flat] at h; cases h
  | .dct _, _, h, _ => by simp only [D.flat] at h; cases h
  | .ls0 _, _, h, _ => by simp only [D.flat] at h; cases h
  | .ob _ _ _ _ _, _, h, _ => by simp only [D.flat] at h; cases h
theorem RepL.reads : ∀ {ds : List D} {vs : List Value}, D.flatL ds = true → RepL P av h ds vs → ∃ as, ReadsAll h vs (D.pyL ds) as
  | [], _, _, r => by rw [r.inv0]; simp only [D.pyL]; exact ⟨_, .nil⟩
  | d :: ds, _, hf, r => by
    simp only [D.flatL, Bool.and_eq_true] at hf
    simp only [D.pyL]
    obtain ⟨v, us, rfl, h1, h2⟩ := r.inv
    obtain ⟨as, ra⟩ := Rep.reads hf.1 h1
    obtain ⟨bs, rb⟩ := RepL.reads hf.2 h2
    exact ⟨_, .cons ra rb⟩
end
end
theorem flat_ints : ∀ xs : List Int, D.flatL (xs.map .int) = true
  | [] => by simp only [List.map_nil, D.flatL]
  | _ :: r => by simp only [List.map_cons, D.flatL, D.flat, flat_ints r, Bool.and_self]
theorem pyL_ints : ∀ xs : List Int, PyData.depthAll (D.pyL (xs.map .int)) = 0
  | [] => by simp only [List.map_nil, D.pyL, PyData.depthAll]
  | _ :: r => by simp only [List.map_cons, D.pyL, D.py, PyData.depthAll, PyData.depth, pyL_ints r]; rfl
section
variable {C : Cst} {n : Nat} {f : Fm} {σ : Sto}
theorem cmp_eq_same {d : D} (hf : d.flat = true) (hd : d.py.depth ≤ 4 * n) : Cmp C n .Eq d d true := by
  intro A av s va vb Q E R W tp ra rb h
  obtain ⟨as, xa⟩ := ra.reads hf
  obtain ⟨bs, xb⟩ := rb.reads hf
  refine SeqAt.compareEq_reads xa xb (D.canLay hf) (D.canLay hf) (by have := R.un; simp only [cLine]; lia) ?_
  rw [SeqAt.eqv_refl _ (D.canLay hf)]
  exact h s W (.refl _)
theorem cmp_ne_same {d : D} (hf : d.flat = true) (hd : d.py.depth ≤ 4 * n) : Cmp C n .NotEq d d false := by
  intro A av s va vb Q E R W tp ra rb h
  obtain ⟨as, xa⟩ := ra.reads hf
  obtain ⟨bs, xb⟩ := rb.reads hf
  refine SeqAt.compareNe_reads xa xb (D.canLay hf) (D.canLay hf) (by have := R.un; simp only [cLine]; lia) ?_
  rw [SeqAt.eqv_refl _ (D.canLay hf)]
  exact h s W (.refl _)
theorem cmp_eq_ints {xs : List Int} : Cmp C (n + 1) .Eq (.lst (xs.map .int)) (.lst (xs.map .int)) true := cmp_eq_same (by simp only [D.flat, flat_ints]) (by
  simp only [D.py, PyData.depth, pyL_ints]; lia)

-- slices
theorem slicePick_nat (items : Array Value) (a b : Nat) : slicePick items (some (a : Int)) (some (b : Int)) none = ((items.toList.take b).drop a).toArray := by
  rw [slicePick_plain]
  simp only [Option.elim_some, clipAt_nat]
  congr 1
  have e : items.size = items.toList.length := by simp
  rw [e]
  generalize items.toList = l
  rw [List.drop_take]
  by_cases ha : a ≤ l.length
  · rw [Nat.min_eq_left ha]
    by_cases hb : b ≤ l.length
    · rw [Nat.min_eq_left hb]
    · rw [Nat.min_eq_right (by lia), List.take_of_length_le (by simp), List.take_of_length_le (by simp; lia)]
  · rw [Nat.min_eq_right (show l.length ≤ a by lia), List.drop_length, List.drop_eq_nil_of_le (show l.length ≤ a by lia)]; simp
theorem ev_slicelst {value lo hi : Expr} {p pos : Pos} {ds : List D} {a b : Nat} (h1 : Ev C n f σ value (.lst ds)) (h2 : Ev C n f σ lo (.int a)) (h3 : Ev C n f σ hi (.int b)) (hl : ds.length ≤ 16777216)
    (ht : ∀ o r, letTemporaryGo value o r = pure () := by intro _ _; rfl) : Ev C n f σ (.Subscript value (.Slice (some lo) (some hi) none p) pos) (.lst ((ds.take b).drop a)) := by
  intro A ow gs av s Q E R F h
  refine wpAny_Subscript_list_slice (h1 A ow gs av s _ E R F fun v s₁ W₁ e₁ r₁ => ?_) ht
  have F₁ := F.ext W₁ e₁
  rw [evalPart_some]
  refine h2 A ow gs av s₁ _ E R F₁ fun vl s₂ W₂ e₂ r₂ => ?_
  have F₂ := F₁.ext W₂ e₂
  rw [evalPart_some]
  refine h3 A ow gs av s₂ _ E R F₂ fun vu s₃ W₃ e₃ r₃ => ?_
  obtain ⟨t, rfl⟩ := r₂.int_inv
  obtain ⟨u, rfl⟩ := r₃.int_inv
  have r₁' := (r₁.ext W₁ e₂).ext W₂ e₃
  obtain ⟨x, vs, rfl, hx, hp, hr⟩ := r₁'.lst_inv
  refine ⟨x, _, some (a : Int), some (b : Int), rfl, hp.isList, by have := hr.length; simp only [List.size_toArray]; have : sizeLine = 16777216 := rfl; lia, .int _ _, .int _ _, ?_⟩
  have W₄ := W₃.push { cls := .type "slice", data := .fields #[.int (a : Int) t, .int (b : Int) u, .none] }
  have e : slicePick vs.toArray (some (a : Int)) (some (b : Int)) none = ((vs.take b).drop a).toArray := by
    rw [slicePick_nat]
  rw [e]
  have hr' : RepL C.P (f.mut ow ++ av) (s₃.heap.push { cls := .type "slice", data := .fields #[.int (a : Int) t, .int (b : Int) u, .none] }) ((ds.take b).drop a) ((vs.take b).drop a) :=
    ((hr.take b).drop a).mono (fun _ _ _ e => Heap.get?_push_of_some _ e) fun _ h _ => h
  have := rep_newLst W₄ hr'
  rw [show ({ s₃ with heap := s₃.heap.push { cls := .type "slice", data := .fields #[.int (a : Int) t, .int (b : Int) u, .none] } } : Shared).heap.objs.size = s₃.heap.objs.size + 1 from Heap.size_push ..] at this
  exact h _ _ (W₄.push _) (((e₁.trans e₂).trans e₃).trans ((Ext.push _ _).trans (Ext.push _ _))) this
end
end Mine
end
section
open PySem.Builtin PySem.Builtin.Str
namespace Mine
section
variable {C : Cst} {n : Nat} {f : Fm} {σ : Sto}

-- each so many-th of a row
theorem RepL.pick {P : Params} {av : List Addr} {h : Heap} {ds : List D} {vs : List Value} (r : RepL P av h ds vs) : ∀ idx : List Nat, RepL P av h (idx.filterMap (ds[·]?)) (idx.filterMap (vs[·]?))
  | [] => .nil
  | i :: idx => by
    have ih := RepL.pick r idx
    rw [List.filterMap_cons, List.filterMap_cons]
    cases hd : ds[i]? with
    | none =>
      have : vs[i]? = none := by
        rw [List.getElem?_eq_none_iff] at hd ⊢
        rw [r.length]; exact hd
      rw [this]; exact ih
    | some d =>
      obtain ⟨v, hv, rv⟩ := r.get hd
      rw [hv]; exact .cons rv ih
noncomputable def everyN (k a : Nat) (xs : List Int) : List Int := (sliceRange (sliceBounds (some (a : Int)) none (some (k : Int)) xs.length).1 (sliceBounds (some (a : Int)) none (some (k : Int)) xs.length).2.1 (sliceBounds (some (a : Int)) none (some (k : Int)) xs.length).2.2).filterMap (xs[·]?)
theorem filterMap_map_int (xs : List Int) (idx : List Nat) : idx.filterMap ((xs.map D.int)[·]?) = (idx.filterMap (xs[·]?)).map D.int := by
  induction idx with
  | nil => rfl
  | cons i idx ih =>
    rw [List.filterMap_cons, List.filterMap_cons, List.getElem?_map]
    cases xs[i]? with
    | none => exact ih
    | some x => simp only [Option.map_some, List.map_cons, ih]
theorem Rep.ls0_inv {P : Params} {av : List Addr} {h : Heap} {v : Value} {ds : List D} (r : Rep P av h (.ls0 ds) v) : ∃ a vs, v = .ref a ∧ a ∉ av ∧ h.IsList a (List.toArray vs) ∧ RepL P av h ds vs := by simpa only [Rep] using r
theorem ev_every {value lo st : Expr} {p pos : Pos} {xs : List Int} {a k : Nat} (h1 : Ev C n f σ value (.ls0 (xs.map .int))) (h2 : Ev C n f σ lo (.int a)) (h3 : Ev C n f σ st (.int k)) (hk : 0 < k) (hl : xs.length ≤ 16777216)
    (ht : ∀ o r, letTemporaryGo value o r = pure () := by intro _ _; rfl) : Ev C n f σ (.Subscript value (.Slice (some lo) none (some st) p) pos) (.lst ((everyN k a xs).map .int)) := by
  intro A ow gs av s Q E R F h
  refine wpAny_Subscript_Slice_step (T := "list") list_getitem_lookup (h1 A ow gs av s _ E R F fun v s₁ W₁ e₁ r₁ => ?_) ht
  have F₁ := F.ext W₁ e₁
  refine wpAny_Slice ?_
  rw [evalPart_some]
  refine h2 A ow gs av s₁ _ E R F₁ fun vl s₂ W₂ e₂ r₂ => ?_
  have F₂ := F₁.ext W₂ e₂
  rw [evalPart_none]
  refine wpAny_pure ?_
  rw [evalPart_some]
  refine h3 A ow gs av s₂ _ E R F₂ fun vu s₃ W₃ e₃ r₃ => ?_
  obtain ⟨t, rfl⟩ := r₂.int_inv
  obtain ⟨u, rfl⟩ := r₃.int_inv
  have r₁' := (r₁.ext W₁ e₂).ext W₂ e₃
  obtain ⟨x, vs, rfl, hx, hp, hr⟩ := r₁'.ls0_inv
  have hlen := hr.length
  rw [List.length_map] at hlen
  refine ⟨(hp.push _).typeIs, wpAny_getItem_list_slice (hp.push _) (Heap.IsSliceOf.new ..) (.int _ _) .none (.int _ _) (by simp; try lia) ?_ (by simp only [List.size_toArray]; have : sizeLine = 16777216 := rfl; lia)⟩
  have W₄ := W₃.push { cls := .type "slice", data := .fields #[.int (a : Int) t, .none, .int (k : Int) u] }
  have hr' : RepL C.P (f.mut ow ++ av) (s₃.heap.push { cls := .type "slice", data := .fields #[.int (a : Int) t, .none, .int (k : Int) u] }) ((everyN k a xs).map .int)
      ((sliceRange (sliceBounds (some (a : Int)) none (some (k : Int)) xs.length).1 (sliceBounds (some (a : Int)) none (some (k : Int)) xs.length).2.1 (sliceBounds (some (a : Int)) none (some (k : Int)) xs.length).2.2).filterMap (vs[·]?)) := by
    have := (hr.pick (sliceRange (sliceBounds (some (a : Int)) none (some (k : Int)) xs.length).1 (sliceBounds (some (a : Int)) none (some (k : Int)) xs.length).2.1 (sliceBounds (some (a : Int)) none (some (k : Int)) xs.length).2.2)).mono
      (h' := s₃.heap.push { cls := .type "slice", data := .fields #[.int (a : Int) t, .none, .int (k : Int) u] }) (fun _ _ _ e => Heap.get?_push_of_some _ e) (av' := f.mut ow ++ av) fun _ h _ => h
    rw [filterMap_map_int] at this
    exact this
  have e : slicePick (List.toArray vs) (some (a : Int)) none (some (k : Int)) = ((sliceRange (sliceBounds (some (a : Int)) none (some (k : Int)) xs.length).1 (sliceBounds (some (a : Int)) none (some (k : Int)) xs.length).2.1 (sliceBounds (some (a : Int)) none (some (k : Int)) xs.length).2.2).filterMap (vs[·]?)).toArray := by
    unfold slicePick
    simp only [List.size_toArray, hlen, List.getElem?_toArray]
  rw [e]
  exact h _ _ (W₄.push _) (((e₁.trans e₂).trans e₃).trans ((Ext.push _ _).trans (Ext.push _ _))) (rep_newLst W₄ hr')

-- the parts between a sign
noncomputable def splitL (c : Nat) : List Nat → List (List Nat)
  | [] => [[]]
  | k :: r => if k = c then [] :: splitL c r else match splitL c r with | p :: ps => (k :: p) :: ps | [] => [[k]]
end
end Mine
end
section
namespace Mine
section
variable {C : Cst} {n : Nat} {f : Fm} {σ : Sto}
noncomputable def CaughtL (f : Fm) (σ : Sto) (scope : Scope) (cl : List (Str × Addr)) : Sto → Prop
  | [] => True
  | p :: r => ((∃ d, p.2 = .val d) ∧ σ.lookup p.1 = some p.2 ∧ (f.env.kindOf p.1 = some .cell ∨ f.env.kindOf p.1 = some .free) ∧ cl.lookup p.1 = f.env.cells.lookup p.1 ∧
      ((relabel scope f.env).names.lookup p.1 = some .cell ∨ (relabel scope f.env).names.lookup p.1 = some .free)) ∧ CaughtL f σ scope cl r
theorem CaughtL.caught {scope : Scope} {cl : List (Str × Addr)} : ∀ {σc : Sto}, CaughtL f σ scope cl σc → Caught f σ scope cl σc
  | [], _ => fun _ _ h => nomatch h
  | p :: r, ⟨h1, h2⟩ => fun x ld h => by
    obtain ⟨y, l⟩ := p
    rw [List.lookup_cons] at h
    by_cases q : x = y
    · subst q
      simp only [beq_self_eq_true, Option.some.injEq] at h
      subst h
      refine ⟨h1.1, h1.2.1, fun k => ?_, h1.2.2.2.1, h1.2.2.2.2⟩
      rcases h1.2.2.1 with e | e <;> (have e' : f.env.kindOf x = _ := e; rw [k] at e'; cases e')
    · rw [beq_eq_false_iff_ne.mpr q] at h
      exact CaughtL.caught h2 x ld h
noncomputable def InCells (f : Fm) : List (Str × Addr) → Prop
  | [] => True
  | p :: r => f.env.cells.lookup p.1 = some p.2 ∧ InCells f r
theorem InCells.look : ∀ {cl : List (Str × Addr)}, InCells f cl → ∀ x c, cl.lookup x = some c → f.env.cells.lookup x = some c
  | [], _, _, _, h => nomatch h
  | (y, a) :: r, ⟨h1, h2⟩, x, c, h => by
    rw [List.lookup_cons] at h
    by_cases q : x = y
    · subst q
      simp only [beq_self_eq_true, Option.some.injEq] at h
      subst h; exact h1
    · rw [beq_eq_false_iff_ne.mpr q] at h
      exact InCells.look h2 x c h
/-- a comprehension's scope is sound -/
structure CompOk (f : Fm) (σ : Sto) (scope : Scope) (cl : List (Str × Addr)) (σc : Sto) : Prop where
  clos : closureFor scope f.env = pure cl
  nc : (scope.names.all fun x => x.2 != .cell) = true
  kind : scope.kind = .function
  names : (scope.names.all fun x => x.2 != .local || scope.names.lookup x.1 == some .local) = true
  cap : CaughtL f σ scope cl σc
  pw : cl.Pairwise fun x y => x.2 ≠ y.2
  inc : InCells f cl

theorem evo_comp' {elt target iter : Expr} {ifs : List Expr} {scope : Scope} {cl : List (Str × Addr)} {pos : Pos} {items : List D} {σc : Sto} (b : Nat → Bool) (F : Nat → D)
    (ok : CompOk f σ scope cl σc) (h1 : EvIt C n f σ iter target items) (hlen : items.length ≤ sizeLine)
    (item : ∀ Cc i d, items[i]? = some d → ∃ σ₁, Bnd C n ⟨compEnvC scope cl Cc f.env, []⟩ target d σc σ₁ ∧ Knows σ₁ σc ∧
      Tests C n ⟨compEnvC scope cl Cc f.env, []⟩ σ₁ ifs (b i) ∧ (b i = true → Ev C n ⟨compEnvC scope cl Cc f.env, []⟩ σ₁ elt (F i)))
    (hs : ∀ x, foldedSetIterable iter f.env x = pure x := by intro _; rfl) : EvO C n f σ (.ListComp elt [⟨target, iter, ifs, 0⟩] scope pos) (compRes b F items.length) :=
  evo_comp b F ok.clos h1 ok.nc ok.kind ok.names ok.cap.caught (fun x y c e1 e2 => name_of_addr ok.pw (mem_of_lookup e1) (mem_of_lookup e2)) ok.inc.look hlen
    (fun Cc i d hd => let ⟨σ₁, q1, q2, q3⟩ := item Cc i d hd; ⟨σ₁, q1, q2.look, q3⟩) hs
theorem ev_comp {elt target iter : Expr} {ifs : List Expr} {scope : Scope} {cl : List (Str × Addr)} {pos : Pos} {items : List D} {σc : Sto} (b : Nat → Bool) (F : Nat → D)
    (ok : CompOk f σ scope cl σc) (h1 : EvIt C n f σ iter target items) (hlen : items.length ≤ sizeLine)
    (item : ∀ Cc i d, items[i]? = some d → ∃ σ₁, Bnd C n ⟨compEnvC scope cl Cc f.env, []⟩ target d σc σ₁ ∧ Knows σ₁ σc ∧
      Tests C n ⟨compEnvC scope cl Cc f.env, []⟩ σ₁ ifs (b i) ∧ (b i = true → Ev C n ⟨compEnvC scope cl Cc f.env, []⟩ σ₁ elt (F i)))
    (hs : ∀ x, foldedSetIterable iter f.env x = pure x := by intro _; rfl) : Ev C n f σ (.ListComp elt [⟨target, iter, ifs, 0⟩] scope pos) (.lst (compRes b F items.length)) :=
  evo_ev (evo_comp' b F ok h1 hlen item hs)
theorem ex_assign_comp' {y : Str} {py spos : Pos} {elt target iter : Expr} {ifs : List Expr} {scope : Scope} {cl : List (Str × Addr)} {pos : Pos} {items : List D} {σc : Sto} (b : Nat → Bool) (F : Nat → D)
    (ok : CompOk f σ scope cl σc) (h1 : EvIt C n f σ iter target items) (hlen : items.length ≤ sizeLine)
    (item : ∀ Cc i d, items[i]? = some d → ∃ σ₁, Bnd C n ⟨compEnvC scope cl Cc f.env, []⟩ target d σc σ₁ ∧ Knows σ₁ σc ∧
      Tests C n ⟨compEnvC scope cl Cc f.env, []⟩ σ₁ ifs (b i) ∧ (b i = true → Ev C n ⟨compEnvC scope cl Cc f.env, []⟩ σ₁ elt (F i)))
    {r : List D} (hr : compRes b F items.length = r) (hy : Stk f y)
    (hsw : swapsWith (.ListComp elt [⟨target, iter, ifs, 0⟩] scope pos) (some (.Name y py)) spos.line f.env = pure true := by rfl)
    (hs : ∀ x, foldedSetIterable iter f.env x = pure x := by intro _; rfl) :
    Ex C n f σ (.Assign [.Name y py] (.ListComp elt [⟨target, iter, ifs, 0⟩] scope pos) spos) (.next ((y, .val (.lst r)) :: σ)) :=
  hr ▸ ex_assign_comp b F ok.clos h1 ok.nc ok.kind ok.names ok.cap.caught (fun x y c e1 e2 => name_of_addr ok.pw (mem_of_lookup e1) (mem_of_lookup e2)) ok.inc.look hlen
    (fun Cc i d hd => let ⟨σ₁, q1, q2, q3⟩ := item Cc i d hd; ⟨σ₁, q1, q2.look, q3⟩) hy hsw hs
/-- the same where the name does not take it first -/
theorem tests_nil : Tests C n f σ [] true := rfl
theorem tests_one {e : Expr} {b : Bool} (h : Tst C n f σ e b) : Tests C n f σ [e] b := ⟨b, h, by cases b <;> simp [Tests]⟩
theorem compRes_all (F : Nat → D) (k : Nat) : compRes (fun _ => true) F k = (List.range k).map F := by
  unfold compRes
  rw [List.filter_eq_self.mpr fun _ _ => rfl]
theorem range_get {α : Type} {g : Nat → α} {m i : Nat} {d : α} (h : ((List.range m).map g)[i]? = some d) : i < m ∧ d = g i := by
  have hlt := (List.getElem?_eq_some_iff.mp h).1
  have hlt' : i < m := by simpa using hlt
  exact ⟨hlt', by simpa [hlt'] using h.symm⟩
theorem ev_neg {e : Expr} {pos : Pos} {i : Int} (h1 : Ev C n f σ e (.int i)) : Ev C n f σ (.UnaryOp .USub e pos) (.int (-i)) := by
  intro A ow gs av s Q E R F h
  refine wpAny_UnaryOp (h1 A ow gs av s _ E R F fun v s₁ W₁ e₁ r₁ => ?_)
  obtain ⟨t, rfl⟩ := r₁.int_inv
  exact PyProof.Rows.neg_int (h _ _ (W₁.toks _) e₁ (rep_int _ _))
end
end Mine
end
section
namespace Mine
section
variable {C : Cst} {n : Nat} {f : Fm} {σ : Sto}

-- a text, sign by sign
-- chr, ord, len of a text, ==
theorem cal_chr {i : Int} (h0 : 0 ≤ i) (h1 : i ≤ 1114111) : Cal C n (.bi "chr") [.int i] (.str (Tx [i.toNat])) := by
  intro A av s vf vs Q E R W tp rf rv h
  obtain rfl := rf.bi_inv
  obtain ⟨v, r, rfl, r1, r2⟩ := rv.inv
  obtain rfl := r2.inv0
  obtain ⟨t, rfl⟩ := r1.int_inv
  exact chr_of_range h0 h1 (h _ _ (W.toks _) (.refl _) (rep_str (Tx [i.toNat]) _))
end
end Mine
end
section
open PySem.Builtin PySem.Builtin.Str
namespace Mine
section
variable {C : Cst} {n : Nat} {f : Fm} {σ : Sto}

/-- a subscript of any base -/
theorem sub_any {value slice : Expr} {pos : Pos} {T id : String} {A : Around} {env : Env} {s : Shared} {Q : Value → Shared → Prop} {E : Value → Shared → Prop} (hl : typeLookup (.type T) "__getitem__" = pure (some (.builtin id)))
    (h : wpAny C.M A (eval value env) (fun o s₁ => wpAny C.M A (eval slice env) (fun i s₂ => s₂.TypeIs o T ∧ wpAny C.M A (getItem o i) Q E s₂) E s₁) E s) : wpAny C.M A (eval (.Subscript value slice pos) env) Q E s :=
  Subscript_ (wpAny_mono h (fun o s₁ h₁ => wpAny_mono h₁ (fun i s₂ h₂ => by
    obtain ⟨ops, hops⟩ := subscripted_ops slice o i
    exact tail_any h₂.1 hl h₂.2 hops) fun _ _ e => e) fun _ _ e => e)
/-- x[:b] of a list -/
theorem slicePick_to (items : Array Value) (b : Nat) : slicePick items none (some (b : Int)) none = (items.toList.take b).toArray := by
  have h1 := slicePick_nat items 0 b
  rw [List.drop_zero] at h1
  rw [← h1, slicePick_plain, slicePick_plain]
  simp only [Option.elim_some, Option.elim_none, clipAt_nat]
  congr 1
theorem ev_slicelstto {value hi : Expr} {p pos : Pos} {ds : List D} {b : Nat} (h1 : Ev C n f σ value (.lst ds)) (h3 : Ev C n f σ hi (.int b)) (hl : ds.length ≤ 16777216) : Ev C n f σ (.Subscript value (.Slice none (some hi) none p) pos) (.lst (ds.take b)) := by
  intro A ow gs av s Q E R F h
  refine sub_any (T := "list") list_getitem_lookup (h1 A ow gs av s _ E R F fun v s₁ W₁ e₁ r₁ => ?_)
  have F₁ := F.ext W₁ e₁
  refine wpAny_Slice ?_
  rw [evalPart_none]
  refine wpAny_pure ?_
  rw [evalPart_some]
  refine h3 A ow gs av s₁ _ E R F₁ fun vu s₃ W₃ e₃ r₃ => ?_
  refine wpAny_pure ?_
  obtain ⟨u, rfl⟩ := r₃.int_inv
  have r₁' := r₁.ext W₁ e₃
  obtain ⟨x, vs, rfl, hx, hp, hr⟩ := r₁'.lst_inv
  have W₄ := W₃.push { cls := .type "slice", data := .fields #[.none, .int (b : Int) u, .none] }
  refine ⟨(hp.isList.push _).typeIs, wpAny_getItem_list_slice (hp.isList.push _) (Heap.IsSliceOf.new ..) .none (.int _ _) .none (by simp) ?_ (by have := hr.length; simp only [List.size_toArray]; have : sizeLine = 16777216 := rfl; lia)⟩
  have e : slicePick vs.toArray none (some (b : Int)) none = (vs.take b).toArray := by
    rw [slicePick_to]
  rw [e]
  have hr' : RepL C.P (f.mut ow ++ av) (s₃.heap.push { cls := .type "slice", data := .fields #[.none, .int (b : Int) u, .none] }) (ds.take b) (vs.take b) :=
    (hr.take b).mono (fun _ _ _ e => Heap.get?_push_of_some _ e) fun _ h _ => h
  exact h _ _ (W₄.push _) ((e₁.trans e₃).trans ((Ext.push _ _).trans (Ext.push _ _))) (rep_newLst W₄ hr')
end
end Mine
end
section
namespace Mine
-- dicts of texts
theorem dEs_of {prog : Program} {w : World} : ∀ {es : List DictEntry} {kvs : List (Str × Value)} {l : List (Str × Str)}, (∀ e ∈ es, ∃ k, (PySem.strKind prog w).is k e.key = true ∧ e.hash = (PySem.strKind prog w).hash k) →
    Pairs (PySem.strKind prog w) es kvs → PyProof.V.FlatPairs PyData.str kvs (l.map fun p => (PyData.str p.1, PyData.str p.2)) → DEs w.params es l
  | _, _, [], _, .nil, _ => rfl
  | _, _, _ :: _, _, .nil, hf => by cases hf
  | _, _, [], _, .cons _ _ _, hf => by cases hf
  | e :: es, _, (x, y) :: l, hk, .cons h1 h2 hp, hf => by
    rw [List.map_cons] at hf
    cases hf with
    | cons fv fr =>
      rename_i kvs v
      obtain ⟨k, k1, k2⟩ := hk e (List.mem_cons_self ..)
      have e1 := Value.isStrOf_shape h1
      obtain ⟨t, e1⟩ := e1
      obtain ⟨u, e2⟩ := fv.str_inv
      obtain rfl : k = x := Value.isStrOf_inj _ _ _ k1 h1
      exact ⟨k, y, l, rfl, ⟨t, u, e1, h2.trans e2⟩, k2, dEs_of (fun e' he' => hk e' (List.mem_cons_of_mem _ he')) hp fr⟩
theorem dEs_keys {P : Params} {prog : Program} {w : World} (hw : w.params = P) {es : List DictEntry} : ∀ {l : List (Str × Str)}, DEs P es l → ∀ e ∈ es, ∃ k, (PySem.strKind prog w).is k e.key = true ∧ e.hash = (PySem.strKind prog w).hash k := by
  induction es with
  | nil => intro l h e' he'; cases he'
  | cons e es ih =>
    intro l h e' he'
    obtain ⟨x, y, q, rfl, ⟨t, u, h1, h2⟩, h3, h4⟩ := h
    rcases List.mem_cons.mp he' with rfl | he'
    · refine ⟨x, ?_, by rw [h3, ← hw]; rfl⟩
      rw [h1]; show (x == x) = true; simp
    · exact ih h4 e' he'
theorem dEs_find {P : Params} : ∀ {es : List DictEntry} {l : List (Str × Str)}, DEs P es l → ∀ x, match l.lookup x with
    | some y => ∃ u, (es.find? fun e => Value.isStrOf x e.key).map (·.val) = some (.str y u)
    | none => (es.find? fun e => Value.isStrOf x e.key).map (·.val) = none
  | [], _, h, x => by cases h; rfl
  | e :: es, _, ⟨z, y, q, rfl, ⟨t, u, h1, h2⟩, h3, h4⟩, x => by
    have hs : Value.isStrOf x e.key = (x == z) := by
      rw [h1]; show (z == x) = (x == z)
      by_cases q : x = z
      · subst q; rfl
      · rw [beq_eq_false_iff_ne.mpr q, beq_eq_false_iff_ne.mpr (fun e => q e.symm)]
    rw [List.lookup_cons, List.find?_cons, hs]
    cases (x == z) with
    | true => exact ⟨u, by simp [h2]⟩
    | false => exact dEs_find h4 x
section
variable {C : Cst} {n : Nat} {f : Fm} {σ : Sto}
theorem Rep.dct_inv {P : Params} {av : List Addr} {h : Heap} {v : Value} {l : List (Str × Str)} (r : Rep P av h (.dct l) v) : ∃ a, v = .ref a ∧ a ∉ av ∧ DctAt P h a l := by simpa only [Rep] using r
theorem DctAt.map {prog : Program} {w : World} {h : Heap} {a : Addr} {l : List (Str × Str)} (x : DctAt w.params h a l) : ∃ g, h.MapOf (PySem.strKind prog w) a g ∧ ∀ k, match l.lookup k with
    | some y => ∃ u, g k = some (.str y u)
    | none => g k = none := by
  obtain ⟨_, es, n, e, hd⟩ := x
  refine ⟨fun k => PySem.findBy (PySem.strKind prog w).is es k, ⟨_, es, n, e, ⟨rfl, rfl, rfl⟩, rfl, fun e' he' => dEs_keys rfl hd e' (by simpa using he'), fun _ => rfl⟩, fun k => ?_⟩
  have := dEs_find hd k
  have e2 : PySem.findBy (PySem.strKind prog w).is es k = (es.toList.find? fun e => Value.isStrOf k e.key).map (·.val) := by
    show (es.find? _).map _ = _
    obtain ⟨l'⟩ := es
    simp; rfl
  cases hl : l.lookup k with
  | some y => rw [hl] at this; obtain ⟨u, hu⟩ := this; exact ⟨u, e2.trans hu⟩
  | none => rw [hl] at this; exact e2.trans this
theorem sub_dct {l : List (Str × Str)} {x y : Str} (hl : l.lookup x = some y) : Sub C n (.dct l) (.str x) (.str y) := by
  intro A av s vo vi value slice Q E R W tp ro ri h
  obtain ⟨a, rfl, ha, hx⟩ := ro.dct_inv
  obtain ⟨t, rfl⟩ := ri.str_inv
  obtain ⟨g, hm, hg⟩ := hx.map (prog := C.prog)
  have := hg x
  rw [hl] at this
  obtain ⟨u, hu⟩ := this
  obtain ⟨ops, hops⟩ := subscripted_ops slice (.ref a) (.str x t)
  exact tail_any hm.typeIs slot_dict_getitem.lookup (wpAny_getItem_of (k := x) (knd := PySem.strKind C.prog C.w) (by show (x == x) = true; simp) hm hu (h _ _ (W.toks _) (.refl _) (rep_str _ _))) hops
theorem Wd.two {av : List Addr} {s : Shared} (W : Wd C av s) : 1 < s.heap.objs.size := by
  obtain ⟨o, es, ep, e, _⟩ := C.g
  exact Nat.lt_of_lt_of_le (by decide : 1 < 3 + 1) (Heap.lt_size (W.sub _ _ e))
theorem ev_dict {keys : List (Option Expr)} {values : List Expr} {pos : Pos} {l : List (Str × Str)} (hD : litPairs keys values = some (l.map fun p => (PyData.str p.1, PyData.str p.2)))
    (hn : (l.map (·.1)).Nodup) (hall : keys.all (·.isSome) = true) (hl : keys.length = values.length) (h0 : keys ≠ []) (hlen : keys.length ≤ 15) : Ev C n f σ (.Dict keys values pos) (.dct l) := by
  intro A ow gs av s Q E R F h
  have hs : ∀ l : List (Str × Str), strKeyed (l.map fun p => (PyData.str p.1, PyData.str p.2)) = true ∧ strKeysOf (l.map fun p => (PyData.str p.1, PyData.str p.2)) = l.map (·.1) := by
    intro l
    induction l with
    | nil => exact ⟨rfl, rfl⟩
    | cons p l ih => exact ⟨ih.1, by rw [List.map_cons, List.map_cons, ← ih.2]; rfl⟩
  refine Dict_lits_str hD (hs l).1 (by rw [(hs l).2]; exact hn) hall hl h0 hlen fun a o h₁ tk ha ho hT hk => ?_
  obtain ⟨kvs, ⟨es, ep, hx, hdat, hko, hp, _⟩, hf⟩ := hT
  have W₁ : Wd C (f.mut ow ++ av) { s with heap := h₁, toks := tk } := F.wd.grow rfl rfl hk
  refine h _ _ W₁ (.of_keep hk) ?_
  simp only [Rep]
  refine ⟨a, rfl, fun m => ?_, ?_, es, ep, ?_, dEs_of (fun e he => hko e (by simpa using he)) hp hf⟩
  · obtain ⟨o', e'⟩ := F.wd.live a m
    exact Nat.lt_irrefl _ (Nat.lt_of_lt_of_le (Heap.lt_size e') ha)
  · have := F.wd.two
    show (a == (1 : Nat)) = false
    exact beq_eq_false_iff_ne.mpr (by lia)
  · obtain ⟨c, d, dt, sl⟩ := o
    obtain ⟨x1, x2, x3⟩ := hx
    dsimp only at x1 x2 x3 hdat
    subst x1 x2 x3 hdat
    exact ho
end
end Mine
end
section
namespace Mine
section
variable {C : Cst} {n : Nat} {f : Fm} {σ : Sto}

/-- a list that no datum looks at, set aside too -/
theorem Wd.add_list {av : List Addr} {s : Shared} {a : Addr} {its : Array Value} (W : Wd C av s) (hp : s.heap.PlainList a its) (aG : C.G.get? a = none) : Wd C (a :: av) s := by
  obtain ⟨k, hpl⟩ := hp
  refine ⟨W.sub, fun b hb => ?_, fun b hb => ?_, fun t ht => ⟨List.mem_cons_of_mem _ (W.tabs t ht).1, ?_⟩, W.gens, W.os⟩
  · rcases List.mem_cons.mp hb with rfl | hb
    · exact aG
    · exact W.out b hb
  · rcases List.mem_cons.mp hb with rfl | hb
    · exact ⟨_, hpl⟩
    · exact W.live b hb
  · obtain ⟨ps, q, r⟩ := (W.tabs t ht).2
    refine ⟨ps, q, r.imp id fun ⟨c', e1, e2, e3⟩ => ⟨c', e1, fun m => ?_, e3⟩⟩
    rcases List.mem_cons.mp m with h | h
    · obtain ⟨c, oc, vs', tq, q1, q2, q3, _⟩ := e3
      cases q1
      rw [h, hpl] at q2; cases q2; cases q3
    · exact e2 h
theorem look_ne {x y : Str} {ld : LD} : ∀ {l : Sto}, (l.filter fun p => p.1 != x).lookup y = some ld → y ≠ x ∧ l.lookup y = some ld
  | [], h => by cases h
  | p :: l, h => by
    rw [List.filter_cons] at h
    by_cases q : p.1 = x
    · rw [if_neg (by simp [q])] at h
      obtain ⟨h1, h2⟩ := look_ne h
      refine ⟨h1, ?_⟩
      obtain ⟨z, u⟩ := p
      rw [List.lookup_cons, beq_eq_false_iff_ne.mpr (fun e => h1 (e.trans q))]; exact h2
    · rw [if_pos (by simpa using q)] at h
      obtain ⟨z, u⟩ := p
      rw [List.lookup_cons] at h ⊢
      by_cases q2 : y = z
      · subst q2; exact ⟨q, by simpa using h⟩
      · rw [beq_eq_false_iff_ne.mpr q2] at h ⊢; exact look_ne h
/-- a list set aside becomes the frame's own -/
theorem FS.take {ow : List (Str × Addr)} {gs : List (D × Value)} {av : List Addr} {s : Shared} {x : Str} {a : Addr} (F : FS C f σ ow gs (a :: av) s) (ha : a ∉ av) (tp : ∀ b ∈ C.TP, b ∈ av) (hc : ∀ y c, f.env.cells.lookup y = some c → c ≠ a) :
    FS C f (σ.filter fun p => p.1 != x) ((x, a) :: ow) gs av s := by
  have mem : ∀ b, b ∈ f.mut ((x, a) :: ow) ++ av ↔ b ∈ f.mut ow ++ (a :: av) := fun b => by simp [Fm.mut]; grind
  have am : a ∉ f.mut ow := fun m => F.dj a m (List.mem_cons_self ..)
  obtain ⟨m, hm, hv⟩ := F.vars
  refine ⟨F.ek, tp, F.wd.less (fun b hb => (mem b).mp hb) fun t ht => List.mem_append_right _ (tp _ (List.mem_map_of_mem ht)), ?_, fun b hb h => ?_, F.ci, F.cl, ⟨m, hm, fun y ld h => ?_⟩, fun p hp => (F.gh p hp).mono (fun _ _ _ e => e) fun b hb _ => (mem b).mp hb⟩
  · have nd := F.nd
    simp only [Fm.mut, List.map_cons, List.nodup_cons, List.nodup_append, List.mem_append, List.mem_cons] at nd am ⊢
    grind
  · have h2 : b ∈ f.mut ow ∨ b = a := by
      simp only [Fm.mut, List.map_cons, List.mem_cons, List.mem_append] at hb ⊢
      grind
    rcases h2 with h2 | h2
    · exact F.dj b h2 (List.mem_cons_of_mem _ h)
    · exact ha (h2 ▸ h)
  · obtain ⟨hyx, hl⟩ := look_ne h
    obtain ⟨v, h1, h2⟩ := hv y ld hl
    refine ⟨v, h1, ?_⟩
    cases ld with
    | val d => exact Rep.mono (fun _ _ _ e => e) (fun b hb _ => (mem b).mp hb) h2
    | own es =>
      obtain ⟨b, vs, q1, q2, q3, q4⟩ := h2
      refine ⟨b, vs, q1, ?_, q3, q4.mono (fun _ _ _ e => e) fun b hb _ => (mem b).mp hb⟩
      rw [List.lookup_cons, beq_eq_false_iff_ne.mpr hyx]; exact q2

/-- y = [comprehension] where y's list is the frame's own -/
theorem ex_assign_comp_own {y : Str} {py spos : Pos} {elt target iter : Expr} {ifs : List Expr} {scope : Scope} {cl : List (Str × Addr)} {pos : Pos} {items : List D} {σc : Sto} (b : Nat → Bool) (F : Nat → D)
    (ok : CompOk f σ scope cl σc) (h1 : EvIt C n f σ iter target items) (hlen : items.length ≤ sizeLine)
    (item : ∀ Cc i d, items[i]? = some d → ∃ σ₁, Bnd C n ⟨compEnvC scope cl Cc f.env, []⟩ target d σc σ₁ ∧ Knows σ₁ σc ∧
      Tests C n ⟨compEnvC scope cl Cc f.env, []⟩ σ₁ ifs (b i) ∧ (b i = true → Ev C n ⟨compEnvC scope cl Cc f.env, []⟩ σ₁ elt (F i)))
    {r : List D} (hr : compRes b F items.length = r) (hy : Stk f y)
    (hsw : swapsWith (.ListComp elt [⟨target, iter, ifs, 0⟩] scope pos) (some (.Name y py)) spos.line f.env = pure true := by rfl)
    (hs : ∀ x, foldedSetIterable iter f.env x = pure x := by intro _; rfl) :
    Ex C n f σ (.Assign [.Name y py] (.ListComp elt [⟨target, iter, ifs, 0⟩] scope pos) spos) (.next ((y, .own r) :: σ)) := by
  subst hr
  intro A ow gs av g s Q E R Fo k hg h
  have hnm : ∀ x ∈ scope.names, x.2 = .local → scope.names.lookup x.1 = some .local := fun x hx hl => by
    have := List.all_eq_true.mp ok.names x hx
    rw [hl] at this; simpa using this
  have hci : ∀ x y c, cl.lookup x = some c → cl.lookup y = some c → x = y := fun x y c h1 h2 => name_of_addr ok.pw (mem_of_lookup h1) (mem_of_lookup h2)
  rw [exec_Assign_Name_used _ _ _ _ hsw]
  refine wpAny_bind (wpAny_standAt (wpAny_bind ?_))
  show wpAny _ A (do let _ ← comprehension (.ListComp elt [⟨target, iter, ifs, 0⟩] scope pos) scope f.env _ (newList []) false (eval iter f.env) (some (assign (.Name y py) f.env))) _ _ s
  refine wpAny_bind (wpAny_mono (wpAny_comprehension_free (use := some (assign (.Name y py) f.env)) (Q := fun _ s' => Q .next s') rfl hs ok.clos ok.kind hnm
    (comp_core b F h1 ok.nc ok.kind ok.cap.caught hci (InCells.look ok.inc) hlen (fun Cc i d hd => let ⟨σ₁, a1, a2, a3⟩ := item Cc i d hd; ⟨σ₁, a1, a2.look, a3⟩) R Fo (RR := fun acc C' => compPost C.M A E (some (assign (.Name y py) f.env)) (fun _ s' => Q .next s') acc C') fun D Cc s' vs m W' e' gC gD hDC hp hr hn => ?_)) (fun _ s' hq => wpAny_pure (wpAny_pure hq)) fun _ _ e => e)
  have CcA : Cc ∉ f.mut ow ++ av := fun m => by obtain ⟨o, e⟩ := Fo.wd.live Cc m; rw [gC] at e; cases e
  have DcA : D ∉ f.mut ow ++ av := fun m => by obtain ⟨o, e⟩ := Fo.wd.live D m; rw [gD] at e; cases e
  have CT : Cc ∉ C.TP := fun m => CcA (Fo.tp' Cc m)
  have DG : C.G.get? D = none := by
    cases q : C.G.get? D with
    | none => rfl
    | some o => rw [Fo.wd.sub _ _ q] at gD; cases gD
  have F₁ : FS C f σ ow ([] ++ gs) ([D, Cc] ++ av) s' := Fo.into (wr := [D, Cc]) (gl := []) (W'.add_list hp DG) e' (fun a ha => by
    rcases List.mem_cons.mp ha with rfl | ha
    · exact gD
    · rw [List.mem_singleton.mp ha]; exact gC) fun _ h => nomatch h
  have F₂ : FS C f (σ.filter fun p => p.1 != y) ((y, D) :: ow) ([] ++ gs) ([Cc] ++ av) s' := FS.take (x := y) F₁ (fun m => by
    rcases List.mem_cons.mp m with e | m
    · exact hDC e
    · exact DcA (List.mem_append_right _ m)) (fun b hb => List.mem_cons_of_mem _ (Fo.tp b hb)) fun x c hl e => by
      obtain ⟨v, o, e2, _⟩ := Fo.cl x c hl
      rw [e, gD] at e2; cases e2
  have mem : ∀ a, a ∈ f.mut ((y, D) :: ow) ++ ([Cc] ++ av) ↔ a ∈ Cc :: D :: (f.mut ow ++ av) := fun a => by simp [Fm.mut]; grind
  show wpAny _ A (assign (.Name y py) f.env (.ref D)) _ _ _
  refine wpAny_assign_Name (st_any (d := .own (compRes b F items.length)) F₂ hy ⟨D, vs, rfl, by simp [List.lookup_cons], hp, hr.mono (fun _ _ _ e => e) fun a ha _ => (mem a).mp ha⟩ fun h' tk a ha F₃ hsb => ?_)
  have haD : a ∈ f.mut ow ∨ a = D := by
    simp only [Fm.mut, List.map_cons, List.mem_cons, List.mem_append] at ha ⊢
    grind
  have aC : a ≠ Cc := fun q => by
    rcases haD with m | m
    · exact CcA (q ▸ List.mem_append_left _ m)
    · exact hDC (m.symm.trans q)
  refine ⟨m, hn.at' fun o e => (hsb.2 Cc (Ne.symm aC)).trans e, fun h₂ hs₂ => ?_⟩
  have k₁ : Kp C g s'.heap := k.ext e'
  have hg' : ∀ b ∈ f.mut ((y, D) :: ow), g b = none := fun b hb => by
    have : b ∈ f.mut ow ∨ b = D := by
      simp only [Fm.mut, List.map_cons, List.mem_cons, List.mem_append] at hb ⊢
      grind
    rcases this with m | m
    · exact hg b m
    · exact m ▸ Fo.g_new k gD
  have k₂ := F₂.kp_same ha k₁ hg' hsb
  have hcw : ∀ x c, f.env.cells.lookup x = some c → c ∉ [Cc] := fun x c hl m => by
    obtain ⟨v, o, e, _⟩ := Fo.cl x c hl
    rw [List.mem_singleton.mp m, gC] at e; cases e
  have F₄ := F₃.outof (wr := [Cc]) (gl := []) (s' := { s' with heap := h₂, toks := tk }) Fo.tp (fun a ha => by
    rw [List.mem_singleton.mp ha]; exact ⟨CT, fun m => CcA (List.mem_append_right _ m)⟩) hcw rfl rfl fun b o hb e => (hs₂.2 b fun q => hb (List.mem_singleton.mpr q)).trans e
  refine h _ _ ⟨rfl, (y, D) :: ow, F₄.weaken fun z ld e => by rw [← look_filter]; exact e, fun b o hb q => (hs₂.2 b fun e => by
      rw [e, Fo.g_new k gC] at q; cases q).trans (k₂ b o hb q), hg'⟩

/-- x.extend(e) on the frame's own list -/
theorem ex_extend {x : Str} {xp apos cpos pos : Pos} {e : Expr} {pl : Sem Bool} {ds es : List D} (hx : σ.lookup x = some (.own ds)) (h1 : Ev C n f σ e (.lst es)) (hl : ds.length + es.length ≤ 16777216)
    (hd : (x == ("__debug__" : Str)) = false := by decide) (hc' : (x == ("__classdict__" : Str)) = false := by decide)
    (he : eval (.Call (.Attribute (.Name x xp) "extend" apos) [e] [] cpos) f.env = (do
      let ov ← eval (.Name x xp) f.env
      standAt apos.atName
      let (fv, first) ← holding [ov] (getMethod ov "extend" pl)
      callWith cpos fv first (backTo cpos (starEach [e] f.env)) []) := by rfl)
    (hp : (backTo cpos (starEach [e] f.env)).any (·.1) = false := by rfl) (hs : starEach [e] f.env = (false, eval e f.env) :: starEach [] f.env := by rfl)
    (hi : interactive f.env = false := by rfl) (hsw : swapsWith (.Call (.Attribute (.Name x xp) "extend" apos) [e] [] cpos) none pos.line f.env = pure false := by rfl) :
    Ex C n f σ (.Expr (.Call (.Attribute (.Name x xp) "extend" apos) [e] [] cpos) pos) (.next ((x, .own (ds ++ es)) :: σ)) := by
  intro A ow gs av g s Q E R F k hg h
  obtain ⟨a, vs, m, hm, hat, hla, ham, hpl, hr⟩ := F.own hx
  refine wpAny_Expr (MethodCall_ (pl := pl) (atVar_name F hm hat ?_ hd hc') he) hi hsw
  obtain ⟨k', hpl'⟩ := hpl
  refine getMethod_builtin ⟨_, hpl', rfl⟩ PySem.F.plainAttrs_list PySem.F.slot_list_extend PySem.F.type_list_extend (fun b e => by cases e; exact ⟨_, hpl', rfl⟩) ?_
  refine callWith_of (P := C.K.In) (by show ((backTo cpos (starEach [e] f.env)).any (·.1) || false) = false; rw [hp]; rfl) (fun hh X => ⟨.machine, .inr (.inl rfl), Looks.of_pure rfl⟩) (evalArgs_evl hp ((evl_cons h1 evl_nil hs) A ow gs av s _ E R F fun us s₂ W₂ e₂ r₂ => ⟨W₂.KIn, ?_⟩))
  have F₂ := F.ext W₂ e₂
  obtain ⟨v, us', rfl, rv, r3⟩ := r₂.inv
  obtain rfl := r3.inv0
  obtain ⟨a₂, vs₂, m₂, hm₂, hat₂, hla₂, ham₂, ⟨n₂, hpl₂⟩, hr₂⟩ := F₂.own hx
  rw [hla] at hla₂; cases hla₂
  obtain ⟨b, ws, rfl, hb, ⟨n₃, hpl₃⟩, hr₃⟩ := rv.lst_inv
  have hsz : (List.toArray vs₂).size + (List.toArray ws).size ≤ sizeLine := by
    have h1 := hr₂.length
    have h2 := hr₃.length
    simp only [List.size_toArray]
    have : sizeLine = 16777216 := rfl
    lia
  refine call_meets PySem.F.slot_list_extend ⟨_, hpl₂, rfl⟩ PySem.F.entry_list_extend (PySem.F.args_list_extend_2 _ _) (PySem.AutoSeq1.list_extend_list_list_0 a (List.toArray vs₂) n₂ b (List.toArray ws) n₃ (extend_door hsz) (Nat.le_trans (Nat.le_add_right _ _) hsz) (Nat.le_succ_of_le hsz)) ⟨hpl₂, hpl₃, ?_⟩
  have hsb : Heap.SameBut a s₂.heap (s₂.heap.update a (Obj.mapSeq fun x => x ++ List.toArray ws)) := Heap.SameBut.update ..
  have hp' : (s₂.heap.update a (Obj.mapSeq fun x => x ++ List.toArray ws)).PlainList a (List.toArray (vs₂ ++ ws)) := by
    refine ⟨(if (List.toArray vs₂ ++ List.toArray ws).size == (List.toArray vs₂).size then n₂ else n₂ + 1), ?_⟩
    rw [Heap.get?_update_self _ hpl₂ (by rw [mapSeq_app]; rfl), mapSeq_app, show (List.toArray vs₂ ++ List.toArray ws) = List.toArray (vs₂ ++ ws) by simp]
  exact h _ _ ⟨rfl, ow, F₂.turn (tk := s₂.toks) hx hla ⟨n₂, hpl₂⟩ hsb hp' (hr₂.append hr₃), F₂.kp_same ham₂ (k.ext e₂) hg hsb, hg⟩
end
end Mine
end
section
namespace Mine
theorem RepL.of_get' {P : Params} {av : List Addr} {h : Heap} : ∀ {ds : List D} {vs : List Value}, vs.length = ds.length → (∀ (i : Nat) (d : D) (v : Value), ds[i]? = some d → vs[i]? = some v → Rep P av h d v) → RepL P av h ds vs
  | [], vs, hl, _ => by rw [List.length_eq_zero_iff.mp hl]; exact .nil
  | d :: ds, vs, hl, x => by
    obtain ⟨v, vs, rfl, hl'⟩ := len_succ hl
    exact .cons (x 0 d v rfl rfl) (RepL.of_get' hl' fun i d v e1 e2 => x (i + 1) d v (by simpa using e1) (by simpa using e2))
section
variable {C : Cst} {n : Nat} {f : Fm} {σ : Sto}

/-- xs[i] from the end -/
theorem sub_listneg {ds : List D} {i : Int} {d : D} (h0 : i < 0) (h1 : -(ds.length : Int) ≤ i) (hl : ds.length ≤ 16777216) (hd : ds[(i + ds.length).toNat]? = some d) : Sub C n (.lst ds) (.int i) d := by
  intro A av s vo vi value slice Q E R W tp ro ri h
  obtain ⟨a, vs, rfl, ha, hp, hr⟩ := ro.lst_inv
  obtain ⟨t, rfl⟩ := ri.int_inv
  obtain ⟨v, hv, rv⟩ := hr.get hd
  have hlen := hr.length
  obtain ⟨ops, hops⟩ := subscripted_ops slice (.ref a) (.int i t)
  exact tail_any hp.isList.typeIs slot_list_getitem.lookup (wpAny_getItem_list_neg hp.isList h0 (by simp only [List.size_toArray]; lia) (by lia) (by simp only [List.size_toArray]; rw [hlen]; simpa using hv) (h v s W (.refl _) rv)) hops

-- is None
theorem cmp_is_none : Cmp C n .Is .none .none true := by
  intro A av s va vb Q E R W tp ra rb h
  obtain rfl := ra.none_inv; obtain rfl := rb.none_inv
  exact wpAny_is_self rfl (h s W (.refl _))
theorem cmp_is_lst {ds : List D} : Cmp C n .Is (.lst ds) .none false := by
  intro A av s va vb Q E R W tp ra rb h
  obtain ⟨a, vs, rfl, _⟩ := ra.lst_inv
  obtain rfl := rb.none_inv
  exact wpAny_is_other rfl (by intro e; cases e) (h s W (.refl _))

/-- x += e of texts -/
theorem ex_aug_str {x : Str} {p pos : Pos} {value : Expr} {a b : List Nat} (hx : f.env.kindOf x = some .local) (hl : σ.lookup x = some (.val (.str (Tx a)))) (h1 : Ev C n f σ value (.str (Tx b))) (hs : a.length + b.length ≤ 16777216) :
    Ex C n f σ (.AugAssign (.Name x p) .Add value pos) (.next ((x, .val (.str (Tx (a ++ b)))) :: σ)) :=
  ex_aug hx hl h1 fun A av s va vb Q E R W tp ra rb h => by
    obtain ⟨t, rfl⟩ := ra.str_inv; obtain ⟨u, rfl⟩ := rb.str_inv
    refine PySem.P.iadd_str ?_
    rw [Tx_length, Tx_length]
    by_cases h1 : a.length = 0
    · have : a = [] := List.length_eq_zero_iff.mp h1
      subst this
      exact h _ _ W (.refl _) (rep_str _ _)
    · rw [if_neg (by simpa using h1)]
      by_cases h2 : b.length = 0
      · have : b = [] := List.length_eq_zero_iff.mp h2
        subst this
        rw [if_pos (by simp), List.append_nil] at *
        exact h _ _ W (.refl _) (rep_str _ _)
      · rw [if_neg (by simpa using h2), Tx_append]
        exact ⟨by rw [Tx_length, List.length_append]; have : sizeLine = 16777216 := rfl; lia, h _ _ (W.toks _) (.refl _) (rep_str _ _)⟩

-- list(d)
theorem dEs_pairs {P : Params} {prog : Program} {w : World} : ∀ {es : List DictEntry} {l : List (Str × Str)}, DEs P es l → ∃ kvs : List (Str × Value), Pairs (PySem.strKind prog w) es kvs ∧ kvs.map (·.1) = l.map (·.1)
  | [], _, h => by cases h; exact ⟨[], .nil, rfl⟩
  | e :: es, _, ⟨x, y, q, rfl, ⟨t, u, h1, h2⟩, h3, h4⟩ => by
    obtain ⟨kvs, p1, p2⟩ := dEs_pairs (prog := prog) (w := w) h4
    refine ⟨(x, .str y u) :: kvs, .cons ?_ h2 p1, by simp [p2]⟩
    show Value.isStrOf x e.key = true
    rw [h1]; show (x == x) = true; simp
theorem cal_list_dct {l : List (Str × Str)} (hn : (l.map (·.1)).Nodup) (hl : l.length ≤ 16777216) : Cal C n (.ty "list") [.dct l] (.lst (l.map fun p => .str p.1)) := by
  intro A av s vf vs Q E R W tp rf rv h
  obtain rfl := rf.ty_inv
  obtain ⟨v, r, rfl, r1, r2⟩ := rv.inv
  obtain rfl := r2.inv0
  obtain ⟨a, rfl, ha, lo, es, ep, he, hd⟩ := r1.dct_inv
  obtain ⟨kvs, p1, p2⟩ := dEs_pairs (prog := C.prog) (w := C.w) hd
  have hlen : kvs.length = l.length := by have := congrArg List.length p2; simpa using this
  have hat : s.heap.DictAt (PySem.strKind C.prog C.w) a kvs ep := ⟨_, es, he, ⟨rfl, rfl, rfl⟩, rfl, fun e' he' => dEs_keys rfl hd e' (by simpa using he'), p1, by rw [p2]; exact hn⟩
  refine kdl_call (kdl_dict (knd := PySem.strKind C.prog C.w) (kvs := kvs) (ep := ep) lo) R.hd hat (by rw [hlen]; exact hl) fun h' tk acc' c' hk hD hacc => ?_
  have W' : Wd C av { s with heap := h', toks := tk } := W.grow rfl rfl hk
  refine h _ _ W' (.of_keep hk) ?_
  simp only [Rep]
  refine ⟨_, acc'.toList, rfl, fun m => ?_, ⟨c', by rw [Array.toArray_toList]; exact hD⟩, RepL.of_get' ?_ fun i d v hi hv => ?_⟩
  · obtain ⟨o, e⟩ := W.live _ m
    exact Nat.lt_irrefl _ (Heap.lt_size e)
  · rw [Array.length_toList, hacc.1, List.length_map, hlen]
  · obtain ⟨k, x, hx, hkey⟩ := hacc.2 i v (by rw [← Array.getElem?_toList]; exact hv)
    obtain ⟨t, rfl⟩ := Value.isStrOf_shape hkey
    rw [List.getElem?_map, Option.map_eq_some_iff] at hi
    obtain ⟨p, hp, rfl⟩ := hi
    have e1 : (kvs.map (·.1))[i]? = some k := by rw [List.getElem?_map, hx]; rfl
    rw [p2, List.getElem?_map, hp] at e1
    have e1 : p.1 = k := by simpa using e1
    rw [e1]; exact rep_str _ _
end
end Mine
end
section
namespace Mine
/-- of the first i texts, one is k -/
noncomputable def metIn (val : Nat → Str) (i : Nat) (k : Str) : Bool := (List.range i).any fun j => val j == k
theorem metIn_succ (val : Nat → Str) (i : Nat) (k : Str) : metIn val (i + 1) k = (metIn val i k || decide (k = val i)) := by
  unfold metIn
  rw [List.range_succ, List.any_append]
  simp only [List.any_cons, List.any_nil, Bool.or_false]
  congr 1
  by_cases h : k = val i
  · simp [h]
  · rw [decide_eq_false h]; exact beq_eq_false_iff_ne.mpr fun e => h e.symm
theorem RepL.getv' {P : Params} {av : List Addr} {h : Heap} : ∀ {ds : List D} {vs : List Value}, RepL P av h ds vs → ∀ {i : Nat} {v : Value}, vs[i]? = some v → ∃ d, ds[i]? = some d ∧ Rep P av h d v
  | [], _, x, _, _, e => by rw [x.inv0] at e; simp at e
  | _ :: _, _, x, 0, d, e => by obtain ⟨v, r, rfl, h1, h2⟩ := x.inv; simp at e; subst e; exact ⟨_, rfl, h1⟩
  | _ :: _, _, x, i + 1, d, e => by obtain ⟨v, r, rfl, h1, h2⟩ := x.inv; simp at e; simpa using RepL.getv' h2 e
section
variable {prog : Program} {w : World} {A : Around} {E : Value → Shared → Prop} {s : Shared}

/-- the loop that fills the set, no text met twice -/
theorem set_loop {R : Result → Shared → Prop} {I : Addr} {fp wr : List Addr} {G : Array GenState → Array GenState → Prop} {n : Nat} {P : Nat → Value → Prop} {St : Nat → Shared → Prop} (W : WalksS prog w A.in1 I fp wr G n P St) (S : Addr) (hSf : S ∉ fp)
    (val : Nat → Str) (hval : ∀ i v, P i v → ∃ t, v = .str (val i) t) (hnd : ∀ i, i < n → metIn val i (val i) = false) (hb : n + 1 < scanBound) :
    ∀ (k i : Nat) (s : Shared), n - i = k → i ≤ n → St i s → s.heap.SetOf (PySem.strKind prog w) S (metIn val i) i →
      (∀ s', Moved (S :: wr) G s s' → s'.heap.SetOf (PySem.strKind prog w) S (metIn val n) n → R (.ok (.ret .none)) s') →
      codeAny (model prog w) A (.builtin "set.update.loop" ⟨[.ref S, .ref I], []⟩) R s := by
  have hSw : S ∉ wr := fun h => hSf (W.sub _ h)
  have hsub : ∀ b ∈ wr, b ∈ S :: wr := fun b hb => List.mem_cons_of_mem _ hb
  intro k
  induction k with
  | zero =>
    intro i s hk hi hst hS hR
    obtain rfl : i = n := by lia
    refine codeAny_builtin F.entry_set_update_loop ?_
    rw [Around.under_plainId F.plain_set_update_loop _]
    show wpAny _ A.in1 (pyNext (.ref I) >>= _) _ _ s
    refine wpAny_bind (W.done s _ _ hst fun s' hm => ?_)
    show wpAny _ A.in1 (ret Value.none) _ _ s'
    obtain ⟨o, es, ep, t, ho, rest⟩ := hS
    exact wpAny_pure (hR s' (hm.mono hsub) ⟨o, es, ep, t, hm.heap S _ hSw ho, rest⟩)
  | succ k ih =>
    intro i s hk hi hst hS hR
    have hlt : i < n := by lia
    refine codeAny_builtin F.entry_set_update_loop ?_
    rw [Around.under_plainId F.plain_set_update_loop _]
    show wpAny _ A.in1 (pyNext (.ref I) >>= _) _ _ s
    refine wpAny_bind (W.item i s _ _ hlt hst fun v s' hP hst' hm => ?_)
    obtain ⟨t, rfl⟩ := hval i v hP
    have hS' : s'.heap.SetOf (PySem.strKind prog w) S (metIn val i) i := by
      obtain ⟨o, es, ep, tb, ho, rest⟩ := hS
      exact ⟨o, es, ep, tb, hm.heap S _ hSw ho, rest⟩
    show wpAny _ A.in1 (holding [Value.str (val i) t] (setAdd S (.str (val i) t)) >>= _) _ _ s'
    refine wpAny_bind (wpAny_holding ?_)
    unfold setAdd
    refine wpAny_holding ?_
    refine wpAny_bind ((PySem.strKind prog w).pyHash (k := val i) (strKind_is _ _ _ _) ?_)
    refine wpAny_setAddHashed_of (knd := PySem.strKind prog w) (s := { s' with toks := s'.toks + 1 }) (strKind_is _ _ _ _) rfl hS' (by lia) fun h' hsb hS2 => ?_
    have hSi : h'.SetOf (PySem.strKind prog w) S (metIn val (i + 1)) (i + 1) :=
      SetOf_congr hS2 (fun k' => (metIn_succ val i k').symm) (by rw [hnd i hlt]; rfl)
    refine wpAny_pure ⟨plainId_quiet F.plain_set_update_loop _, ih (i + 1) _ (by lia) hlt (W.frame _ s' _ _ hst' (Nat.le_succ _) fun b hb o e => ?_) hSi fun s'' hm'' hS'' => ?_⟩
    · rw [hsb.2 b (fun h : b = S => hSf (by rw [← h]; exact hb))]; exact e
    · refine hR s'' (Moved.trans W.gtrans ((hm.mono hsub).then_heap (Nat.le_succ _) fun b o hb e => ?_) hm'') hS''
      rw [hsb.2 b (fun h : b = S => hb (by rw [h]; exact List.mem_cons_self))]; exact e
end
section
variable {prog : Program} {w : World} {A : Around} {E : Value → Shared → Prop} {s : Shared}
set_option maxHeartbeats 3200000 in
/-- set(xs), xs distinct texts -/
theorem call_set_texts {l : Addr} {items : Array Value} {val : Nat → Str} {Q : Value → Shared → Prop}
    (hh : A.handled = none) (hl : s.heap.IsList l items) (hval : ∀ (i : Nat) (v : Value), items[i]? = some v → ∃ t, v = .str (val i) t) (hnd : ∀ i, i < items.size → metIn val i (val i) = false) (hb : items.size + 1 < scanBound)
    (h : ∀ (h' : Heap) (tk : Nat), h'.SetOf (PySem.strKind prog w) s.heap.objs.size (metIn val items.size) items.size →
      (∀ b o, b < s.heap.objs.size → s.heap.get? b = some o → h'.get? b = some o) → Q (.ref s.heap.objs.size) { s with heap := h', toks := tk }) :
    wpAny (model prog w) A (call (.type "set") [.ref l]) Q E s := by
  obtain ⟨c, tl, hmro⟩ := PySem.F.called_set.mro
  have hmade := PySem.F.called_set.made
  have hsub := PySem.F.called_set.sub
  refine wpAny_call (codeAny_of_tree ?_)
  show wpAny _ _ (callAny (.type "set") _) _ _ _
  refine wpAny_pure ⟨Code.quiet_builtin _ (by decide +kernel), codeAny_builtin PySem.F.entry_type_call ?_⟩
  rw [Around.under_plain (weight_type_call_type "set" [.ref l] []) rfl]
  have h1 := PySem.F.called_set.notType
  have h2 := PySem.F.called_set.canCreate
  have hct := PySem.F.typeCall_set_1 (.ref l)
  repeat (any_goals (first | assumption | wp_step))
  refine codeAny_mono (code_set_new_1 (.ref l) (E := E) (Q₁ := fun obj s₁ => ∃ led : Bool, obj = .ref s.heap.objs.size ∧ s₁ = { s with heap := s.heap.push { cls := .type "set", dict := none, data := .set #[] 0 (.fresh 0 0 led) } }) fun led => ⟨led, rfl, rfl⟩) fun r s₁ hr => ?_
  cases r with
  | error e => exact hr
  | ok fl =>
    cases fl with
    | ret obj =>
      obtain ⟨led, rfl, rfl⟩ := hr
      have hS : (s.heap.push { cls := .type "set", dict := none, data := .set #[] 0 (.fresh 0 0 led) }).get? s.heap.objs.size = some { cls := .type "set", dict := none, data := .set #[] 0 (.fresh 0 0 led) } := Heap.get?_push_size _ rfl
      have hT : Shared.TypeIs { s with heap := s.heap.push { cls := .type "set", dict := none, data := .set #[] 0 (.fresh 0 0 led) } } (.ref s.heap.objs.size) "set" := ⟨_, hS, rfl⟩
      have hli := PySem.F.called_set.init.lookup
      have hbi := PySem.F.called_set.init.bind (.ref s.heap.objs.size)
      repeat (any_goals (first | assumption | wp_step))
      refine codeAny_mono (codeAny_call_builtin (R := wants (fun r s₂ => r = .none ∧ ∃ h' tk, s₂ = { s with heap := h', toks := tk } ∧
          h'.SetOf (PySem.strKind prog w) s.heap.objs.size (metIn val items.size) items.size ∧
          (∀ b o, b < s.heap.objs.size → s.heap.get? b = some o → h'.get? b = some o)) E) PySem.F.called_set.init.plain PySem.F.entry_set_init (check_set_init_1 hT ?_)) fun r₂ s₂ hr₂ => ?_
      · obtain ⟨ol, hol, hcl, nl, hdl⟩ := hl
        obtain ⟨ocls, odict, odata, oslots⟩ := ol
        simp only at hcl hdl
        subst hcl; subst hdl
        have hol' : (s.heap.push { cls := .type "set", dict := none, data := .set #[] 0 (.fresh 0 0 led) }).get? l = some { cls := .type "list", dict := odict, data := .seq items nl, slots := oslots } := Heap.get?_push_of_some _ hol
        have hsls := PySem.F.sub_list_set
        have hslf := PySem.F.sub_list_frozenset
        have hne : (Value.type "list" == Value.type "dict") = false := by decide
        have hl1 : (s.heap.push { cls := .type "set", dict := none, data := .set #[] 0 (.fresh 0 0 led) }).IsList l items := ⟨_, hol', rfl, nl, rfl⟩
        unfold Builtin.«set.__init__» noKeywords Builtin.Frozenset.updateFrom
        generalize hPI : pyIter = PI
        wp_walk
        subst hPI
        refine wpAny_pyIter_list hl1 ?_
        refine wpAny_bind (wpAny_runValue ?_)
        have hlS : l < s.heap.objs.size := Heap.lt_size hol
        have hh3 : A.in1.in1.in1.handled = none := by simp [hh]
        have hneI : l ≠ (s.heap.push { cls := .type "set", dict := none, data := .set #[] 0 (.fresh 0 0 led) }).objs.size := by
          rw [Heap.size_push]; exact Nat.ne_of_lt (Nat.lt_succ_of_lt hlS)
        have hSf : s.heap.objs.size ∉ [(s.heap.push { cls := .type "set", dict := none, data := .set #[] 0 (.fresh 0 0 led) }).objs.size, l] := by
          rw [Heap.size_push]; simp only [List.mem_cons, List.mem_singleton, List.not_mem_nil, or_false, not_or]
          exact ⟨Nat.ne_of_lt (Nat.lt_succ_self _), Nat.ne_of_gt hlS⟩
        refine set_loop ((Walks.list hh3 _ l hneI items).toS) s.heap.objs.size hSf val hval hnd hb (items.size - 0) 0 _ (by lia) (Nat.zero_le _)
          ⟨⟨_, Heap.get?_push_size _ rfl, rfl, rfl⟩, (hl1.push _)⟩ ?hS0 ?hR
        case hS0 =>
          have hget : ((s.heap.push { cls := .type "set", dict := none, data := .set #[] 0 (.fresh 0 0 led) }).push { cls := .type "list_iterator", data := .fields #[.ref l, .int 0 0] }).get? s.heap.objs.size
              = some { cls := .type "set", dict := none, data := .set #[] 0 (.fresh 0 0 led) } := Heap.get?_push_of_some _ hS
          exact PyProof.Rows.SetOf_congr ((PyProof.Rows.setObjOf_fresh (knd := PySem.strKind prog w) led).setOf hget (by unfold scanBound; lia)) (fun _ => rfl) rfl
        case hR =>
          intro s' hm hS'
          obtain ⟨h', g', d', tk', os'⟩ := s'
          have eg : g' = s.gens := hm.gens
          have ed : d' = s.drawn := hm.drawn
          have eo : os' = s.os := hm.os
          subst eg; subst ed; subst eo
          show wpAny _ _ _ _ _ _
          refine wpAny_pure ?_
          show wpAny _ _ (ret Value.none) _ _ _
          refine wpAny_pure ⟨rfl, h', tk', rfl, hS', fun b o hb e => ?_⟩
          have hb1 : b ≠ s.heap.objs.size := Nat.ne_of_lt hb
          have hb2 : b ≠ (s.heap.push { cls := .type "set", dict := none, data := .set #[] 0 (.fresh 0 0 led) }).objs.size := by
            rw [Heap.size_push]; exact Nat.ne_of_lt (Nat.lt_succ_of_lt hb)
          exact hm.heap b o (by simp only [List.mem_cons, List.mem_singleton, List.not_mem_nil, or_false, not_or]; exact ⟨hb1, hb2⟩) (Heap.get?_push_of_some _ (Heap.get?_push_of_some _ e))
      · cases r₂ with
        | error e => exact hr₂
        | ok fl₂ =>
          cases fl₂ with
          | ret r =>
            obtain ⟨rfl, h', tk, rfl, hS', hk'⟩ := hr₂
            repeat (any_goals (first | assumption | wp_step))
            exact h _ _ hS' hk'
          | _ => exact hr₂.elim
    | _ => exact hr.elim
end
theorem metIn_nodup {xs : List (List Nat)} (h : xs.Nodup) : ∀ i, i < xs.length → metIn (fun j => Tx (xs.getD j [])) i (Tx (xs.getD i [])) = false := by
  intro i hi
  unfold metIn
  rw [List.any_eq_false]
  intro j hj
  have hj := List.mem_range.mp hj
  have e : ∀ k, (hk : k < xs.length) → xs.getD k [] = xs[k] := fun k hk => by rw [List.getD_eq_getElem?_getD, List.getElem?_eq_getElem hk]; rfl
  intro q
  have q : Tx (xs.getD j []) = Tx (xs.getD i []) := by simpa using q
  rw [e j (by lia), e i hi] at q
  have := (List.getElem_inj h).mp (Tx_inj q)
  lia
section
variable {C : Cst} {n : Nat} {f : Fm} {σ : Sto}
/-- len(set(e)) of distinct texts -/
theorem ev_len_set {lf sf e : Expr} {p1 p2 : Pos} {xs : List (List Nat)} (h1 : Ev C n f σ lf (.bi "len")) (h2 : Ev C n f σ sf (.ty "set")) (h3 : Ev C n f σ e (.lst (xs.map fun x => .str (Tx x)))) (hnd : xs.Nodup) (hl : xs.length ≤ 4000)
    (he1 : eval (.Call lf [.Call sf [e] [] p2] [] p1) f.env = (do callWith p1 (← eval lf f.env) [] (backTo p1 (starEach [.Call sf [e] [] p2] f.env)) (backToKw p1 (keywordEach [] f.env))) := by rfl)
    (he2 : eval (.Call sf [e] [] p2) f.env = (do callWith p2 (← eval sf f.env) [] (backTo p2 (starEach [e] f.env)) (backToKw p2 (keywordEach [] f.env))) := by rfl)
    (hp1 : (backTo p1 (starEach [.Call sf [e] [] p2] f.env)).any (·.1) = false := by rfl) (hp2 : (backTo p2 (starEach [e] f.env)).any (·.1) = false := by rfl)
    (hs1 : starEach [.Call sf [e] [] p2] f.env = (false, eval (.Call sf [e] [] p2) f.env) :: starEach [] f.env := by rfl) (hs2 : starEach [e] f.env = (false, eval e f.env) :: starEach [] f.env := by rfl) :
    Ev C n f σ (.Call lf [.Call sf [e] [] p2] [] p1) (.int xs.length) := by
  intro A ow gs av s Q E R F h
  refine Call_ (h1 A ow gs av s _ E R F fun fv s₁ W₁ e₁ r₁ => ?_) he1
  have F₁ := F.ext W₁ e₁
  refine callWith_of (P := C.K.In) (by show ((backTo p1 (starEach [.Call sf [e] [] p2] f.env)).any (·.1) || false) = false; rw [hp1]; rfl) (keepD (P := C.P) (show KeepD C (.bi "len") from trivial) r₁) (evalArgs_evl hp1 ?_)
  refine wpAny_items_cons (Call_ (h2 A ow gs av s₁ _ E R F₁ fun sv s₂ W₂ e₂ r₂ => ?_) he2) hs1
  have F₂ := F₁.ext W₂ e₂
  refine callWith_of (P := C.K.In) (by show ((backTo p2 (starEach [e] f.env)).any (·.1) || false) = false; rw [hp2]; rfl) (keepD (P := C.P) (show KeepD C (.ty "set") from trivial) r₂) (evalArgs_evl hp2 ((evl_cons h3 evl_nil hs2) A ow gs av s₂ _ E R F₂ fun us s₃ W₃ e₃ r₃ => ⟨W₃.KIn, ?_⟩))
  have F₃ := F₂.ext W₃ e₃
  obtain ⟨v, us', rfl, rv, r4⟩ := r₃.inv
  obtain rfl := r4.inv0
  obtain rfl := r₂.ty_inv
  obtain rfl := r₁.bi_inv
  obtain ⟨a, vs, rfl, ha, hp, hr⟩ := rv.lst_inv
  have hlen : vs.length = xs.length := by have := hr.length; rwa [List.length_map] at this
  refine call_set_texts (val := fun j => Tx (xs.getD j [])) R.hd hp.isList (fun i v hv => ?_) (fun i hi => metIn_nodup hnd i (by simpa [hlen] using hi)) (by simp only [List.size_toArray]; have : scanBound = 4096 := rfl; lia) fun h' tk hS hk => ?_
  · obtain ⟨d, hd, rd⟩ := hr.getv' (by simpa using hv)
    rw [List.getElem?_map, Option.map_eq_some_iff] at hd
    obtain ⟨x, hx, rfl⟩ := hd
    obtain ⟨t, rfl⟩ := rd.str_inv
    exact ⟨t, by rw [List.getD_eq_getElem?_getD, hx]; rfl⟩
  have hk' : ∀ b o, s₃.heap.get? b = some o → h'.get? b = some o := fun b o q => hk b o (Heap.lt_size q) q
  have W₄ : Wd C (f.mut ow ++ av) { s₃ with heap := h', toks := tk } := W₃.grow rfl rfl hk'
  obtain ⟨o, es, ep, t, ho, hex, hdat, _, _, _, hf, hsz⟩ := hS
  refine wpAny_items_nil ⟨W₄.KIn, ?_⟩
  refine call_len_set ho hex hdat hf (by rw [hsz]; simp only [List.size_toArray]; lia) ?_
  refine h _ _ (W₄.toks _) (((e₁.trans e₂).trans e₃).trans (.of_keep hk')) ?_
  rw [hsz, List.size_toArray, hlen]
  exact rep_int _ _
end
end Mine
end
section
namespace Mine
section
variable {prog : Program} {w : World} {A : Around} {R : Result → Shared → Prop} {s : Shared}
theorem codeAny_compStart_in {elt t1 i1 t2 i2 : Expr} {scope : Scope} {pos : Pos} {it acc : Value} {env : Env}
    (h0 : codeAny (model prog w) A (.compLoop (.ListComp elt [⟨t1, i1, [], 0⟩, ⟨t2, i2, [], 0⟩] scope pos) 1 it acc env) R s)
    (h : wpAny (model prog w) A (pyIter it) (fun it' s' => codeAny (model prog w) A (.compLoop (.ListComp elt [⟨t1, i1, [], 0⟩, ⟨t2, i2, [], 0⟩] scope pos) 1 it' acc env) R s')
      (notedBy (model prog w) A env fun x s' => R (.error x) s') s) :
    codeAny (model prog w) A (.compStart (.ListComp elt [⟨t1, i1, [], 0⟩, ⟨t2, i2, [], 0⟩] scope pos) 1 it acc env) R s := by
  refine codeAny_of_tree ?_
  show wpAny _ _ ((compStart (.ListComp elt [⟨t1, i1, [], 0⟩, ⟨t2, i2, [], 0⟩] scope pos) 1 it acc env).onRaise (fun x => do noteFrame x env; standAt theWindowsPlace)) _ _ s
  refine wpAny_notedAt ?_
  unfold compStart
  show wpAny _ _ (ask >>= _) _ _ s
  refine wpAny_bind (wpAny_askSetting (wpAny_ite ?_))
  split
  · first
      | exact wpAny_bind (wpAny_pure (wpAny_pure (And.intro rfl h0)))
      | exact wpAny_pure (And.intro rfl h0)
  · first
      | exact wpAny_bind (wpAny_rule (wpAny_bind (wpAny_standAt (wpAny_bind (wpAny_mono h (fun it' s' h' => wpAny_pure (And.intro rfl h')) fun _ _ x => x)))))
      | (refine wpAny_bind (wpAny_rule ?_); show wpAny _ _ (standAt i2.pos >>= _) _ _ s; exact wpAny_bind (wpAny_standAt (wpAny_bind (wpAny_mono h (fun it' s' h' => wpAny_pure (And.intro rfl h')) fun _ _ x => x))))
theorem turn_in (elt t1 i1 t2 i2 : Expr) (scope : Scope) (pos : Pos) (it acc : Value) (env : Env) :
    compTurn (.ListComp elt [⟨t1, i1, [], 0⟩, ⟨t2, i2, [], 0⟩] scope pos) 1 it acc env = (standAt i2.pos >>= fun _ => pyNext it >>= fun r => match r with
      | none => pure (.done .next)
      | some v => letOwnedTupleGo t2 it v >>= fun _ => assign t2 env v >>= fun _ =>
        (eval elt env >>= fun x => call (.builtin "list.append") [acc, x] >>= fun _ => pure ()) >>= fun _ =>
          again (.compLoop (.ListComp elt [⟨t1, i1, [], 0⟩, ⟨t2, i2, [], 0⟩] scope pos) 1 it acc env)) := by rfl
theorem turn_out (elt t1 i1 t2 i2 : Expr) (scope : Scope) (pos : Pos) (it acc : Value) (env : Env) :
    compTurn (.ListComp elt [⟨t1, i1, [], 0⟩, ⟨t2, i2, [], 0⟩] scope pos) 0 it acc env = (standAt i1.pos >>= fun _ => pyNext it >>= fun r => match r with
      | none => pure (.done .next)
      | some v => letOwnedTupleGo t1 it v >>= fun _ => assign t1 env v >>= fun _ =>
        eval i2 env >>= fun x => standAt i2.pos >>= fun _ => foldedSetIterable i2 env x >>= fun x => holding [x] (pyIter x) >>= fun y => runOwn (.compStart (.ListComp elt [⟨t1, i1, [], 0⟩, ⟨t2, i2, [], 0⟩] scope pos) 1 y acc env) env >>= fun _ =>
          again (.compLoop (.ListComp elt [⟨t1, i1, [], 0⟩, ⟨t2, i2, [], 0⟩] scope pos) 0 it acc env)) := by rfl
theorem loop_in {elt t1 i1 t2 i2 : Expr} {scope : Scope} {pos : Pos} {it acc : Value} {env : Env} (I : Nat → Shared → Prop)
    (turn : ∀ n s, I n s → wpAny (model prog w) A (pyNext it) (fun r s₁ => match r with
      | none => R (.ok .next) s₁
      | some v => wpAny (model prog w) A (letOwnedTupleGo t2 it v) (fun _ s₁' => wpAny (model prog w) A (assign t2 env v) (fun _ s₂ =>
          wpAny (model prog w) A (eval elt env) (fun x s₄ => wpAny (model prog w) A (call (.builtin "list.append") [acc, x]) (fun _ s₅ => ∃ m, m < n ∧ I m s₅) (notedBy (model prog w) A env fun e s' => R (.error e) s') s₄) (notedBy (model prog w) A env fun e s' => R (.error e) s') s₂)
          (notedBy (model prog w) A env fun e s' => R (.error e) s') s₁') (notedBy (model prog w) A env fun e s' => R (.error e) s') s₁) (notedBy (model prog w) A env fun e s' => R (.error e) s') s)
    (n : Nat) (h : I n s) :
    codeAny (model prog w) A (.compLoop (.ListComp elt [⟨t1, i1, [], 0⟩, ⟨t2, i2, [], 0⟩] scope pos) 1 it acc env) R s := by
  refine codeAny_loop rfl I (fun n s hI => ?_) n h
  show wpAny _ A ((compTurn (.ListComp elt [⟨t1, i1, [], 0⟩, ⟨t2, i2, [], 0⟩] scope pos) 1 it acc env).onRaise (fun x => do noteFrame x env; theTreesLotGoes x)) _ _ s
  refine wpAny_noted ?_
  rw [turn_in]
  refine wpAny_bind (wpAny_standAt (wpAny_bind (wpAny_mono (turn n s hI) (fun r s₁ h₁ => ?_) fun _ _ h' => h')))
  cases r with
  | none => exact wpAny_pure h₁
  | some v =>
    refine wpAny_bind (wpAny_mono h₁ (fun _ s₁' h₁' => ?_) fun _ _ h' => h')
    refine wpAny_bind (wpAny_mono h₁' (fun _ s₂ h₂ => ?_) fun _ _ h' => h')
    exact wpAny_bind (wpAny_bind (wpAny_mono h₂ (fun x s₄ h₄ => wpAny_bind (wpAny_mono h₄ (fun _ s₅ h₅ => wpAny_pure (wpAny_pure ⟨rfl, h₅⟩)) fun _ _ h' => h')) fun _ _ h' => h'))
theorem loop_out {elt t1 i1 t2 i2 : Expr} {scope : Scope} {pos : Pos} {it acc : Value} {env : Env} (I : Nat → Shared → Prop) (hs : ∀ x, foldedSetIterable i2 env x = pure x)
    (turn : ∀ n s, I n s → wpAny (model prog w) A (pyNext it) (fun r s₁ => match r with
      | none => R (.ok .next) s₁
      | some v => wpAny (model prog w) A (letOwnedTupleGo t1 it v) (fun _ s₁' => wpAny (model prog w) A (assign t1 env v) (fun _ s₂ =>
          wpAny (model prog w) A (eval i2 env) (fun x s₃ => wpAny (model prog w) A (pyIter x) (fun y s₄ =>
            codeAny (model prog w) A (.compStart (.ListComp elt [⟨t1, i1, [], 0⟩, ⟨t2, i2, [], 0⟩] scope pos) 1 y acc env) (fun r s₅ => match r with | .ok _ => ∃ m, m < n ∧ I m s₅ | .error e => cameBackBy (model prog w) A env (notedBy (model prog w) A env fun e s' => R (.error e) s') e s₅) s₄)
            (notedBy (model prog w) A env fun e s' => R (.error e) s') s₃) (notedBy (model prog w) A env fun e s' => R (.error e) s') s₂)
          (notedBy (model prog w) A env fun e s' => R (.error e) s') s₁') (notedBy (model prog w) A env fun e s' => R (.error e) s') s₁) (notedBy (model prog w) A env fun e s' => R (.error e) s') s)
    (n : Nat) (h : I n s) :
    codeAny (model prog w) A (.compLoop (.ListComp elt [⟨t1, i1, [], 0⟩, ⟨t2, i2, [], 0⟩] scope pos) 0 it acc env) R s := by
  refine codeAny_loop rfl I (fun n s hI => ?_) n h
  show wpAny _ A ((compTurn (.ListComp elt [⟨t1, i1, [], 0⟩, ⟨t2, i2, [], 0⟩] scope pos) 0 it acc env).onRaise (fun x => do noteFrame x env; theTreesLotGoes x)) _ _ s
  refine wpAny_noted ?_
  rw [turn_out]
  refine wpAny_bind (wpAny_standAt (wpAny_bind (wpAny_mono (turn n s hI) (fun r s₁ h₁ => ?_) fun _ _ h' => h')))
  cases r with
  | none => exact wpAny_pure h₁
  | some v =>
    refine wpAny_bind (wpAny_mono h₁ (fun _ s₁' h₁' => ?_) fun _ _ h' => h')
    refine wpAny_bind (wpAny_mono h₁' (fun _ s₂ h₂ => ?_) fun _ _ h' => h')
    refine wpAny_bind (wpAny_mono h₂ (fun x s₃ h₃ => wpAny_bind (wpAny_standAt (wpAny_bind (wpAny_of_eq (hs x) (wpAny_bind (wpAny_holding (wpAny_mono h₃ (fun y s₄ h₄ => ?_) fun _ _ h' => h'))))))) fun _ _ h' => h')
    refine wpAny_bind (wpAny_runOwn (codeAny_mono h₄ fun r s₅ h₅ => ?_))
    cases r with
    | error e => exact h₅
    | ok f => exact wpAny_pure ⟨rfl, h₅⟩
end
end Mine
end
section
namespace Mine
/-- row upon row -/
noncomputable def accR (g : Nat → List D) (i : Nat) : List D := (List.range i).flatMap g
noncomputable def genR (items2 : Nat → List D) (F : Nat → Nat → D) (i : Nat) : List D := (List.range (items2 i).length).map (F i)
theorem accR_succ (g : Nat → List D) (i : Nat) : accR g (i + 1) = accR g i ++ g i := by simp [accR, List.range_succ]
theorem accR_mono (g : Nat → List D) {i j : Nat} (h : i ≤ j) : (accR g i).length ≤ (accR g j).length := by
  induction h with
  | refl => exact Nat.le_refl _
  | step _ ih => rw [accR_succ, List.length_append]; lia
theorem genR_len (items2 : Nat → List D) (F : Nat → Nat → D) (i : Nat) : (genR items2 F i).length = (items2 i).length := by simp [genR]
theorem genR_take (items2 : Nat → List D) (F : Nat → Nat → D) (i j : Nat) (h : j < (items2 i).length) : (genR items2 F i).take (j + 1) = (genR items2 F i).take j ++ [F i j] := by
  rw [List.take_add_one, List.getElem?_eq_getElem (by rw [genR_len]; exact h)]
  simp [genR]
section
variable {C : Cst} {n : Nat} {f : Fm} {σ : Sto}
theorem comp2_core {elt t1 i1 t2 i2 : Expr} {scope : Scope} {cl : List (Str × Addr)} {pos : Pos} {items : List D} {items2 : Nat → List D} {σc : Sto} (F : Nat → Nat → D)
    (h1 : EvIt C n f σ i1 t1 items) (hnc : (scope.names.all fun x => x.2 != .cell) = true) (hkind : scope.kind = .function)
    (hcap : Caught f σ scope cl σc) (hci : ∀ x y c, cl.lookup x = some c → cl.lookup y = some c → x = y) (hcl2 : ∀ x c, cl.lookup x = some c → f.env.cells.lookup x = some c)
    (hlen : (accR (genR items2 F) items.length).length ≤ 16777000) (hs2 : ∀ env x, foldedSetIterable i2 env x = pure x)
    (item : ∀ Cc i d, items[i]? = some d → ∃ σ₁, Bnd C n ⟨compEnvC scope cl Cc f.env, []⟩ t1 d σc σ₁ ∧ (∀ x ld, σc.lookup x = some ld → σ₁.lookup x = some ld) ∧
      EvIt C n ⟨compEnvC scope cl Cc f.env, []⟩ σ₁ i2 t2 (items2 i) ∧
      ∀ j d2, (items2 i)[j]? = some d2 → ∃ σ₂, Bnd C n ⟨compEnvC scope cl Cc f.env, []⟩ t2 d2 σ₁ σ₂ ∧ (∀ x ld, σ₁.lookup x = some ld → σ₂.lookup x = some ld) ∧ Ev C n ⟨compEnvC scope cl Cc f.env, []⟩ σ₂ elt (F i j))
    {A : Around} {ow gs av} {s : Shared} {E : Value → Shared → Prop} {RR : Value → Addr → Result → Shared → Prop} (R : Room n A) (Fo : FS C f σ ow gs av s)
    (hQ : ∀ D Cc s' vs m, Wd C (Cc :: (f.mut ow ++ av)) s' → Ext C s.heap s'.heap → s.heap.get? Cc = none → s.heap.get? D = none → D ≠ Cc → s'.heap.PlainList D (List.toArray vs) → RepL C.P (Cc :: D :: (f.mut ow ++ av)) s'.heap (accR (genR items2 F) items.length) vs →
      s'.heap.Ns Cc m → RR (.ref D) Cc (.ok .next) s') :
    wpAny C.M A (eval i1 f.env) (fun x s₁ => wpAny C.M A (pyIter x) (fun it s₂ => wpAny C.M A (newList []) (fun acc s₃ =>
      wpAny C.M A (newFunctionEnv scope f.env.globals cl [] f.env.qual none .none (some f.env)) (fun cenv s₄ =>
        codeAny C.M A (.compStart (.ListComp elt [⟨t1, i1, [], 0⟩, ⟨t2, i2, [], 0⟩] scope pos) 0 it acc { cenv with scope := relabel scope f.env }) (RR acc cenv.locals) s₄) E s₃) E s₂) E s₁) E s := by
  refine h1 A ow gs av s _ E R Fo fun it wr gl St s₂ W₂ e₂ hf wk st hgl => ?_
  refine wpAny_newObj_type (wpAny_newFunctionEnv (fun x hx => by simpa using List.all_eq_true.mp hnc x hx) (by intro y hy; simp at hy) (fun h₁ hns₁ hsb₁ => ?_) hkind)
  dsimp only at hns₁ hsb₁ ⊢
  generalize hH2 : s₂.heap.push { cls := .type "list", dict := none, data := .seq ([] : List Value).toArray } = H2 at hns₁ hsb₁ ⊢
  have hC : H2.objs.size = s₂.heap.objs.size + 1 := by rw [← hH2, Heap.size_push]
  generalize hDd : s₂.heap.objs.size = D at hC
  generalize hCd : H2.objs.size = Cc at hns₁ hsb₁ hC ⊢
  have hDC : D ≠ Cc := by lia
  have nD : s₂.heap.get? D = none := fresh_none (by lia)
  have nC : s₂.heap.get? Cc = none := fresh_none (by lia)
  have lt : ∀ b o, s₂.heap.get? b = some o → b ≠ Cc ∧ b ≠ D := fun b o e => ⟨fun q => (by rw [q, nC] at e; cases e), fun q => (by rw [q, nD] at e; cases e)⟩
  have keep₁ : ∀ b o, s₂.heap.get? b = some o → h₁.get? b = some o := fun b o e => hsb₁.extBut b o (lt b o e).1 (Heap.get?_push_of_some _ (hH2 ▸ Heap.get?_push_of_some _ e))
  have hacc : h₁.PlainList D (List.toArray []) := ⟨0, hsb₁.extBut _ _ hDC (Heap.get?_push_of_some _ (by rw [← hH2, ← hDd]; exact Heap.get?_push_size _ rfl))⟩
  let f' : Fm := ⟨compEnvC scope cl Cc f.env, []⟩
  let av' := wr ++ (D :: (f.mut ow ++ av))
  have wrl : ∀ a ∈ wr, ∃ o, s₂.heap.get? a = some o := fun a ha => W₂.live a (List.mem_append_left _ ha)
  have wrT : ∀ a ∈ wr, a ∉ C.TP := fun a ha m => by obtain ⟨ps, x⟩ := Fo.tab_obj m; rw [hf a ha] at x; cases x
  have DT : D ∉ C.TP := fun m => by
    obtain ⟨o, x⟩ := W₂.live D (List.mem_append_right _ (Fo.tp' D m)); rw [nD] at x; cases x
  have CT : Cc ∉ C.TP := fun m => by
    obtain ⟨o, x⟩ := W₂.live Cc (List.mem_append_right _ (Fo.tp' Cc m)); rw [nC] at x; cases x
  have Dwr : D ∉ wr := fun m => by obtain ⟨o, x⟩ := wrl D m; rw [nD] at x; cases x
  have Cwr : Cc ∉ wr := fun m => by obtain ⟨o, x⟩ := wrl Cc m; rw [nC] at x; cases x
  have gone : ∀ {a}, s₂.heap.get? a = none → s.heap.get? a = none := fun {a} h => by
    cases q : s.heap.get? a with
    | none => rfl
    | some o =>
      by_cases m : a ∈ C.TP
      · obtain ⟨o', x⟩ := W₂.live a (List.mem_append_right _ (Fo.tp' a m)); rw [h] at x; cases x
      · rw [e₂ a o m q] at h; cases h
  have memav : ∀ a, a ∈ [Cc, D] ++ (wr ++ (f.mut ow ++ av)) ↔ a ∈ f'.mut [] ++ av' := fun a => by
    simp only [f', av', Fm.mut, compEnvC, List.map_nil, List.append_nil, List.mem_append, List.mem_cons, List.not_mem_nil, or_false]
    grind
  have W₃ : Wd C (f'.mut [] ++ av') ⟨h₁, s₂.gens, s₂.drawn, s₂.toks + ([] : List (Str × Value)).length, s₂.os⟩ := by
    have := W₂.asides (as := [Cc, D]) (s' := ⟨h₁, s₂.gens, s₂.drawn, s₂.toks + ([] : List (Str × Value)).length, s₂.os⟩) rfl rfl keep₁ (fun a ha => by
      rcases List.mem_cons.mp ha with rfl | ha
      · exact nC
      · rw [List.mem_singleton.mp ha]; exact nD) (fun a ha => by
      rcases List.mem_cons.mp ha with rfl | ha
      · exact ns_live hns₁
      · rw [List.mem_singleton.mp ha]; obtain ⟨k, x⟩ := hacc; exact ⟨_, x⟩)
    exact this.less (fun a h => (memav a).mpr h) fun t ht => (memav _).mp (List.mem_append_right _ (List.mem_append_right _ (Fo.tp' _ (List.mem_map_of_mem ht))))
  have tp' : ∀ a ∈ C.TP, a ∈ av' := fun a h => List.mem_append_right _ (List.mem_cons_of_mem _ (Fo.tp' a h))
  have CcA : Cc ∉ av' := fun h => by
    rcases List.mem_append.mp h with h | h
    · exact Cwr h
    · rcases List.mem_cons.mp h with h | h
      · exact hDC h.symm
      · obtain ⟨o, x⟩ := W₂.live Cc (List.mem_append_right _ h); rw [nC] at x; cases x
  have mut1 : f'.mut [] = [Cc] := by simp [f', Fm.mut, compEnvC]
  have up2 : ∀ {d v}, Rep C.P (wr ++ (f.mut ow ++ av)) s₂.heap d v → Rep C.P (f'.mut [] ++ av') h₁ d v := fun r => r.mono (fun b o _ e => keep₁ b o e) fun b hb ⟨o, x⟩ => by
    rcases List.mem_append.mp ((memav b).mpr hb) with h | h
    · rcases List.mem_cons.mp h with rfl | h
      · rw [nC] at x; cases x
      · rw [List.mem_singleton.mp h, nD] at x; cases x
    · exact h
  have up1 : ∀ {d v}, Rep C.P (f.mut ow ++ av) s.heap d v → Rep C.P (wr ++ (f.mut ow ++ av)) s₂.heap d v := fun r => r.mono (fun b o hb e => e₂ b o (fun m => hb (Fo.tp' b m)) e) fun b hb ⟨o, x⟩ => by
    rcases List.mem_append.mp hb with h | h
    · rw [hf b h] at x; cases x
    · exact h
  have hcll : ∀ x c, cl.lookup x = some c → ∃ v, s.heap.IsCell c v := fun x c h => Fo.cl x c (hcl2 x c h)
  have cellUp : ∀ {c v}, s.heap.IsCell c v → h₁.IsCell c v := fun hc => isCell_at hc fun o e => keep₁ _ o (e₂ _ o (Fo.cell_tp hc) e)
  have F₃ : FS C f' σc [] gl av' ⟨h₁, s₂.gens, s₂.drawn, s₂.toks + ([] : List (Str × Value)).length, s₂.os⟩ := by
    obtain ⟨mo, hmo, hvo⟩ := Fo.vars
    refine ⟨⟨hkind, Fo.ek.2.1, Fo.ek.2.2⟩, tp', W₃, by rw [mut1]; simp, fun a ha h => by rw [mut1] at ha; rw [List.mem_singleton.mp ha] at h; exact CcA h, hci, fun x c h => let ⟨v, hc⟩ := hcll x c h; ⟨v, cellUp hc⟩, ⟨_, hns₁, fun x ld h => ?_⟩, fun p hp => up2 (hgl p hp)⟩
    obtain ⟨⟨d, rfl⟩, hl, hk, hcx, hkx⟩ := hcap x ld h
    obtain ⟨v, hat, hr⟩ := hvo x _ hl
    rcases hat with ⟨k, _⟩ | ⟨_, c, hc, hcv⟩
    · exact absurd k hk
    · exact ⟨v, .inr ⟨hkx, c, hcx.trans hc, cellUp hcv⟩, up2 (up1 hr)⟩
  have hcw : ∀ (X : List Addr), (∀ a ∈ X, s.heap.get? a = none) → ∀ x c, f'.env.cells.lookup x = some c → c ∉ X := fun X hX x c h m => by
    obtain ⟨v, o, e, _⟩ := hcll x c h; rw [hX c m] at e; cases e
  have hw : ∀ a ∈ wr, a ∈ f'.mut [] ++ av' ∧ a ∉ C.TP := fun a ha => ⟨List.mem_append_right _ (List.mem_append_left _ ha), wrT a ha⟩
  have DA : D ∈ av' := List.mem_append_right _ (List.mem_cons_self ..)
  have loop : codeAny C.M A (.compLoop (.ListComp elt [⟨t1, i1, [], 0⟩, ⟨t2, i2, [], 0⟩] scope pos) 0 (.ref it) (.ref D) f'.env) (RR (.ref D) Cc) ⟨h₁, s₂.gens, s₂.drawn, s₂.toks + ([] : List (Str × Value)).length, s₂.os⟩ := by
    refine loop_out (fun kk s' => ∃ i vs, kk = items.length + 1 - i ∧ i ≤ items.length ∧ FS C f' σc [] gl av' s' ∧ St i s'.heap ∧ s'.heap.PlainList D (List.toArray vs) ∧ RepL C.P (f'.mut [] ++ av') s'.heap (accR (genR items2 F) i) vs ∧
      ∀ a o, a ∉ C.TP → a ≠ Cc → a ≠ D → a ∉ wr → h₁.get? a = some o → s'.heap.get? a = some o) (hs2 f'.env) ?_ _ ⟨0, [], rfl, Nat.zero_le _, F₃, wk.frame _ _ _ st fun a ha o e => keep₁ a o e, hacc, .nil, fun _ _ _ _ _ _ e => e⟩
    rintro kk s' ⟨i, vs, rfl, hi, F', st', hp', hr', hk'⟩
    rcases Nat.lt_or_eq_of_le hi with hlt | rfl
    · have hd : items[i]? = some items[i] := List.getElem?_eq_getElem hlt
      obtain ⟨σ₁, hb, hle, hit, hin⟩ := item Cc i _ hd
      refine wk.item A _ s' i _ _ _ _ R.hd F'.wd F'.tp' hw F'.gh st' hd fun v s₅ W₅ hk₅ r₅ st₅ => ?_
      have F₅ : FS C f' σc [] gl av' s₅ := F'.move W₅ hk₅ (fun a ha => List.mem_append_left _ ha) (hcw wr hf)
      have hp₅ := hp'.at (hk₅ D · Dwr)
      have hr₅ : RepL C.P (f'.mut [] ++ av') s₅.heap (accR (genR items2 F) i) vs := hr'.mono (fun a o ha e => hk₅ a o (fun m => ha (hw a m).1) e) fun _ h _ => h
      refine hb A [] _ _ s₅ v _ _ R F₅ r₅ fun s₆ F₆ kk₆ => ?_
      have hk₆ : ∀ a o, a ∉ C.TP → a ≠ Cc → s₅.heap.get? a = some o → s₆.heap.get? a = some o := fun a o h1 h2 e =>
        kk₆ (fun b => if b = Cc then none else s₅.heap.get? b) (fun b o _ q => by
          dsimp only at q
          by_cases m : b = Cc
          · rw [if_pos m] at q; cases q
          · rwa [if_neg m] at q) (fun b hb => by rw [mut1] at hb; exact if_pos (List.mem_singleton.mp hb)) a o h1 ((if_neg h2).trans e)
      have hp₆ := hp₅.at (hk₆ D · DT hDC)
      have hr₆ : RepL C.P (f'.mut [] ++ av') s₆.heap (accR (genR items2 F) i) vs := hr₅.mono (fun a o ha e => hk₆ a o (fun m => ha (F₅.tp' a m)) (fun q => ha (List.mem_append_left _ (by rw [mut1, q]; exact List.mem_singleton.mpr rfl))) e) fun _ h _ => h
      have st₆ : St (i + 1) s₆.heap := wk.frame _ _ _ st₅ fun a ha o e => hk₆ a o (wrT a ha) (fun q => Cwr (q ▸ ha)) e
      refine hit A [] gl av' s₆ _ _ R F₆ fun it2 wr2 gl2 St2 s₇ W₇ e₇ hf2 wk2 st2 hgl2 => ?_
      have F₇ : FS C f' σ₁ [] (gl2 ++ gl) (wr2 ++ av') s₇ := F₆.into W₇ e₇ hf2 hgl2
      have live6 : ∀ a, (∃ o, s₆.heap.get? a = some o) → a ∉ wr2 := fun a ⟨o, e⟩ m => by rw [hf2 a m] at e; cases e
      have wr2T : ∀ a ∈ wr2, a ∉ C.TP := fun a ha m => live6 a (F₆.wd.live a (F₆.tp' a m)) ha
      have wr2A : ∀ a ∈ wr2, a ∉ av' := fun a ha m => live6 a (F₆.wd.live a (List.mem_append_right _ m)) ha
      have D2 : D ∉ wr2 := live6 D (let ⟨k, x⟩ := hp₆; ⟨_, x⟩)
      have C2 : Cc ∉ wr2 := live6 Cc (F₆.wd.live Cc (List.mem_append_left _ (by rw [mut1]; exact List.mem_singleton.mpr rfl)))
      have hw2 : ∀ a ∈ wr2, a ∈ f'.mut [] ++ (wr2 ++ av') ∧ a ∉ C.TP := fun a ha => ⟨List.mem_append_right _ (List.mem_append_left _ ha), wr2T a ha⟩
      have hcw2 : ∀ x c, f'.env.cells.lookup x = some c → c ∉ wr2 := fun x c h m => by
        obtain ⟨v, o, e, _⟩ := F₆.cl x c h
        exact live6 c ⟨o, e⟩ m
      have hp₇ := hp₆.at (e₇ D · DT)
      have up7 : ∀ b, b ∈ f'.mut [] ++ (wr2 ++ av') → (∃ o, s₆.heap.get? b = some o) → b ∈ f'.mut [] ++ av' := fun b hb hl => by
        rcases List.mem_append.mp hb with h | h
        · exact List.mem_append_left _ h
        · rcases List.mem_append.mp h with h | h
          · exact absurd h (live6 b hl)
          · exact List.mem_append_right _ h
      have hr₇ : RepL C.P (f'.mut [] ++ (wr2 ++ av')) s₇.heap (accR (genR items2 F) i) vs := hr₆.mono (fun a o ha e => e₇ a o (fun m => ha (F₆.tp' a m)) e) up7
      have DA2 : D ∈ wr2 ++ av' := List.mem_append_right _ DA
      refine codeAny_compStart_in (it := .ref it2) (R := fun r s₅ => match r with | .ok _ => ∃ m, m < items.length + 1 - i ∧ _ | .error e => cameBackBy C.M A f'.env (notedBy C.M A f'.env fun e s' => RR (.ref D) Cc (.error e) s') e s₅) ?loop2 (wk2.self A _ _ _ 0 st2 ?loop2)
      refine loop_in (fun kk s8 => ∃ j ws, kk = (items2 i).length + 1 - j ∧ j ≤ (items2 i).length ∧ FS C f' σ₁ [] (gl2 ++ gl) (wr2 ++ av') s8 ∧ St2 j s8.heap ∧ s8.heap.PlainList D (List.toArray ws) ∧
        RepL C.P (f'.mut [] ++ (wr2 ++ av')) s8.heap (accR (genR items2 F) i ++ (genR items2 F i).take j) ws ∧ ∀ a o, a ∉ C.TP → a ≠ Cc → a ≠ D → a ∉ wr2 → s₇.heap.get? a = some o → s8.heap.get? a = some o) ?_ _
        ⟨0, vs, rfl, Nat.zero_le _, F₇, st2, hp₇, by rw [List.take_zero, List.append_nil]; exact hr₇, fun _ _ _ _ _ _ e => e⟩
      rintro kk s8 ⟨j, ws, rfl, hj, F8, st8, hp8, hr8, hk8⟩
      rcases Nat.lt_or_eq_of_le hj with hjlt | rfl
      · have hd2 : (items2 i)[j]? = some (items2 i)[j] := List.getElem?_eq_getElem hjlt
        obtain ⟨σ₂, hb2, hle2, hev2⟩ := hin j _ hd2
        refine wk2.item A _ s8 j _ _ _ _ R.hd F8.wd F8.tp' hw2 (fun p hp => F8.gh p (List.mem_append_left _ hp)) st8 hd2 fun v2 s9 W9 hk9 r9 st9 => ?_
        have F9 : FS C f' σ₁ [] (gl2 ++ gl) (wr2 ++ av') s9 := F8.move W9 hk9 (fun a ha => List.mem_append_left _ ha) hcw2
        have hp9 := hp8.at (hk9 D · D2)
        have hr9 : RepL C.P (f'.mut [] ++ (wr2 ++ av')) s9.heap (accR (genR items2 F) i ++ (genR items2 F i).take j) ws := hr8.mono (fun a o ha e => hk9 a o (fun m => ha (hw2 a m).1) e) fun _ h _ => h
        refine hb2 A [] _ _ s9 v2 _ _ R F9 r9 fun s10 F10 kk10 => ?_
        have hk10 : ∀ a o, a ∉ C.TP → a ≠ Cc → s9.heap.get? a = some o → s10.heap.get? a = some o := fun a o h1 h2 e =>
          kk10 (fun b => if b = Cc then none else s9.heap.get? b) (fun b o _ q => by
            dsimp only at q
            by_cases m : b = Cc
            · rw [if_pos m] at q; cases q
            · rwa [if_neg m] at q) (fun b hb => by rw [mut1] at hb; exact if_pos (List.mem_singleton.mp hb)) a o h1 ((if_neg h2).trans e)
        refine hev2 A [] _ _ s10 _ _ R F10 fun x s11 W11 e11 r11 => ?_
        have F11 := F10.ext W11 e11
        have hk11 : ∀ a o, a ∉ C.TP → a ≠ Cc → s9.heap.get? a = some o → s11.heap.get? a = some o := fun a o h1 h2 e => e11 a o h1 (hk10 a o h1 h2 e)
        have hp11 := hp9.at (hk11 D · DT hDC)
        have hr11 : RepL C.P (f'.mut [] ++ (wr2 ++ av')) s11.heap (accR (genR items2 F) i ++ (genR items2 F i).take j) ws := hr9.mono (fun a o ha e => hk11 a o (fun m => ha (F9.tp' a m)) (fun q => ha (List.mem_append_left _ (by rw [mut1, q]; exact List.mem_singleton.mpr rfl))) e) fun _ h _ => h
        have st11 : St2 (j + 1) s11.heap := wk2.frame _ _ _ st9 fun a ha o e => hk11 a o (wr2T a ha) (fun q => C2 (q ▸ ha)) e
        have hsz : ws.length ≤ 16777000 := by
          have h1 := hr11.length
          have h2 : (accR (genR items2 F) i ++ (genR items2 F i).take j).length ≤ (accR (genR items2 F) items.length).length := by
            have h3 := accR_mono (genR items2 F) (show i + 1 ≤ items.length from hlt)
            rw [accR_succ, List.length_append] at h3
            have h4 : ((genR items2 F i).take j).length ≤ (genR items2 F i).length := by rw [List.length_take]; lia
            rw [List.length_append]; lia
          lia
        refine wpAny_list_append_plain (x := x) hp11 (fun h' hp12 hsb => ?_) (by simp only [List.size_toArray]; have : sizeLine = 16777216 := rfl; lia)
        have hk12 : ∀ a o, a ∉ [D] → s11.heap.get? a = some o → h'.get? a = some o := fun a o ha e => (hsb.2 a fun q => ha (List.mem_singleton.mpr q)).trans e
        have W12 : Wd C (f'.mut [] ++ (wr2 ++ av')) { s11 with heap := h' } := W11.wr (wr := [D]) (fun a ha => by rw [List.mem_singleton.mp ha]; exact ⟨List.mem_append_right _ DA2, DT⟩) rfl rfl hk12 fun a ha => by
          rw [List.mem_singleton.mp ha]; obtain ⟨k, x⟩ := hp12; exact ⟨_, x⟩
        have F12 : FS C f' σ₂ [] (gl2 ++ gl) (wr2 ++ av') { s11 with heap := h' } := F11.move W12 hk12 (fun a ha => by rw [List.mem_singleton.mp ha]; exact DA2) (hcw [D] fun a ha => by rw [List.mem_singleton.mp ha]; exact gone nD)
        have e3 : (List.toArray ws).push x = List.toArray (ws ++ [x]) := by simp
        rw [e3] at hp12
        refine ⟨(items2 i).length + 1 - (j + 1), by lia, j + 1, ws ++ [x], rfl, hjlt, F12.weaken hle2, wk2.frame _ _ _ st11 fun a ha o e => hk12 a o (fun q => D2 (List.mem_singleton.mp q ▸ ha)) e, hp12, ?_, fun a o h1 h2 h3 h4 e => hk12 a o (fun q => h3 (List.mem_singleton.mp q)) (hk11 a o h1 h2 (hk9 a o h4 (hk8 a o h1 h2 h3 h4 e)))⟩
        rw [genR_take items2 F i j hjlt, show accR (genR items2 F) i ++ ((genR items2 F i).take j ++ [F i j]) = (accR (genR items2 F) i ++ (genR items2 F i).take j) ++ [F i j] from (List.append_assoc ..).symm]
        exact ((hr11.append (.one (r11.mono (fun _ _ _ e => e) fun _ h _ => h)))).mono (fun a o ha e => hk12 a o (fun q => ha (by rw [List.mem_singleton.mp q]; exact List.mem_append_right _ DA2)) e) fun _ h _ => h
      · have := wk2.done A _ s8 (fun s13 => ∃ m, m < items.length + 1 - i ∧ ∃ i' vs', m = items.length + 1 - i' ∧ i' ≤ items.length ∧ FS C f' σc [] gl av' s13 ∧ St i' s13.heap ∧ s13.heap.PlainList D (List.toArray vs') ∧ RepL C.P (f'.mut [] ++ av') s13.heap (accR (genR items2 F) i') vs' ∧
          ∀ a o, a ∉ C.TP → a ≠ Cc → a ≠ D → a ∉ wr → h₁.get? a = some o → s13.heap.get? a = some o) (fun _ _ => False) (notedBy C.M A f'.env fun e s'' => cameBackBy C.M A f'.env (notedBy C.M A f'.env fun e s' => RR (.ref D) Cc (.error e) s') e s'') R.hd F8.wd F8.tp' hw2 (fun p hp => F8.gh p (List.mem_append_left _ hp)) st8 fun s13 hg13 ho13 hk13 => ?_
        · refine wpAny_mono this (fun r s₃ h₃ => ?_) fun _ _ x => x
          cases r with
          | none => exact h₃
          | some v => exact h₃.elim
        · have F13 : FS C f' σ₁ [] gl av' s13 := F8.outof tp' (fun a ha => ⟨wr2T a ha, wr2A a ha⟩) hcw2 hg13 ho13 hk13
          have all : ∀ a o, a ∉ C.TP → a ≠ Cc → a ≠ D → s₆.heap.get? a = some o → s13.heap.get? a = some o := fun a o h1 h2 h3 e =>
            have h4 := live6 a ⟨o, e⟩
            hk13 a o h4 (hk8 a o h1 h2 h3 h4 (e₇ a o h1 e))
          refine ⟨items.length + 1 - (i + 1), by lia, i + 1, ws, rfl, hlt, F13.weaken hle, wk.frame _ _ _ st₆ fun a ha o e => all a o (wrT a ha) (fun q => Cwr (q ▸ ha)) (fun q => Dwr (q ▸ ha)) e, hp8.at fun o e => hk13 D o D2 e, ?_, fun a o h1 h2 h3 h4 e => all a o h1 h2 h3 (hk₆ a o h1 h2 (hk₅ a o h4 (hk' a o h1 h2 h3 h4 e)))⟩
          rw [accR_succ]
          rw [List.take_of_length_le (by rw [genR_len]; exact Nat.le_refl _)] at hr8
          refine hr8.mono (fun a o ha e => hk13 a o (fun m => ha (hw2 a m).1) e) fun a ha _ => ?_
          rcases List.mem_append.mp ha with h | h
          · exact List.mem_append_left _ h
          · exact List.mem_append_right _ (List.mem_append_right _ h)
    · have := wk.done A _ s' (fun s₃ => RR (.ref D) Cc (.ok .next) s₃) (fun _ _ => False) (notedBy C.M A f'.env fun e s'' => RR (.ref D) Cc (.error e) s'') R.hd F'.wd F'.tp' hw F'.gh st' fun s₅ hg₅ ho₅ hk₅ => ?_
      · refine wpAny_mono this (fun r s₃ h₃ => ?_) fun _ _ x => x
        cases r with
        | none => exact h₃
        | some v => exact h₃.elim
      · obtain ⟨m₅, hm₅, _⟩ := F'.vars
        have nwm : ∀ a ∈ f.mut ow ++ av, a ∉ wr ∧ a ≠ D ∧ a ≠ Cc := fun a ha => by
          obtain ⟨o, e⟩ := Fo.wd.live a ha
          exact ⟨fun m => (by rw [hf a m] at e; cases e), fun q => (by rw [q, gone nD] at e; cases e), fun q => (by rw [q, gone nC] at e; cases e)⟩
        refine hQ D Cc s₅ vs m₅ ?_ (fun a o ha e => ?_) (gone nC) (gone nD) hDC (hp'.at fun o e => hk₅ D o Dwr e) (hr'.mono (fun a o ha e => hk₅ a o (fun m => ha (hw a m).1) e) fun a ha _ => ?_) (hm₅.at' fun o e => hk₅ Cc o Cwr e)
        · have W₆ : Wd C (Cc :: D :: (f.mut ow ++ av)) s₅ := F'.wd.drop (wr := wr) wrT hg₅ ho₅ hk₅ (fun a ha => ?_) (fun a ha => ?_) (fun a ha => ?_) (fun a ha => (hw a ha).1) fun a ha => List.mem_cons_of_mem _ (List.mem_cons_of_mem _ (Fo.tp' a ha))
          · exact W₆.less (fun a ha => by
              rcases List.mem_cons.mp ha with rfl | ha
              · exact List.mem_cons_self ..
              · exact List.mem_cons_of_mem _ (List.mem_cons_of_mem _ ha)) fun t ht => List.mem_cons_of_mem _ (Fo.tp' _ (List.mem_map_of_mem ht))
          · refine (memav a).mp ?_
            simp only [List.mem_append, List.mem_cons, List.not_mem_nil, or_false] at ha ⊢
            grind
          · have := (memav a).mpr ha
            simp only [List.mem_append, List.mem_cons, List.not_mem_nil, or_false] at this ⊢
            grind
          · rcases List.mem_cons.mp ha with rfl | ha
            · exact Cwr
            · rcases List.mem_cons.mp ha with rfl | ha
              · exact Dwr
              · exact (nwm a ha).1
        · have e' := e₂ a o ha e
          have hne := lt a o e'
          have hw' : a ∉ wr := fun m => by rw [hf a m] at e; cases e
          exact hk₅ a o hw' (hk' a o ha hne.1 hne.2 hw' (keep₁ a o e'))
        · refine (memav a).mp ?_
          simp only [List.mem_append, List.mem_cons, List.not_mem_nil, or_false] at ha ⊢
          grind
  exact codeAny_compStart_list (rest := [⟨t2, i2, [], 0⟩]) loop (wk.self A _ _ _ 0 (wk.frame _ _ _ st fun a ha o e => keep₁ a o e) loop)
theorem ev_comp2 {elt t1 i1 t2 i2 : Expr} {scope : Scope} {cl : List (Str × Addr)} {pos : Pos} {items : List D} {items2 : Nat → List D} {σc : Sto} (F : Nat → Nat → D)
    (ok : CompOk f σ scope cl σc) (h1 : EvIt C n f σ i1 t1 items) (hlen : (accR (genR items2 F) items.length).length ≤ 16777000)
    (item : ∀ Cc i d, items[i]? = some d → ∃ σ₁, Bnd C n ⟨compEnvC scope cl Cc f.env, []⟩ t1 d σc σ₁ ∧ Knows σ₁ σc ∧
      EvIt C n ⟨compEnvC scope cl Cc f.env, []⟩ σ₁ i2 t2 (items2 i) ∧
      ∀ j d2, (items2 i)[j]? = some d2 → ∃ σ₂, Bnd C n ⟨compEnvC scope cl Cc f.env, []⟩ t2 d2 σ₁ σ₂ ∧ Knows σ₂ σ₁ ∧ Ev C n ⟨compEnvC scope cl Cc f.env, []⟩ σ₂ elt (F i j))
    (hs : ∀ x, foldedSetIterable i1 f.env x = pure x := by intro _; rfl) (hs2 : ∀ env x, foldedSetIterable i2 env x = pure x := by intro _ _; rfl) :
    Ev C n f σ (.ListComp elt [⟨t1, i1, [], 0⟩, ⟨t2, i2, [], 0⟩] scope pos) (.lst (accR (genR items2 F) items.length)) := by
  refine evo_ev ?_
  intro A ow gs av s Q E R Fo h
  rw [eval_ListComp]
  have hnm : ∀ x ∈ scope.names, x.2 = .local → scope.names.lookup x.1 = some .local := fun x hx hl => by
    have := List.all_eq_true.mp ok.names x hx
    rw [hl] at this; simpa using this
  have hci : ∀ x y c, cl.lookup x = some c → cl.lookup y = some c → x = y := fun x y c h1 h2 => name_of_addr ok.pw (mem_of_lookup h1) (mem_of_lookup h2)
  refine wpAny_comprehension_free (use := none) rfl hs ok.clos ok.kind hnm (comp2_core F h1 ok.nc ok.kind ok.cap.caught hci (InCells.look ok.inc) hlen hs2
    (fun Cc i d hd => let ⟨σ₁, a1, a2, a3, a4⟩ := item Cc i d hd; ⟨σ₁, a1, a2.look, a3, fun j d2 h2 => let ⟨σ₂, b1, b2, b3⟩ := a4 j d2 h2; ⟨σ₂, b1, b2.look, b3⟩⟩) R Fo fun D Cc s' vs m W' e' gC gD hDC hp hr hn => ?_)
  refine ⟨m, hn, fun h' hs' => ?_⟩
  have CcA : Cc ∉ f.mut ow ++ av := fun m => by obtain ⟨o, e⟩ := Fo.wd.live Cc m; rw [gC] at e; cases e
  refine h D vs { s' with heap := h' } (W'.cons_drop hs' CcA Fo.tp') (fun a o ha e => (hs'.2 a fun q => by rw [q, gC] at e; cases e).trans (e' a o ha e)) gD (hp.at fun o e => (hs'.2 D hDC).trans e) ?_
  exact hr.mono (fun a o ha e => (hs'.2 a fun q => ha (q ▸ List.mem_cons_self ..)).trans e) fun a ha _ => List.mem_cons_of_mem _ ha
end
end Mine
end
section
namespace Mine
theorem xor_low {x : Int} (hx : 0 ≤ x) (s : Nat) : Builtin.bitXor x (x / 2 ^ s * 2 ^ s) = x % 2 ^ s := by
  obtain ⟨m, rfl⟩ := Int.eq_ofNat_of_zero_le hx
  have e : ((m : Int) / 2 ^ s * 2 ^ s) = ((m / 2 ^ s * 2 ^ s : Nat) : Int) := by simp
  have e1 : ((m : Int) % 2 ^ s) = ((m % 2 ^ s : Nat) : Int) := by simp
  rw [bitXor_and, e, e1, bitAnd_pp (by lia) (by lia), Int.toNat_natCast, Int.toNat_natCast]
  have h : m &&& (m / 2 ^ s * 2 ^ s) = m / 2 ^ s * 2 ^ s := by
    apply Nat.eq_of_testBit_eq
    intro i
    rw [Nat.testBit_and, Nat.mul_comm, Nat.testBit_two_pow_mul]
    by_cases hi : s ≤ i
    · rw [Nat.testBit_div_two_pow]
      have : i - s + s = i := by lia
      simp [hi, this, Nat.add_comm]
    · simp [hi]
  rw [h]
  have := Nat.div_add_mod m (2 ^ s)
  rw [Nat.mul_comm] at this
  lia

/-- the k lowest digits of a number, the lowest first -/
noncomputable def digs (w : Nat) : Nat → Int → List Int
  | 0, _ => []
  | k + 1, x => x % 2 ^ w :: digs w k (x / 2 ^ w)
theorem digs_length (w : Nat) : ∀ k x, (digs w k x).length = k
  | 0, _ => rfl
  | k + 1, x => by simp [digs, digs_length w k]
theorem pow_pos' (w : Nat) : (0 : Int) < 2 ^ w := Int.pow_pos (by decide)
theorem digs_split (w : Nat) : ∀ (j k : Nat) (x : Int), digs w (j + k) x = digs w j (x % 2 ^ (w * j)) ++ digs w k (x / 2 ^ (w * j))
  | 0, k, x => by simp [digs]
  | j + 1, k, x => by
    have hp := pow_pos' w
    have hq := pow_pos' (w * j)
    have e0 : (2 : Int) ^ (w * (j + 1)) = 2 ^ w * 2 ^ (w * j) := by rw [Nat.mul_succ, Nat.add_comm, Int.pow_add]
    rw [show j + 1 + k = (j + k) + 1 by lia]
    simp only [digs, List.cons_append]
    rw [digs_split w j k]
    have e1 : x % 2 ^ (w * (j + 1)) % 2 ^ w = x % 2 ^ w := by
      rw [e0]; exact Int.emod_emod_of_dvd x ⟨_, rfl⟩
    have e2 : x / 2 ^ (w * (j + 1)) = x / 2 ^ w / 2 ^ (w * j) := by rw [e0, Int.ediv_ediv_of_nonneg (Int.le_of_lt hp)]
    have e3 : x % 2 ^ (w * (j + 1)) / 2 ^ w = x / 2 ^ w % 2 ^ (w * j) := by
      rw [e0, Int.emod_def x, Int.emod_def (x / 2 ^ w), ← Int.ediv_ediv_of_nonneg (Int.le_of_lt hp)]
      rw [show x - 2 ^ w * 2 ^ (w * j) * (x / 2 ^ w / 2 ^ (w * j)) = x + 2 ^ w * (-(2 ^ (w * j) * (x / 2 ^ w / 2 ^ (w * j)))) by
        rw [Int.mul_neg, Int.mul_assoc]; rfl]
      rw [Int.add_mul_ediv_left _ _ (Int.ne_of_gt hp)]
      lia
    rw [e1, e2, e3]
theorem digs_one (w : Nat) {x : Int} (h0 : 0 ≤ x) (h1 : x < 2 ^ w) : digs w 1 x = [x] := by simp [digs, Int.emod_eq_of_lt h0 h1]
theorem digs_range (w : Nat) : ∀ k x, ∀ d ∈ digs w k x, 0 ≤ d ∧ d < 2 ^ w
  | 0, _, d, h => by cases h
  | k + 1, x, d, h => by
    rcases List.mem_cons.mp h with rfl | h
    · exact ⟨Int.emod_nonneg _ (Int.ne_of_gt (pow_pos' w)), Int.emod_lt_of_pos _ (pow_pos' w)⟩
    · exact digs_range w k _ d h
theorem valD_digs (w : Nat) : ∀ k (x : Int), 0 ≤ x → x < 2 ^ (w * k) → valD w (digs w k x) = x
  | 0, x, h0, h1 => by simp at h1; simp [digs, valD]; lia
  | k + 1, x, h0, h1 => by
    have hp := pow_pos' w
    have e0 : (2 : Int) ^ (w * (k + 1)) = 2 ^ w * 2 ^ (w * k) := by rw [Nat.mul_succ, Nat.add_comm, Int.pow_add]
    simp only [digs, valD]
    rw [valD_digs w k _ (Int.ediv_nonneg h0 (Int.le_of_lt hp)) (Int.ediv_lt_of_lt_mul hp (by rw [Int.mul_comm, ← e0]; exact h1))]
    have := Int.mul_ediv_add_emod x (2 ^ w)
    lia
theorem digs_zero (w : Nat) : ∀ k, digs w k 0 = List.replicate k 0
  | 0 => rfl
  | k + 1 => by simp [digs, digs_zero w k, List.replicate_succ]
theorem lt_two_pow_intBits {a : Int} (h : 0 ≤ a) : a < 2 ^ Builtin.Int.intBits a := by
  obtain ⟨m, rfl⟩ := Int.eq_ofNat_of_zero_le h
  unfold Builtin.Int.intBits
  by_cases q : ((m : Int) == 0) = true
  · rw [if_pos q]; have : m = 0 := by simpa using q
    subst this; decide
  · rw [if_neg q]
    have h1 : m ≠ 0 := fun e => q (by simp [e])
    have h2 := Nat.lt_log2_self (n := m)
    have h3 : ((2 ^ (m.log2 + 1) : Nat) : Int) = 2 ^ (m.log2 + 1) := by simp
    simp only [Int.natAbs_natCast]
    lia
theorem pow2_le {a b : Nat} (h : a ≤ b) : (2 : Int) ^ a ≤ 2 ^ b := by
  have h1 := Nat.pow_le_pow_right (n := 2) (by decide) h
  have h2 : ((2 ^ a : Nat) : Int) = 2 ^ a := by simp
  have h3 : ((2 ^ b : Nat) : Int) = 2 ^ b := by simp
  lia
end Mine
end
section
namespace Mine
/-- long division, digit by digit, the highest first -/
noncomputable def dvStep (w : Nat) (b : Int) (s : Int × List Int) (d : Int) : Int × List Int := ((s.1 * 2 ^ w + d) % b, s.2 ++ [(s.1 * 2 ^ w + d) / b])
noncomputable def dvRun (w : Nat) (b : Int) (xs : List Int) : Int × List Int := xs.foldl (dvStep w b) (0, [])
theorem dvRun_snoc (w : Nat) (b : Int) (xs : List Int) (d : Int) : dvRun w b (xs ++ [d]) = dvStep w b (dvRun w b xs) d := by simp [dvRun]
theorem dvRun_spec (w : Nat) (b : Int) (hb : 0 < b) (hbw : b ≤ 2 ^ w) : ∀ xs : List Int, (∀ x ∈ xs, 0 ≤ x ∧ x < 2 ^ w) →
    valD w xs = valD w (dvRun w b xs.reverse).2.reverse * b + (dvRun w b xs.reverse).1 ∧ 0 ≤ (dvRun w b xs.reverse).1 ∧ (dvRun w b xs.reverse).1 < b ∧
      (∀ q ∈ (dvRun w b xs.reverse).2, 0 ≤ q ∧ q < 2 ^ w) ∧ (dvRun w b xs.reverse).2.length = xs.length
  | [], _ => by simp [dvRun, valD, hb]
  | d :: xs, h => by
    obtain ⟨h1, h2, h3, h4, h5⟩ := dvRun_spec w b hb hbw xs fun x hx => h x (List.mem_cons_of_mem _ hx)
    have hd := h d (List.mem_cons_self ..)
    have hp := pow_pos' w
    rw [List.reverse_cons, dvRun_snoc]
    generalize dvRun w b xs.reverse = s at h1 h2 h3 h4 h5
    obtain ⟨r, qs⟩ := s
    simp only [dvStep, valD, List.reverse_append, List.reverse_cons, List.reverse_nil, List.nil_append, List.singleton_append, List.mem_append, List.mem_singleton, List.length_append, List.length_singleton, List.length_cons] at h1 h2 h3 h4 h5 ⊢
    have e1 := Int.mul_ediv_add_emod (r * 2 ^ w + d) b
    have n1 : 0 ≤ r * 2 ^ w + d := Int.add_nonneg (Int.mul_nonneg h2 (Int.le_of_lt hp)) hd.1
    refine ⟨?_, Int.emod_nonneg _ (Int.ne_of_gt hb), Int.emod_lt_of_pos _ hb, ?_, congrArg (· + 1) h5⟩
    · rw [h1]
      have : 2 ^ w * (valD w qs.reverse * b + r) = (2 ^ w * valD w qs.reverse) * b + r * 2 ^ w := by
        rw [Int.mul_add, Int.mul_assoc, Int.mul_comm (2 ^ w) r]
      rw [this, Int.add_mul]
      rw [Int.mul_comm ((r * 2 ^ w + d) / b) b]
      lia
    · rintro q (hq | rfl)
      · exact h4 q hq
      · refine ⟨Int.ediv_nonneg n1 (Int.le_of_lt hb), Int.ediv_lt_of_lt_mul hb ?_⟩
        have : (r + 1) * 2 ^ w ≤ b * 2 ^ w := Int.mul_le_mul_of_nonneg_right (by lia) (Int.le_of_lt hp)
        rw [Int.add_mul, Int.one_mul] at this
        rw [Int.mul_comm b] at this
        lia
theorem div_of {a b q r : Int} (hb : 0 < b) (h : a = q * b + r) (h0 : 0 ≤ r) (h1 : r < b) : q = a / b ∧ r = a % b := by
  have e1 : a / b = q := by
    rw [h, Int.add_comm, Int.add_mul_ediv_right _ _ (Int.ne_of_gt hb), Int.ediv_eq_zero_of_lt h0 h1]; lia
  refine ⟨e1.symm, ?_⟩
  rw [Int.emod_def, e1, h, Int.mul_comm b q]; lia
end Mine
end
section
namespace Mine
theorem digs_valD (w : Nat) : ∀ ds : List Int, (∀ x ∈ ds, 0 ≤ x ∧ x < 2 ^ w) → digs w ds.length (valD w ds) = ds
  | [], _ => rfl
  | d :: ds, h => by
    have hd := h d (List.mem_cons_self ..)
    have hp := pow_pos' w
    rw [List.length_cons, digs, valD, Int.add_mul_emod_self_left, Int.emod_eq_of_lt hd.1 hd.2, Int.add_mul_ediv_left _ _ (Int.ne_of_gt hp), Int.ediv_eq_zero_of_lt hd.1 hd.2, Int.zero_add,
      digs_valD w ds fun x hx => h x (List.mem_cons_of_mem _ hx)]
theorem two_pow_intBits_le {a : Int} (h : 0 < a) : 0 < Builtin.Int.intBits a ∧ 2 ^ (Builtin.Int.intBits a - 1) ≤ a := by
  obtain ⟨m, rfl⟩ := Int.eq_ofNat_of_zero_le (Int.le_of_lt h)
  have hm : m ≠ 0 := by lia
  unfold Builtin.Int.intBits
  rw [if_neg (by simpa using hm)]
  refine ⟨Nat.succ_pos _, ?_⟩
  have h2 := Nat.log2_self_le hm
  have h3 : ((2 ^ m.log2 : Nat) : Int) = 2 ^ m.log2 := by simp
  simp only [Int.natAbs_natCast, Nat.add_sub_cancel]
  lia
/-- between these powers: so many bits -/
theorem intBits_lt_of {a : Int} {k : Nat} (h0 : 0 < a) (h : a < 2 ^ k) : Builtin.Int.intBits a ≤ k := by
  obtain ⟨h1, h2⟩ := two_pow_intBits_le h0
  rcases Nat.lt_or_ge k (Builtin.Int.intBits a) with h3 | h3
  · have := pow2_le (show k ≤ Builtin.Int.intBits a - 1 by lia); lia
  · exact h3
theorem lt_intBits_of {a : Int} {k : Nat} (h : 2 ^ k ≤ a) : k < Builtin.Int.intBits a := by
  have hp := pow_pos' k
  have h1 := lt_two_pow_intBits (a := a) (by lia)
  rcases Nat.lt_or_ge k (Builtin.Int.intBits a) with h3 | h3
  · exact h3
  · have := pow2_le h3; lia
theorem valD_snoc (w : Nat) (ds : List Int) (d : Int) : valD w (ds ++ [d]) = valD w ds + 2 ^ (w * ds.length) * d := by
  rw [valD_append]; simp [valD]
/-- as many digits as the number has places -/
theorem places_valD {w : Nat} (hw : 0 < w) {ds : List Int} {d : Int} (h : ∀ x ∈ ds, 0 ≤ x ∧ x < 2 ^ w) (hd : 0 < d ∧ d < 2 ^ w) : (Builtin.Int.intBits (valD w (ds ++ [d])) + w - 1) / w = (ds ++ [d]).length := by
  have hall : ∀ x ∈ ds ++ [d], 0 ≤ x ∧ x < 2 ^ w := fun x hx => by
    rcases List.mem_append.mp hx with hx | hx
    · exact h x hx
    · obtain rfl := List.mem_singleton.mp hx; lia
  have h1 := valD_lt w (ds ++ [d]) hall
  have h2 : 2 ^ (w * ds.length) ≤ valD w (ds ++ [d]) := by
    rw [valD_snoc]
    have h3 := valD_nonneg w ds fun x hx => (h x hx).1
    have h4 : (2 : Int) ^ (w * ds.length) * 1 ≤ 2 ^ (w * ds.length) * d := Int.mul_le_mul_of_nonneg_left hd.1 (Int.le_of_lt (pow_pos' _))
    lia
  have h3 := lt_intBits_of h2
  have hp := pow_pos' (w * ds.length)
  have h4 := intBits_lt_of (by lia) h1
  rw [List.length_append, List.length_singleton] at h4 ⊢
  rw [Nat.mul_succ] at h4
  apply Nat.div_eq_of_lt_le
  · rw [Nat.add_mul, Nat.one_mul, Nat.mul_comm]; lia
  · rw [show (ds.length + 1).succ * w = w * ds.length + w + w by rw [Nat.succ_mul, Nat.add_mul, Nat.one_mul, Nat.mul_comm]]; lia
/-- the digits of a number that digits spell -/
theorem digs_places {w : Nat} (hw : 0 < w) {ds : List Int} {d : Int} (h : ∀ x ∈ ds, 0 ≤ x ∧ x < 2 ^ w) (hd : 0 < d ∧ d < 2 ^ w) :
    digs w ((Builtin.Int.intBits (valD w (ds ++ [d])) + w - 1) / w) (valD w (ds ++ [d])) = ds ++ [d] := by
  rw [places_valD hw h hd]
  exact digs_valD w _ fun x hx => by
    rcases List.mem_append.mp hx with hx | hx
    · exact h x hx
    · obtain rfl := List.mem_singleton.mp hx; lia
end Mine
end
section
namespace Mine
theorem repL_of_ints {P : Params} {av : List Addr} {h : Heap} : ∀ {vs : List Value} {xs : List Int}, IntsAre vs xs → RepL P av h (xs.map .int) vs
  | _, _, .nil => .nil
  | _, _, .cons _ _ r => .cons (rep_int _ _) (repL_of_ints r)
noncomputable abbrev tq (tabs : List Tab) : List (Addr × Addr) := tabs.map fun t => (t.c, t.P)
theorem tq_snd (tabs : List Tab) : (tq tabs).map (·.2) = tabs.map (·.P) := by rw [List.map_map]; rfl
/-- from the claim's call to the law's own answer -/
theorem join {prog : Program} {w : World} {K : Frag} {s₁ : Shared} {mg mb : Str → Option Value} {p : Program} {loose : List Str} {mean : ExcName → Option Value} {tabs : List Tab} {cw : ClaimW} {cl : Str → Option Addr} {mean' : ExcName → Option Value}
    {args : List WData} {q a fa : Addr} {vs : List Value} {xs : List Int} {x : Str}
    (X : K.In s₁.heap) (hno : noTabs K = true) (T : Top p loose mean mg mb s₁.heap) (hT : TabsAt (tq tabs) s₁.heap) (hinj : ∀ t ∈ tabs, ∀ t' ∈ tabs, t.P = t'.P → t = t')
    (hg : s₁.gens = #[]) (hmg : mg x = some (.ref fa)) (hq : nsIn K mainGlobals x = some (some (.ref q))) (hL : s₁.heap.IsList a vs.toArray) (hI : IntsAre vs xs)
    (hcal : ∀ C : Cst, C.K = K → C.w = w → C.tabs = tabs → Cal C 600 (.fn q) [.ls0 (xs.map .int)] (.bool true))
    (hr : ∀ cls, cw.raises args cls = false) (hpost : cw.post args (.bool true) args = true) :
    wpAny (model prog w) callerA (call (.ref fa) [.ref a]) (fun v s' => GoodWG cw cl mean' args s₁ (.ok (.ret v)) s') (fun e s' => GoodWG cw cl mean' args s₁ (.error e) s') s₁ := by
  have Tg := ghost_top hT T
  obtain rfl : fa = q := by
    have e := mg_of X T.g hq
    rw [hmg] at e; cases e; rfl
  have hcode : ∀ t ∈ tabs, CodeHd (ghostOf s₁.heap (tq tabs)) t.c t.P := by
    have h1 := ghost_code hT
    have h2 : ∀ {l : List (Addr × Addr)} {h : Heap}, CodeAll l h → ∀ q ∈ l, CodeHd h q.1 q.2 := by
      intro l
      induction l with
      | nil => intro h _ q hq; cases hq
      | cons b l ih =>
        intro h x q hq
        rcases List.mem_cons.mp hq with rfl | hq
        · exact x.1
        · exact ih x.2 q hq
    intro t ht
    exact h2 h1 (t.c, t.P) (List.mem_map_of_mem ht)
  have hP : ∀ t ∈ tabs, s₁.heap.get? t.P = some (tabObj #[]) := fun t ht => (hT (t.c, t.P) (List.mem_map_of_mem ht)).2
  let C : Cst := ⟨prog, w, K, ghostOf s₁.heap (tq tabs), mg, mb, tabs, s₁.os, ghost_K hT X hno, Tg.g, Tg.b, Tg.nolimit, Tg.builtins, Tg.bmain, hcode, hinj⟩
  have W : Wd C C.TP s₁ := by
    refine ⟨fun b o e => of_hideAll _ e, fun b hb => hideAll_none _ ((tq_snd tabs).symm ▸ hb), fun b hb => ?_, fun t ht => ⟨List.mem_map_of_mem ht, #[], hP t ht, .inl rfl⟩, hg, rfl⟩
    obtain ⟨t, ht, rfl⟩ := List.mem_map.mp hb
    exact ⟨_, hP t ht⟩
  have ha : a ∉ C.TP := fun hb => by
    obtain ⟨t, ht, rfl⟩ := List.mem_map.mp hb
    obtain ⟨o, e, hc, _⟩ := hL
    rw [hP t ht] at e; cases e; cases hc
  refine hcal C rfl rfl rfl callerA C.TP s₁ (.ref fa) [.ref a] _ _ ⟨rfl, by decide, by decide⟩ W (fun _ h => h) (by simp only [Rep]) (.one (by simp only [Rep]; exact ⟨a, vs, rfl, ha, hL, repL_of_ints hI⟩)) fun v s' W' e r => ?_
  obtain rfl := r.bool_inv
  have grown : ∀ b o, b ∈ C.TP → s₁.heap.get? b = some o → isCodeTable s₁.heap b ∧ o = tabObj #[] ∧ ∃ ps, s'.heap.get? b = some (tabObj ps) := fun b o hb q => by
    obtain ⟨t, ht, rfl⟩ := List.mem_map.mp hb
    rw [hP t ht] at q
    obtain ⟨_, ps, q2, _⟩ := W'.tabs t ht
    exact ⟨((hT (t.c, t.P) (List.mem_map_of_mem ht)).1.tab (hP t ht)).isCodeTable, (Option.some.inj q).symm, ps, q2⟩
  refine ⟨.inl ⟨_, _, _, rfl, hr, .bool true, hpost, fun _ => ⟨.nil, fun _ h => nomatch h⟩⟩, ⟨fun b o q => ?_, fun b o q => ?_⟩, W'.os, .of_eq W'.gens⟩
  · by_cases hb : b ∈ C.TP
    · obtain ⟨h1, rfl, ps, h2⟩ := grown b o hb q
      exact .inr (.inl ⟨h1, rfl, #[], ps, rfl, by rw [h2]; simp⟩)
    · exact .inl (e b o hb q)
  · by_cases hb : b ∈ C.TP
    · obtain ⟨_, _, ps, h2⟩ := grown b o hb q
      exact ⟨_, h2⟩
    · exact ⟨o, e b o hb q⟩
theorem post_ok (l : OpenLaw) (args : List WData) : l.row.toRowW.claim.post args (.bool true) args = true := by
  refine postW_of (X := true) ?_ ?_ rfl
  · show WShape.has _ (WData.bool true) .bool = true
    simp [WShape.has, WShape.arms]
  · show WTm.value _ (.eq .res (.lit (.bool true))) _ = _
    simp [WTm.value, same]
end Mine
end
section
namespace Mine
local macro_rules | `(tactic| k_extra "side") => `(tactic| first | with_reducible assumption | lia | decide | with_reducible rfl | fail "k")
local macro_rules | `(tactic| k_extra "bop") => `(tactic| first
  | with_reducible exact bop_add | with_reducible exact bop_sub | with_reducible exact bop_xor
  | ((with_reducible refine' bop_mul ?_); k_extra "side")
  | ((with_reducible refine' bop_mod ?_); k_extra "side")
  | ((with_reducible refine' bop_floordiv ?_ ?_) <;> k_extra "side")
  | ((with_reducible refine' bop_pow ?_ ?_) <;> k_extra "side")
  | ((with_reducible refine' bop_lshift ?_ ?_) <;> k_extra "side")
  | ((with_reducible refine' bop_rshift ?_); k_extra "side") | fail "k")
local macro_rules | `(tactic| k_extra "cmp") => `(tactic| first
  | with_reducible exact cmp_lt | with_reducible exact cmp_le | with_reducible exact cmp_eq | with_reducible exact cmp_ne | fail "k")
local macro_rules | `(tactic| k_extra "keep") => `(tactic| first | exact True.intro | exact keep_fn (by assumption) rfl | fail "k")
local macro_rules | `(tactic| k_extra "getm") => `(tactic| first | with_reducible exact getM_bit_length | fail "k")
local macro_rules | `(tactic| k_extra "cal") => `(tactic| first | with_reducible exact cal_bit_length | ((with_reducible refine' cal_divmod ?_ ?_) <;> k_extra "side") | assumption | fail "k")
local macro_rules | `(tactic| k_extra "evl") => `(tactic| first | with_reducible exact evl_nil | ((with_reducible refine' evl_cons ?h1 ?h2 ?h3); (case h1 => k_extra "ev"); (case h2 => k_extra "evl"); (case h3 => rfl)) | fail "k")
local macro_rules | `(tactic| k_extra "ev") => `(tactic| first
  | with_reducible exact ev_int | with_reducible exact ev_str | with_reducible exact ev_none
  | ((with_reducible refine' ev_local ?h1 ?h2 ?h3); (case h1 => rfl); (case h2 => rfl); (case h3 => decide))
  | ((with_reducible refine' ev_cell ?h1 ?h2 ?h3); (case h1 => rfl); (case h2 => rfl); (case h3 => decide))
  | ((with_reducible refine' ev_free ?h1 ?h2 ?h3 ?h4); (case h1 => rfl); (case h2 => rfl); (case h3 => decide); (case h4 => decide))
  | ((with_reducible refine' ev_globK ?h1 ?h2 ?h3 ?h4); (case h1 => assumption); (case h2 => rfl); (case h3 => rfl); (case h4 => decide))
  | ((with_reducible refine' ev_builtinK ?h1 ?h2 ?h3 ?h4 ?h5 ?h6); (case h1 => assumption); (case h2 => rfl); (case h3 => rfl); (case h4 => rfl); (case h5 => decide); (case h6 => decide))
  | ((with_reducible refine' ev_typeK ?h1 ?h2 ?h3 ?h4 ?h5 ?h6); (case h1 => assumption); (case h2 => rfl); (case h3 => rfl); (case h4 => rfl); (case h5 => decide); (case h6 => decide))
  | ((with_reducible refine' ev_globI ?h1 ?h2 ?h3 ?h4); (case h1 => assumption); (case h2 => rfl); (case h3 => rfl); (case h4 => decide))
  | ((with_reducible refine' ev_bin ?h1 ?h2 ?h3); (case h1 => k_extra "ev"); (case h2 => k_extra "ev"); (case h3 => k_extra "bop"))
  | ((with_reducible refine' ev_cmp ?h1 ?h2 ?h3 ?h4); (case h1 => k_extra "ev"); (case h2 => k_extra "ev"); (case h3 => k_extra "cmp"); (case h4 => with_unfolding_all rfl))
  | ((with_reducible refine' ev_tuple ?h1 ?h2); (case h1 => k_extra "evl"); (case h2 => exact Nat.le_of_ble_eq_true rfl))
  | ((with_reducible refine' ev_list ?h1 ?h2); (case h1 => k_extra "evl"); (case h2 => exact Nat.le_of_ble_eq_true rfl))
  | ((with_reducible refine' ev_method ?h1 ?h2 ?h3 ?h4 ?h5 ?h6); (case h1 => k_extra "ev"); (case h2 => k_extra "getm"); (case h3 => k_extra "evl"); (case h4 => k_extra "cal"); (case h5 => rfl); (case h6 => rfl))
  | ((with_reducible refine' ev_call ?h1 ?h2 ?h3 ?h4 ?h5 ?h6); (case h1 => k_extra "ev"); (case h2 => k_extra "keep"); (case h3 => k_extra "evl"); (case h4 => k_extra "cal"); (case h5 => rfl); (case h6 => rfl)) | fail "k")
local macro_rules | `(tactic| k_extra "tst") => `(tactic| first
  | ((with_reducible refine' tst_cmp ?h1 ?h2 ?h3 ?h4); (case h1 => k_extra "ev"); (case h2 => k_extra "ev"); (case h3 => k_extra "cmp"); (case h4 => with_unfolding_all rfl)) | fail "k")
local macro_rules | `(tactic| k_extra "cal") => `(tactic| first | ((with_reducible refine' cal_len_list ?_); k_extra "side") | fail "k")
local macro_rules | `(tactic| k_extra "sub") => `(tactic| first
  | ((with_reducible refine' sub_list ?h1 ?h2 ?h3); (case h1 => k_extra "side"); (case h2 => k_extra "side"); (case h3 => k_extra "side"))
  | ((with_reducible refine' sub_tup ?h1 ?h2 ?h3); (case h1 => k_extra "side"); (case h2 => k_extra "side"); (case h3 => k_extra "side")) | fail "k")
local macro_rules | `(tactic| k_extra "ev") => `(tactic| first | ((with_reducible refine' ev_sub ?h1 ?h2 ?h3); (case h1 => k_extra "ev"); (case h2 => k_extra "ev"); (case h3 => k_extra "sub")) | fail "k")
local macro_rules | `(tactic| k_extra "tst") => `(tactic| first
  | ((with_reducible refine' tst_not ?h1); (case h1 => k_extra "tst"))
  | ((with_reducible refine' tst_or ?h1 ?h2); (case h1 => k_extra "tst"); (case h2 => k_extra "tst"))
  | with_reducible exact tst_or_nil
  | ((with_reducible refine' tst_plain ?h1 ?h2 ?h3); (case h1 => k_extra "ev"); (case h2 => first | exact truth_int | (refine' truth_list ?_; k_extra "side")); (case h3 => rfl)) | fail "k")
local macro_rules | `(tactic| k_extra "stk") => `(tactic| first | exact Or.inl rfl | exact stk_def rfl | fail "k")
local macro_rules | `(tactic| k_extra "ex") => `(tactic| first
  | ((with_reducible refine' ex_assign ?h1 ?h2 ?h3); (case h1 => k_extra "ev"); (case h2 => k_extra "stk"); (case h3 => rfl))
  | ((with_reducible refine' ex_assign2 ?h1 ?h2 ?h3 ?h4 ?h5); (case h1 => k_extra "ev"); (case h2 => k_extra "stk"); (case h3 => k_extra "stk"); (case h4 => rfl); (case h5 => rfl))
  | ((with_reducible refine' ex_return ?h1); (case h1 => k_extra "ev")) | fail "k")
local macro_rules | `(tactic| k_extra "ev") => `(tactic| first | ((with_reducible refine' ev_call_ob ?h1 ?h2 ?h3 ?h4 ?h5 ?h6); (case h2 => k_extra "ev"); (case h1 => assumption); (case h3 => k_extra "evl"); (case h4 => k_extra "cal"); (case h5 => rfl); (case h6 => rfl)) | fail "k")
local macro_rules | `(tactic| k_extra "bool") => `(tactic| first | with_reducible rfl | (simp; done) | (simp; lia) | (simp [*]; done) | fail "k")
local macro_rules | `(tactic| k_extra "ift") => `(tactic| ((refine' ex_ift ?t ?b ?r); (case t => k_extra "tst"); (case b => k_extra "bool")))
local macro_rules | `(tactic| k_extra "iff") => `(tactic| ((refine' ex_iff ?t ?b ?r); (case t => k_extra "tst"); (case b => k_extra "bool")))
local macro_rules | `(tactic| k_extra "evt") => `(tactic| ((refine' ev_ift ?t ?b ?r); (case t => k_extra "tst"); (case b => k_extra "bool")))
local macro_rules | `(tactic| k_extra "evf") => `(tactic| ((refine' ev_iff ?t ?b ?r); (case t => k_extra "tst"); (case b => k_extra "bool")))
local macro_rules | `(tactic| k_extra "bop") => `(tactic| first
  | ((with_reducible refine' bop_addstr ?_); k_extra "side")
  | ((with_reducible refine' bop_mulstr ?_ ?_ ?_) <;> k_extra "side")
  | ((with_reducible refine' bop_addlst ?_); k_extra "side") | fail "k")
local macro_rules | `(tactic| k_extra "getm") => `(tactic| first | with_reducible exact getM_count | with_reducible exact getM_scount | fail "k")
local macro_rules | `(tactic| k_extra "cal") => `(tactic| first | with_reducible exact cal_sum | with_reducible exact cal_count | with_reducible exact cal_scount | fail "k")
local macro_rules | `(tactic| k_extra "tst") => `(tactic| first
  | ((with_reducible refine' tst_chain ?h1 ?h2 ?h3 ?h4 ?h5 ?h6); (case h1 => k_extra "ev"); (case h2 => k_extra "ev"); (case h3 => k_extra "ev"); (case h4 => k_extra "cmp"); (case h5 => k_extra "cmp"); (case h6 => with_unfolding_all rfl)) | fail "k")
local macro_rules | `(tactic| k_extra "ev") => `(tactic| first | ((with_reducible refine' ev_neg ?h1); (case h1 => k_extra "ev")) | fail "k")
local macro_rules | `(tactic| k_extra "cal") => `(tactic| first | ((with_reducible refine' cal_chr ?_ ?_) <;> k_extra "side") | fail "k")
local macro_rules | `(tactic| k_extra "ev") => `(tactic| first
  | ((with_reducible refine' ev_slicelstto ?h1 ?h2 ?h3); (case h1 => k_extra "ev"); (case h2 => k_extra "ev"); (case h3 => k_extra "side"))
  | ((with_reducible refine' ev_dict ?h1 ?h2 ?h3 ?h4 ?h5 ?h6); (case h1 => rfl); (case h2 => decide); (case h3 => rfl); (case h4 => rfl); (case h5 => exact List.cons_ne_nil _ _); (case h6 => exact Nat.le_of_ble_eq_true rfl)) | fail "k")
local macro_rules | `(tactic| k_extra "cmp") => `(tactic| first | with_reducible exact cmp_is_none | with_reducible exact cmp_is_lst | fail "k")
local macro_rules | `(tactic| k_extra "sub") => `(tactic| first | ((with_reducible refine' sub_dct ?_); k_extra "side") | fail "k")

section
section
variable {C : Cst} (hK : C.K = hd.heap_39 C.P)
include hK
theorem spec_div2n1n {n : Nat} {a b m : Int} (h : (Builtin.Int.intBits a : Int) - m ≤ 4000) (hb : b ≠ 0) (hp : Builtin.divisionGoesByPylong a b = false) :
    Cal C (n + 1) (.fn 21) [.int a, .int b, .int m] (.tup [.int (a.fdiv b), .int (a.fmod b)]) := by
  refine cal_fnK (names := ["a", "b", "n"]) hK rfl rfl rfl rfl (binds3 fun _ _ _ => rfl) (by decide) rfl rfl ⟨rfl, rfl, rfl⟩ rfl rfl (by decide) fun L => ?_
  refine exs_ret (ex_if_true ?_ (exs_ret (ex_return ?_)))
  · rw [show true = decide ((Builtin.Int.intBits a : Int) - m ≤ 4000) from (decide_eq_true h).symm]
    k_extra "tst"
  · k_extra "ev"
end
end
section
noncomputable def tab1 : Tab := ⟨34, 30, 32, 4, "_int2digits.<locals>.inner"⟩
noncomputable def tab2 : Tab := ⟨41, 37, 47, 4, "_digits2int.<locals>.inner"⟩
section
variable {C : Cst} (hK : C.K = hd.heap_39 C.P) (hT : C.tabs = [tab2, tab1])
include hK hT
theorem spec_digits2int {n : Nat} {xs : List Int} {w : Nat} (hx : ∀ x ∈ xs, 0 ≤ x ∧ x < 2 ^ w) (hl : xs.length ≤ 4096) (hw : w ≤ 4096) :
    Cal C (n + 20) (.fn 42) [.lst (xs.map .int), .int w] (.int (valD w xs)) := by
  refine cal_fnK (names := ["digits", "n"]) hK rfl rfl rfl rfl (binds2 fun _ _ => rfl) (by decide) rfl rfl ⟨rfl, rfl, rfl⟩ rfl rfl (by decide) fun L => ?_
  refine exs_def (t := tab2) (by rw [hT]; exact List.mem_cons_self ..) rfl rfl rfl rfl rfl rfl rfl rfl (by k_extra "stk") fun q fo doc pm c' ctv oc hfo hoc => ?_
  refine exs_pack (x := "inner") (caps := [("digits", .lst (xs.map .int)), ("n", .int w), ("inner", .ob q fo [(c', oc)] [] [])]) (owns := []) rfl rfl ?_ ?_ ?_ fun cs us cs2 us2 hc hc2 => ?_
  · intro p hp
    simp only [List.mem_cons, List.not_mem_nil, or_false] at hp
    rcases hp with rfl | rfl | rfl <;> exact ⟨rfl, rfl⟩
  · exact fun x h => nomatch h
  · exact cells_def
  obtain ⟨_, o1, v1, _, _, rfl, rfl, e1, d1, _, o2, v2, _, _, rfl, rfl, e2, d2, _, o3, v3, _, _, rfl, rfl, e3, d3, rfl, rfl⟩ := hc
  cases e1; cases e2; cases e3
  obtain ⟨rfl, rfl⟩ := hc2
  have hfd := congrArg Obj.data hfo
  have inner : ∀ k lo hi : Nat, lo < hi → hi ≤ xs.length → hi - lo ≤ 2 ^ k → Cal C (k + 1) (.ob q fo ([(L + 1, o1), (L + 1 + 1, o2), (L + 1 + 1 + 1, o3)] ++ [] ++ [(c', oc)]) (List.map (fun x => x.snd)
            [(Str.ofString "digits", D.lst (List.map D.int xs)), (Str.ofString "n", D.int ↑w), (Str.ofString "inner", D.ob q fo [(c', oc)] [] [])]) [v1, v2, v3])
      [.int lo, .int hi] (.int (valD w ((xs.drop lo).take (hi - lo)))) := by
    intro k
    induction k with
    | zero =>
      intro lo hi h1 h2 h3
      refine cal_clo (names := ["L", "R"]) (fr := [("digits", .val (.lst (xs.map .int)))]) hfd rfl (binds2 fun _ _ => rfl) (by decide) rfl rfl ⟨rfl, rfl, rfl⟩ rfl rfl rfl (by simp [List.pairwise_cons]; lia) ⟨_, _, rfl, by simp, hoc⟩ ?_ ?_ fun L' => ?_
      · intro p hp
        simp only [List.mem_cons, List.not_mem_nil, or_false] at hp
        rcases hp with rfl | rfl | rfl
        · exact ⟨o2, v2, by simp, d2⟩
        · exact ⟨o3, v3, by simp, d3⟩
        · exact ⟨o1, v1, by simp, d1⟩
      · intro p hp
        simp only [List.mem_cons, List.not_mem_nil, or_false] at hp
        subst hp
        refine ⟨rfl, _, _, o1, v1, rfl, rfl, by simp, d1, fun av h r => ?_⟩
        obtain ⟨_, _, e, r1, _⟩ := r.ob_inv.2.2.2.2.inv
        cases e; exact r1
      have e1 : hi = lo + 1 := by simp at h3; lia
      subst e1
      have hlo : lo < xs.length := by lia
      have e2 : (xs.drop lo).take (lo + 1 - lo) = [xs[lo]] := by
        rw [Nat.add_sub_cancel_left, List.drop_eq_getElem_cons hlo]; rfl
      rw [e2]
      have e3 : (xs.map D.int)[(lo : Int).toNat]? = some (.int (valD w [xs[lo]])) := by
        simp [valD, hlo]
      have e4 : (0 : Int) ≤ lo := by lia
      have e5 : (lo : Int) < 2 ^ 63 := by lia
      refine exs_ret ?_
      k_extra "ift"
      refine exs_ret ?_
      k_extra "ex"
    | succ k ih =>
      intro lo hi h1 h2 h3
      by_cases hlt : hi - lo ≤ 2 ^ k
      · exact (ih lo hi h1 h2 hlt).mono (by lia)
      have hk : 0 < 2 ^ k := Nat.pow_pos (by decide)
      have h3' : hi - lo ≤ 2 * 2 ^ k := by rw [Nat.pow_succ] at h3; lia
      refine cal_clo (names := ["L", "R"]) (fr := [("digits", .val (.lst (xs.map .int))), ("n", .val (.int w)), ("inner", .val (.ob q fo ([(L + 1, o1), (L + 1 + 1, o2), (L + 1 + 1 + 1, o3)] ++ [] ++ [(c', oc)]) (List.map (fun x => x.snd)
            [(Str.ofString "digits", D.lst (List.map D.int xs)), (Str.ofString "n", D.int ↑w), (Str.ofString "inner", D.ob q fo [(c', oc)] [] [])]) [v1, v2, v3]))]) hfd rfl (binds2 fun _ _ => rfl) (by decide) rfl rfl ⟨rfl, rfl, rfl⟩ rfl rfl rfl (by simp [List.pairwise_cons]; lia) ⟨_, _, rfl, by simp, hoc⟩ ?_ ?_ fun L' => ?_
      · intro p hp
        simp only [List.mem_cons, List.not_mem_nil, or_false] at hp
        rcases hp with rfl | rfl | rfl
        · exact ⟨o2, v2, by simp, d2⟩
        · exact ⟨o3, v3, by simp, d3⟩
        · exact ⟨o1, v1, by simp, d1⟩
      · intro p hp
        simp only [List.mem_cons, List.not_mem_nil, or_false] at hp
        rcases hp with rfl | rfl | rfl
        · refine ⟨rfl, _, _, o1, v1, rfl, rfl, by simp, d1, fun av h r => ?_⟩
          obtain ⟨_, _, e, r1, _⟩ := r.ob_inv.2.2.2.2.inv
          cases e; exact r1
        · refine ⟨rfl, _, _, o2, v2, rfl, rfl, by simp, d2, fun av h r => ?_⟩
          obtain ⟨_, _, e, r1, hr⟩ := r.ob_inv.2.2.2.2.inv
          cases e
          obtain ⟨_, _, e, r2, _⟩ := hr.inv
          cases e; exact r2
        · refine ⟨rfl, _, _, o3, v3, rfl, rfl, by simp, d3, fun av h r => ?_⟩
          obtain ⟨_, _, e, r1, hr⟩ := r.ob_inv.2.2.2.2.inv
          cases e
          obtain ⟨_, _, e, r2, hr⟩ := hr.inv
          cases e
          obtain ⟨_, _, e, r3, _⟩ := hr.inv
          cases e
          exact (congrArg (Rep C.P av h _) r3.ob_inv.1).mpr r
      obtain ⟨m, hm⟩ : ∃ m, m = (lo + hi) / 2 := ⟨_, rfl⟩
      have m1 : lo < m := by lia
      have m2 : m < hi := by lia
      have i1 := ih m hi m2 h2 (by lia)
      have i2 := ih lo m m1 (by lia) (by lia)
      have hmid : D.int ((((lo : Int) + hi).fdiv (2 ^ (1 : Int).toNat))) = .int m := by
        congr 1; rw [Int.fdiv_eq_ediv_of_nonneg _ (by decide)]; show ((lo : Int) + hi) / 2 = m; lia
      have hsh : D.int (((m : Int) - lo) * w) = .int ((m - lo) * w : Nat) := by congr 1; rw [Int.natCast_mul]; congr 1; lia
      have hmul : IntMulOk ((m : Int) - lo) w := mulOk_left (by lia)
      have s1 : (0 : Int) ≤ ((m - lo) * w : Nat) := by lia
      have s2 : (Builtin.Int.intBits (valD w ((xs.drop m).take (hi - m))) : Int) + ((m - lo) * w : Nat) ≤ 2 ^ 27 := by
        have b1 := valD_lt w ((xs.drop m).take (hi - m)) fun x hx' => hx x (List.mem_of_mem_drop (List.mem_of_mem_take hx'))
        have b2 := valD_nonneg w ((xs.drop m).take (hi - m)) fun x hx' => (hx x (List.mem_of_mem_drop (List.mem_of_mem_take hx'))).1
        have b3 : (valD w ((xs.drop m).take (hi - m))).natAbs < 2 ^ (w * ((xs.drop m).take (hi - m)).length) := by
          have : ((2 ^ (w * ((xs.drop m).take (hi - m)).length) : Nat) : Int) = 2 ^ (w * ((xs.drop m).take (hi - m)).length) := by simp
          lia
        have b4 := intBits_le b3
        have b5 : ((xs.drop m).take (hi - m)).length ≤ 4096 := by rw [List.length_take, List.length_drop]; lia
        have b6 : w * ((xs.drop m).take (hi - m)).length ≤ 4096 * 4096 := Nat.mul_le_mul hw b5
        have b7 : (m - lo) * w ≤ 4096 * 4096 := Nat.mul_le_mul (by lia) hw
        lia
      have s0 : (0 : Int) ≤ 1 := by decide
      refine exs_next (by k_extra "iff"; exact exs_nil) ?_
      refine exs_next (ex_assign (d := .int m) (ev_eq (by k_extra "ev") hmid) (by k_extra "stk") rfl) ?_
      refine exs_next (ex_assign (d := .int ((m - lo) * w : Nat)) (ev_eq (by k_extra "ev") hsh) (by k_extra "stk") rfl) ?_
      refine exs_ret (ex_return ?_)
      refine ev_eq (by k_extra "ev") ?_
      rw [valD_split w xs lo m hi (by lia) (by lia) h2, Int.toNat_natCast, Nat.mul_comm (m - lo) w, Int.mul_comm, Int.add_comm]
  have hlx : ((xs.map D.int).length : Int) < 2 ^ 63 := by rw [List.length_map]; lia
  refine exs_ret (ex_return ?_)
  by_cases he : xs = []
  · subst he
    k_extra "evf"
    exact ev_int
  · have hpos : 0 < xs.length := List.length_pos_iff.mpr he
    have c0 := (inner 12 0 xs.length hpos (Nat.le_refl _) (by lia)).mono (n := n + 19) (by lia)
    have c1 := cal_eq c0 (d' := .int (valD w xs)) (by simp)
    rw [show ((xs.length : Nat) : Int) = ((xs.map D.int).length : Nat) by simp] at c1
    k_extra "evt"
    k_extra "ev"
end
end
section
section
variable {C : Cst} (hK : C.K = hd.heap_39 C.P) (hT : C.tabs = [tab2, tab1])
include hK hT
theorem spec_int2digits {n : Nat} {a : Int} {w : Nat} (h0 : 0 ≤ a) (hw0 : 0 < w) (hw : w ≤ 8192) (hb : Builtin.Int.intBits a ≤ 8192) :
    Cal C (n + 20) (.fn 35) [.int a, .int w] (.lst ((digs w ((Builtin.Int.intBits a + w - 1) / w) a).map .int)) := by
  obtain ⟨K, hKd⟩ : ∃ K, K = (Builtin.Int.intBits a + w - 1) / w := ⟨_, rfl⟩
  rw [← hKd]
  refine cal_fnK (names := ["a", "n"]) hK rfl rfl rfl rfl (binds2 fun _ _ => rfl) (by decide) rfl rfl ⟨rfl, rfl, rfl⟩ rfl rfl (by decide) fun L => ?_
  have hKi : ((Builtin.Int.intBits a : Int) + w - 1).fdiv w = K := by
    rw [Int.fdiv_eq_ediv_of_nonneg _ (by lia), hKd]
    rw [show ((Builtin.Int.intBits a : Int) + w - 1) = ((Builtin.Int.intBits a + w - 1 : Nat) : Int) by lia]
    simp
  have hKle : K ≤ 8192 := by rw [hKd]; exact Nat.le_of_lt_succ (Nat.div_lt_of_lt_mul (by have : 1 * 8193 ≤ w * 8193 := Nat.mul_le_mul_right _ hw0; lia))
  have hwn : (w : Int) ≠ 0 := by lia
  have hpl : Builtin.divisionGoesByPylong ((Builtin.Int.intBits a : Int) + w - 1) w = false := PyProof.noPylong_small (by lia)
  refine exs_next (ex_assign_own (evo_mulK (K := K) ev_int (ev_eq (by k_extra "ev") (congrArg D.int hKi)) (by lia) rfl) (by k_extra "stk") rfl) ?_
  refine exs_def (t := tab1) (by rw [hT]; exact List.mem_cons_of_mem _ (List.mem_cons_self ..)) rfl rfl rfl rfl rfl rfl rfl rfl (by k_extra "stk") fun q fo doc pm c' ctv oc hfo hoc => ?_
  refine exs_pack (x := "inner") (caps := [("n", .int w), ("inner", .ob q fo [(c', oc)] [] [])]) (owns := ["a_digits"]) rfl rfl ?_ ?_ ?_ fun cs us cs2 us2 hc hc2 => ?_
  · intro p hp
    simp only [List.mem_cons, List.not_mem_nil, or_false] at hp
    rcases hp with rfl | rfl <;> exact ⟨rfl, rfl⟩
  · intro x hx
    simp only [List.mem_cons, List.not_mem_nil, or_false] at hx
    subst hx
    exact ⟨⟨_, rfl⟩, rfl⟩
  · exact cells_def
  obtain ⟨_, o1, v1, _, _, rfl, rfl, e1, d1, _, o2, v2, _, _, rfl, rfl, e2, d2, rfl, rfl⟩ := hc
  cases e1; cases e2
  obtain ⟨_, o3, v3, _, _, rfl, rfl, e3, d3, rfl, rfl⟩ := hc2
  cases e3
  have hfd := congrArg Obj.data hfo
  have inner : ∀ (k lo hi : Nat) (x : Int) (xs : List Int), lo < hi → hi ≤ xs.length → hi - lo ≤ 2 ^ k → 0 ≤ x → x < 2 ^ (w * (hi - lo)) → xs.length ≤ 8192 →
      CalW C (k + 1) (L + 1 + 1) (.ob q fo ([(L + 1, o1), (L + 1 + 1 + 1, o2)] ++ [(L + 1 + 1, o3)] ++ [(c', oc)]) (List.map (fun x => x.snd) [(Str.ofString "n", D.int ↑w), (Str.ofString "inner", D.ob q fo [(c', oc)] [] [])]) [v1, v2])
      [.int x, .int lo, .int hi] xs (xs.take lo ++ digs w (hi - lo) x ++ xs.drop hi) := by
    intro k
    induction k with
    | zero =>
      intro lo hi x xs h1 h2 h3 h4 h5 h6
      refine calw_clo (y := "a_digits") (names := ["x", "L", "R"]) (fr := []) hfd rfl (binds3 fun _ _ _ => rfl) (by decide) rfl rfl ⟨rfl, rfl, rfl⟩ rfl rfl rfl (by simp [List.pairwise_cons]) ⟨_, _, rfl, by simp, hoc⟩ ?_ rfl rfl (fun _ h => nomatch h) fun L' => ?_
      · intro p hp
        simp only [List.mem_cons, List.not_mem_nil, or_false] at hp
        rcases hp with rfl | rfl | rfl
        · exact ⟨o1, v1, by simp, d1⟩
        · exact ⟨o2, v2, by simp, d2⟩
        · exact ⟨o3, v3, by simp, d3⟩
      have e1 : hi = lo + 1 := by simp at h3; lia
      subst e1
      rw [Nat.add_sub_cancel_left] at h5 ⊢
      rw [Nat.mul_one] at h5
      rw [digs_one w h4 h5]
      have e2 : ((xs.map D.int).set (lo : Int).toNat (.int x)) = (xs.take lo ++ [x] ++ xs.drop (lo + 1)).map D.int := by
        rw [Int.toNat_natCast, List.set_eq_take_append_cons_drop, if_pos (by simp; lia)]
        simp
      refine exsw_ifret (by k_extra "tst") (by k_extra "bool") (ex_setown (i := lo) rfl (by k_extra "ev") (by k_extra "ev") (by lia) (by lia) (by simp; lia)) ?_
      rw [e2]; rfl
    | succ k ih =>
      intro lo hi x xs h1 h2 h3 h4 h5 h6
      by_cases hlt : hi - lo ≤ 2 ^ k
      · exact (ih lo hi x xs h1 h2 hlt h4 h5 h6).mono (by lia)
      have hk : 0 < 2 ^ k := Nat.pow_pos (by decide)
      have h3' : hi - lo ≤ 2 * 2 ^ k := by rw [Nat.pow_succ] at h3; lia
      obtain ⟨m, hm⟩ : ∃ m, m = (lo + hi) / 2 := ⟨_, rfl⟩
      have m1 : lo < m := by lia
      have m2 : m < hi := by lia
      obtain ⟨S, hS⟩ : ∃ S, S = w * (m - lo) := ⟨_, rfl⟩
      have hp := pow_pos' S
      have hsum : w * (hi - lo) = S + w * (hi - m) := by rw [hS, ← Nat.mul_add]; congr 1; lia
      have x1 : 0 ≤ x % 2 ^ S := Int.emod_nonneg _ (Int.ne_of_gt hp)
      have x2 : x % 2 ^ S < 2 ^ (w * (m - lo)) := by rw [← hS]; exact Int.emod_lt_of_pos _ hp
      have x3 : 0 ≤ x / 2 ^ S := Int.ediv_nonneg h4 (Int.le_of_lt hp)
      have x4 : x / 2 ^ S < 2 ^ (w * (hi - m)) := Int.ediv_lt_of_lt_mul hp (by rw [Int.mul_comm, ← Int.pow_add, ← hsum]; exact h5)
      have i1 := ih lo m (x % 2 ^ S) xs m1 (by lia) (by lia) x1 x2 h6
      have hl1 : (xs.take lo ++ digs w (m - lo) (x % 2 ^ S) ++ xs.drop m).length = xs.length := by simp [digs_length]; lia
      have i2 := ih m hi (x / 2 ^ S) (xs.take lo ++ digs w (m - lo) (x % 2 ^ S) ++ xs.drop m) m2 (by rw [hl1]; exact h2) (by lia) x3 x4 (by rw [hl1]; exact h6)
      have efin : (xs.take lo ++ digs w (m - lo) (x % 2 ^ S) ++ xs.drop m).take m ++ digs w (hi - m) (x / 2 ^ S) ++ (xs.take lo ++ digs w (m - lo) (x % 2 ^ S) ++ xs.drop m).drop hi = xs.take lo ++ digs w (hi - lo) x ++ xs.drop hi := by
        have el : (xs.take lo ++ digs w (m - lo) (x % 2 ^ S)).length = m := by simp [digs_length]; lia
        rw [List.take_append_of_le_length (by lia), List.take_of_length_le (by lia), List.drop_append, List.drop_eq_nil_of_le (by lia), List.nil_append, el, List.drop_drop]
        rw [show hi - lo = (m - lo) + (hi - m) by lia, digs_split w (m - lo) (hi - m), ← hS, show m + (hi - m) = hi by lia]
        simp
      rw [efin] at i2
      refine calw_clo (y := "a_digits") (names := ["x", "L", "R"]) (fr := [("n", .val (.int w)), ("inner", .val (.ob q fo ([(L + 1, o1), (L + 1 + 1 + 1, o2)] ++ [(L + 1 + 1, o3)] ++ [(c', oc)]) (List.map (fun x => x.snd) [(Str.ofString "n", D.int ↑w), (Str.ofString "inner", D.ob q fo [(c', oc)] [] [])]) [v1, v2]))]) hfd rfl (binds3 fun _ _ _ => rfl) (by decide) rfl rfl ⟨rfl, rfl, rfl⟩ rfl rfl rfl (by simp [List.pairwise_cons]) ⟨_, _, rfl, by simp, hoc⟩ ?_ rfl rfl ?_ fun L' => ?_
      · intro p hp
        simp only [List.mem_cons, List.not_mem_nil, or_false] at hp
        rcases hp with rfl | rfl | rfl
        · exact ⟨o1, v1, by simp, d1⟩
        · exact ⟨o2, v2, by simp, d2⟩
        · exact ⟨o3, v3, by simp, d3⟩
      · intro p hp
        simp only [List.mem_cons, List.not_mem_nil, or_false] at hp
        rcases hp with rfl | rfl
        · refine ⟨rfl, _, _, o1, v1, rfl, rfl, by simp, d1, fun av h r => ?_⟩
          obtain ⟨_, _, e, r1, _⟩ := r.ob_inv.2.2.2.2.inv
          cases e; exact r1
        · refine ⟨rfl, _, _, o2, v2, rfl, rfl, by simp, d2, fun av h r => ?_⟩
          obtain ⟨_, _, e, r1, hr⟩ := r.ob_inv.2.2.2.2.inv
          cases e
          obtain ⟨_, _, e, r2, _⟩ := hr.inv
          cases e
          exact (congrArg (Rep C.P av h _) r2.ob_inv.1).mpr r
      have hmid : D.int ((((lo : Int) + hi).fdiv (2 ^ (1 : Int).toNat))) = .int m := by
        congr 1; rw [Int.fdiv_eq_ediv_of_nonneg _ (by decide)]; show ((lo : Int) + hi) / 2 = m; lia
      have hsh : D.int (((m : Int) - lo) * w) = .int (S : Nat) := by congr 1; rw [hS, Int.natCast_mul, Int.mul_comm]; congr 1; lia
      have hup : D.int (x.fdiv (2 ^ ((S : Nat) : Int).toNat)) = .int (x / 2 ^ S) := by congr 1; rw [Int.toNat_natCast, Int.fdiv_eq_ediv_of_nonneg _ (Int.le_of_lt hp)]
      have hlow : D.int (Builtin.bitXor x (x / 2 ^ S * 2 ^ ((S : Nat) : Int).toNat)) = .int (x % 2 ^ S) := by congr 1; rw [Int.toNat_natCast]; exact xor_low h4 S
      have hmul : IntMulOk ((m : Int) - lo) w := mulOk_left (by lia)
      have s0 : (0 : Int) ≤ 1 := by decide
      have s1 : (0 : Int) ≤ (S : Nat) := by lia
      have s2 : (Builtin.Int.intBits (x / 2 ^ S) : Int) + (S : Nat) ≤ 2 ^ 27 := by
        have b3 : (x / 2 ^ S).natAbs < 2 ^ (w * (hi - m)) := by
          have : ((2 ^ (w * (hi - m)) : Nat) : Int) = 2 ^ (w * (hi - m)) := by simp
          lia
        have b4 := intBits_le b3
        have b5 : w * (hi - lo) ≤ 8192 * 8192 := Nat.mul_le_mul hw (by lia)
        lia
      refine exsw_next (by k_extra "iff"; exact exs_nil) ?_
      refine exsw_next (ex_assign (d := .int m) (ev_eq (by k_extra "ev") hmid) (by k_extra "stk") rfl) ?_
      refine exsw_next (ex_assign (d := .int (S : Nat)) (ev_eq (by k_extra "ev") hsh) (by k_extra "stk") rfl) ?_
      refine exsw_next (ex_assign (d := .int (x / 2 ^ S)) (ev_eq (by k_extra "ev") hup) (by k_extra "stk") rfl) ?_
      refine exsw_next (ex_assign (d := .int (x % 2 ^ S)) (ev_eq (by k_extra "ev") hlow) (by k_extra "stk") rfl) ?_
      refine exsw_next (ex_call_w (x := "a_digits") hfd (by k_extra "ev") (by k_extra "evl") rfl (fun e => nomatch (show some NameKind.free = some NameKind.local from e)) rfl i1) ?_
      refine exsw_next (ex_call_w (x := "a_digits") hfd (by k_extra "ev") (by k_extra "evl") rfl (fun e => nomatch (show some NameKind.free = some NameKind.local from e)) rfl i2) ?_
      exact exsw_nil rfl
  have hlr : ((List.map D.int (List.replicate K 0)).length : Int) < 2 ^ 63 := by simp; lia
  have hap : a < 2 ^ (w * K) := by
    have b1 := lt_two_pow_intBits h0
    have b2 : Builtin.Int.intBits a ≤ w * K := by
      rw [hKd]
      have := Nat.div_add_mod (Builtin.Int.intBits a + w - 1) w
      have := Nat.mod_lt (Builtin.Int.intBits a + w - 1) hw0
      lia
    have b3 : (2 : Int) ^ Builtin.Int.intBits a ≤ 2 ^ (w * K) := pow2_le b2
    lia
  by_cases hz : a = 0
  · subst hz
    refine exs_next (by k_extra "iff"; exact exs_nil) ?_
    refine exs_freeze (x := "a_digits") rfl ?_
    rw [digs_zero]
    refine exs_ret (by k_extra "ex")
  · have hK0 : 0 < K := by
      rcases Nat.eq_zero_or_pos K with h | h
      · subst h; simp at hap; lia
      · exact h
    have c0 := (inner 13 0 K a (List.replicate K 0) hK0 (by simp) (by lia) h0 hap (by simpa using hKle)).mono (m := n + 19) (by lia)
    rw [List.take_zero, List.nil_append, List.drop_of_length_le (by simp), List.append_nil, Nat.sub_zero] at c0
    have c1 : (K : Int) = ((List.map D.int (List.replicate K 0)).length : Nat) := by simp
    rw [c1, show ((0 : Nat) : Int) = 0 from rfl] at c0
    refine exs_next (ex_ift (by k_extra "tst") (by k_extra "bool") (exs_next (ex_call_w (x := "a_digits") hfd (by k_extra "ev") (evl_cons (by k_extra "ev") (evl_cons (by k_extra "ev") (evl_cons (ev_own (x := "a_digits") (d := .int ((List.map D.int (List.replicate K 0)).length : Nat)) rfl True.intro (by k_extra "ev")) evl_nil rfl) rfl) rfl) rfl (fun e => nomatch (show some NameKind.cell = some NameKind.local from e)) rfl c0) exs_nil)) ?_
    refine exs_freeze (x := "a_digits") rfl (exs_ret (by k_extra "ex"))
end
end
section
section
variable {C : Cst} (hK : C.K = hd.heap_39 C.P) (hT : C.tabs = [tab2, tab1])
include hK hT
theorem spec_divmod_pos {n : Nat} {a b : Int} (h0 : 0 ≤ a) (hb : 0 < b) (hab : Builtin.Int.intBits a ≤ 8192) (hbb : Builtin.Int.intBits b ≤ 4000) (hqb : Builtin.Int.intBits a ≤ 4096 * Builtin.Int.intBits b - Builtin.Int.intBits b) :
    Cal C (n + 30) (.fn 49) [.int a, .int b] (.tup [.int (a / b), .int (a % b)]) := by
  obtain ⟨w, hw⟩ : ∃ w, w = Builtin.Int.intBits b := ⟨_, rfl⟩
  have hbw : b < 2 ^ w := by rw [hw]; exact lt_two_pow_intBits (Int.le_of_lt hb)
  have hw0 : 0 < w := by
    rcases Nat.eq_zero_or_pos w with h | h
    · rw [h] at hbw; simp at hbw; lia
    · exact h
  obtain ⟨K, hKd⟩ : ∃ K, K = (Builtin.Int.intBits a + w - 1) / w := ⟨_, rfl⟩
  have hap : a < 2 ^ (w * K) := by
    have b1 := lt_two_pow_intBits h0
    have b2 : Builtin.Int.intBits a ≤ w * K := by
      rw [hKd]
      have := Nat.div_add_mod (Builtin.Int.intBits a + w - 1) w
      have := Nat.mod_lt (Builtin.Int.intBits a + w - 1) hw0
      lia
    have b3 := pow2_le b2
    lia
  have hKle : K ≤ 4096 := by
    rw [hKd]
    refine Nat.le_of_lt_succ (Nat.div_lt_of_lt_mul ?_)
    rw [← hw] at hqb
    have : w * 4097 = 4096 * w + w := by lia
    lia
  obtain ⟨X, hX⟩ : ∃ X, X = digs w K a := ⟨_, rfl⟩
  have hXr : ∀ x ∈ X, 0 ≤ x ∧ x < 2 ^ w := by rw [hX]; exact digs_range w K a
  have hXl : X.length = K := by rw [hX]; exact digs_length w K a
  have hXv : valD w X = a := by rw [hX]; exact valD_digs w K a h0 hap
  obtain ⟨g1, g2, g3, g4, g5⟩ := dvRun_spec w b hb (Int.le_of_lt hbw) X hXr
  rw [hXv] at g1
  obtain ⟨r1, r2⟩ := div_of hb g1 g2 g3
  have sd := spec_int2digits hK hT (n := n + 9) (a := a) (w := w) h0 hw0 (by lia) hab
  rw [← hKd, ← hX] at sd
  refine cal_fnK (names := ["a", "b"]) hK rfl rfl rfl rfl (binds2 fun _ _ => rfl) (by decide) rfl rfl ⟨rfl, rfl, rfl⟩ rfl rfl (by decide) fun L => ?_
  refine exs_next (ex_assign (d := .int w) (ev_eq (by k_extra "ev") (by rw [hw])) (by k_extra "stk") rfl) ?_
  refine exs_next (by k_extra "ex") ?_
  refine exs_next (by k_extra "ex") ?_
  refine exs_next (ex_assign_own (ds := []) (evo_list evl_nil) (by k_extra "stk") rfl) ?_
  refine exs_next (ex_for (items := (X.map .int).reverse) (fun i => [("q_digits", .own ((dvRun w b (X.reverse.take i)).2.map .int)), ("r", .val (.int (dvRun w b (X.reverse.take i)).1)), ("n", .val (.int w)), ("b", .val (.int b))])
    (evit_call (fd := .ty "reversed") (by k_extra "ev") True.intro (by k_extra "evl") calit_reversed) (Knows.look ⟨rfl, rfl, rfl, rfl, trivial⟩) fun i d hd => ?_) ?_
  · rw [← List.map_reverse, List.getElem?_map, Option.map_eq_some_iff] at hd
    obtain ⟨x, hx, rfl⟩ := hd
    have hi : i < X.length := by have := (List.getElem?_eq_some_iff.mp hx).1; simpa using this
    have htk : X.reverse.take (i + 1) = X.reverse.take i ++ [x] := by rw [List.take_succ, hx]; rfl
    refine ⟨_, bnd_name (.inl rfl), ?_⟩
    have hsp := dvRun_spec w b hb (Int.le_of_lt hbw) (X.reverse.take i).reverse fun y hy => hXr y (by
      have := List.mem_of_mem_take (List.mem_reverse.mp hy); exact List.mem_reverse.mp this)
    rw [List.reverse_reverse] at hsp
    obtain ⟨_, q2, q3, q4, q5⟩ := hsp
    rw [htk, dvRun_snoc]
    generalize dvRun w b (X.reverse.take i) = s at q2 q3 q4 q5
    obtain ⟨r, qs⟩ := s
    dsimp only at q2 q3 q4 q5
    have hxr := hXr x (List.mem_reverse.mp (List.mem_of_getElem? hx))
    have hp := pow_pos' w
    have n1 : 0 ≤ r * 2 ^ w + x := Int.add_nonneg (Int.mul_nonneg q2 (Int.le_of_lt hp)) hxr.1
    have n2 : r * 2 ^ w + x < 2 ^ (w + w) := by
      have : (r + 1) * 2 ^ w ≤ b * 2 ^ w := Int.mul_le_mul_of_nonneg_right (by lia) (Int.le_of_lt hp)
      have t2 : b * 2 ^ w ≤ 2 ^ w * 2 ^ w := Int.mul_le_mul_of_nonneg_right (Int.le_of_lt hbw) (Int.le_of_lt hp)
      rw [Int.add_mul, Int.one_mul] at this
      rw [Int.pow_add]; lia
    have hbits : Builtin.Int.intBits (r * 2 ^ w + x) ≤ w + w := intBits_le (by
      have : ((2 ^ (w + w) : Nat) : Int) = 2 ^ (w + w) := by simp
      lia)
    have hbits2 : Builtin.Int.intBits r ≤ w := intBits_le (by
      have : ((2 ^ w : Nat) : Int) = 2 ^ w := by simp
      lia)
    have hw4 : w ≤ 4000 := by lia
    have s1 := spec_div2n1n (C := C) hK (n := n + 28) (a := r * 2 ^ w + x) (b := b) (m := w) (by lia) (by lia) (PyProof.noPylong_of_log2 (by
      have h1 : b.natAbs < 2 ^ 4000 := by
        have h2 := pow2_le hw4
        have h3 : ((2 ^ 4000 : Nat) : Int) = 2 ^ 4000 := by simp
        lia
      have := (Nat.log2_lt (n := b.natAbs) (k := 4000) (by lia)).mpr h1
      lia))
    rw [Int.fdiv_eq_ediv_of_nonneg _ (Int.le_of_lt hb), Int.fmod_eq_emod_of_nonneg _ (Int.le_of_lt hb)] at s1
    have e1 : r * 2 ^ w + x = r * 2 ^ (w : Int).toNat + x := by rw [Int.toNat_natCast]
    have hs0 : (0 : Int) ≤ w := by lia
    have hs1 : (Builtin.Int.intBits r : Int) + w ≤ 2 ^ 27 := by lia
    rw [e1] at s1
    have hql : (qs.map D.int).length ≤ sizeLine := by
      rw [List.length_map, q5, List.length_reverse, List.length_take, List.length_reverse, hXl]
      have : sizeLine = 16777216 := rfl
      lia
    refine exs_to (exs_next (by k_extra "ex") (exs_next (ex_append rfl (by k_extra "ev") hql) exs_nil)) ⟨?_, rfl, rfl, rfl, trivial⟩
    · simp [dvStep]
  have hlen : (X.map D.int).reverse.length = X.length := by simp
  rw [hlen, show X.reverse.take X.length = X.reverse from List.take_of_length_le (by simp)]
  have hql2 : ((dvRun w b X.reverse).2.map D.int).length ≤ sizeLine := by
    rw [List.length_map, g5, hXl]
    have : sizeLine = 16777216 := rfl
    lia
  refine exs_next (ex_reverse rfl hql2) ?_
  refine exs_freeze (x := "q_digits") rfl ?_
  rw [← List.map_reverse]
  have sv := spec_digits2int hK hT (n := n + 9) (xs := (dvRun w b X.reverse).2.reverse) (w := w) (fun x hx => g4 x (List.mem_reverse.mp hx)) (by rw [List.length_reverse, g5]; lia) (by lia)
  refine exs_next (by k_extra "ex") ?_
  rw [← r1, ← r2]
  exact exs_ret (by k_extra "ex")
end
end
section
noncomputable def Tcd : List (Nat × List Nat) := [(38, [38, 97, 109, 112, 59]), (60, [38, 108, 116, 59]), (62, [38, 103, 116, 59])]
noncomputable def Tat : List (Nat × List Nat) := [(38, [38, 97, 109, 112, 59]), (60, [38, 108, 116, 59]), (62, [38, 103, 116, 59]), (34, [38, 113, 117, 111, 116, 59]), (13, [38, 35, 49, 51, 59]), (10, [38, 35, 49, 48, 59]), (9, [38, 35, 48, 57, 59])]
noncomputable def Tht : List (Nat × List Nat) := [(38, [38, 97, 109, 112, 59]), (62, [38, 103, 116, 59]), (34, [38, 113, 117, 111, 116, 59])]
noncomputable def Tcc : List (Nat × List Nat) := [(38, [38, 97, 109, 112, 59]), (60, [38, 108, 116, 59]), (62, [38, 103, 116, 59]), (13, [38, 35, 120, 68, 59])]
noncomputable def Tac : List (Nat × List Nat) := [(38, [38, 97, 109, 112, 59]), (60, [38, 108, 116, 59]), (34, [38, 113, 117, 111, 116, 59]), (9, [38, 35, 120, 57, 59]), (10, [38, 35, 120, 65, 59]), (13, [38, 35, 120, 68, 59])]
section
variable {C : Cst} (hK : C.K = hd.heap_39 C.P)
include hK
theorem spec_cdata {n : Nat} {l : List Nat} (hl : l.length ≤ 100000) : Cal C (n + 2) (.fn 63) [.str (Tx l)] (.str (Tx (escT Tcd l))) := by
  refine cal_fnK (names := ["text"]) hK rfl rfl rfl rfl (binds1 fun _ => rfl) (by decide) rfl rfl ⟨rfl, rfl, rfl⟩ rfl rfl (by decide) fun L => ?_
  refine exs_ret (ex_try_ret ?_)
  refine exs_next (ex_escape (x := "text") (T := []) (l := l) (by rw [escT_nil]; rfl) rfl (c := 38) (z := [38, 97, 109, 112, 59]) rfl rfl (by decide) (by decide) (by decide) (by decide) hl) ?_
  refine exs_next (ex_escape (x := "text") (T := [(38, [38, 97, 109, 112, 59])]) (l := l) rfl rfl (c := 60) (z := [38, 108, 116, 59]) rfl rfl (by decide) (by decide) (by decide) (by decide) hl) ?_
  refine exs_next (ex_escape (x := "text") (T := [(38, [38, 97, 109, 112, 59]), (60, [38, 108, 116, 59])]) (l := l) rfl rfl (c := 62) (z := [38, 103, 116, 59]) rfl rfl (by decide) (by decide) (by decide) (by decide) hl) ?_
  exact exs_ret (ex_return (ev_eq (by k_extra "ev") rfl))
theorem spec_attrib {n : Nat} {l : List Nat} (hl : l.length ≤ 100000) : Cal C (n + 2) (.fn 70) [.str (Tx l)] (.str (Tx (escT Tat l))) := by
  refine cal_fnK (names := ["text"]) hK rfl rfl rfl rfl (binds1 fun _ => rfl) (by decide) rfl rfl ⟨rfl, rfl, rfl⟩ rfl rfl (by decide) fun L => ?_
  refine exs_ret (ex_try_ret ?_)
  refine exs_next (ex_escape (x := "text") (T := []) (l := l) (by rw [escT_nil]; rfl) rfl (c := 38) (z := [38, 97, 109, 112, 59]) rfl rfl (by decide) (by decide) (by decide) (by decide) hl) ?_
  refine exs_next (ex_escape (x := "text") (T := [(38, [38, 97, 109, 112, 59])]) (l := l) rfl rfl (c := 60) (z := [38, 108, 116, 59]) rfl rfl (by decide) (by decide) (by decide) (by decide) hl) ?_
  refine exs_next (ex_escape (x := "text") (T := [(38, [38, 97, 109, 112, 59]), (60, [38, 108, 116, 59])]) (l := l) rfl rfl (c := 62) (z := [38, 103, 116, 59]) rfl rfl (by decide) (by decide) (by decide) (by decide) hl) ?_
  refine exs_next (ex_escape (x := "text") (T := [(38, [38, 97, 109, 112, 59]), (60, [38, 108, 116, 59]), (62, [38, 103, 116, 59])]) (l := l) rfl rfl (c := 34) (z := [38, 113, 117, 111, 116, 59]) rfl rfl (by decide) (by decide) (by decide) (by decide) hl) ?_
  refine exs_next (ex_escape (x := "text") (T := [(38, [38, 97, 109, 112, 59]), (60, [38, 108, 116, 59]), (62, [38, 103, 116, 59]), (34, [38, 113, 117, 111, 116, 59])]) (l := l) rfl rfl (c := 13) (z := [38, 35, 49, 51, 59]) rfl rfl (by decide) (by decide) (by decide) (by decide) hl) ?_
  refine exs_next (ex_escape (x := "text") (T := [(38, [38, 97, 109, 112, 59]), (60, [38, 108, 116, 59]), (62, [38, 103, 116, 59]), (34, [38, 113, 117, 111, 116, 59]), (13, [38, 35, 49, 51, 59])]) (l := l) rfl rfl (c := 10) (z := [38, 35, 49, 48, 59]) rfl rfl (by decide) (by decide) (by decide) (by decide) hl) ?_
  refine exs_next (ex_escape (x := "text") (T := [(38, [38, 97, 109, 112, 59]), (60, [38, 108, 116, 59]), (62, [38, 103, 116, 59]), (34, [38, 113, 117, 111, 116, 59]), (13, [38, 35, 49, 51, 59]), (10, [38, 35, 49, 48, 59])]) (l := l) rfl rfl (c := 9) (z := [38, 35, 48, 57, 59]) rfl rfl (by decide) (by decide) (by decide) (by decide) hl) ?_
  exact exs_ret (ex_return (ev_eq (by k_extra "ev") rfl))
theorem spec_html {n : Nat} {l : List Nat} (hl : l.length ≤ 100000) : Cal C (n + 2) (.fn 77) [.str (Tx l)] (.str (Tx (escT Tht l))) := by
  refine cal_fnK (names := ["text"]) hK rfl rfl rfl rfl (binds1 fun _ => rfl) (by decide) rfl rfl ⟨rfl, rfl, rfl⟩ rfl rfl (by decide) fun L => ?_
  refine exs_ret (ex_try_ret ?_)
  refine exs_next (ex_escape (x := "text") (T := []) (l := l) (by rw [escT_nil]; rfl) rfl (c := 38) (z := [38, 97, 109, 112, 59]) rfl rfl (by decide) (by decide) (by decide) (by decide) hl) ?_
  refine exs_next (ex_escape (x := "text") (T := [(38, [38, 97, 109, 112, 59])]) (l := l) rfl rfl (c := 62) (z := [38, 103, 116, 59]) rfl rfl (by decide) (by decide) (by decide) (by decide) hl) ?_
  refine exs_next (ex_escape (x := "text") (T := [(38, [38, 97, 109, 112, 59]), (62, [38, 103, 116, 59])]) (l := l) rfl rfl (c := 34) (z := [38, 113, 117, 111, 116, 59]) rfl rfl (by decide) (by decide) (by decide) (by decide) hl) ?_
  exact exs_ret (ex_return (ev_eq (by k_extra "ev") rfl))
theorem spec_cdatac {n : Nat} {l : List Nat} (hl : l.length ≤ 100000) : Cal C (n + 2) (.fn 84) [.str (Tx l)] (.str (Tx (escT Tcc l))) := by
  refine cal_fnK (names := ["text"]) hK rfl rfl rfl rfl (binds1 fun _ => rfl) (by decide) rfl rfl ⟨rfl, rfl, rfl⟩ rfl rfl (by decide) fun L => ?_
  refine exs_ret (ex_try_ret ?_)
  refine exs_next (ex_escape (x := "text") (T := []) (l := l) (by rw [escT_nil]; rfl) rfl (c := 38) (z := [38, 97, 109, 112, 59]) rfl rfl (by decide) (by decide) (by decide) (by decide) hl) ?_
  refine exs_next (ex_escape (x := "text") (T := [(38, [38, 97, 109, 112, 59])]) (l := l) rfl rfl (c := 60) (z := [38, 108, 116, 59]) rfl rfl (by decide) (by decide) (by decide) (by decide) hl) ?_
  refine exs_next (ex_escape (x := "text") (T := [(38, [38, 97, 109, 112, 59]), (60, [38, 108, 116, 59])]) (l := l) rfl rfl (c := 62) (z := [38, 103, 116, 59]) rfl rfl (by decide) (by decide) (by decide) (by decide) hl) ?_
  refine exs_next (ex_escape (x := "text") (T := [(38, [38, 97, 109, 112, 59]), (60, [38, 108, 116, 59]), (62, [38, 103, 116, 59])]) (l := l) rfl rfl (c := 13) (z := [38, 35, 120, 68, 59]) rfl rfl (by decide) (by decide) (by decide) (by decide) hl) ?_
  exact exs_ret (ex_return (ev_eq (by k_extra "ev") rfl))
theorem spec_attribc {n : Nat} {l : List Nat} (hl : l.length ≤ 100000) : Cal C (n + 2) (.fn 91) [.str (Tx l)] (.str (Tx (escT Tac l))) := by
  refine cal_fnK (names := ["text"]) hK rfl rfl rfl rfl (binds1 fun _ => rfl) (by decide) rfl rfl ⟨rfl, rfl, rfl⟩ rfl rfl (by decide) fun L => ?_
  refine exs_ret (ex_try_ret ?_)
  refine exs_next (ex_escape (x := "text") (T := []) (l := l) (by rw [escT_nil]; rfl) rfl (c := 38) (z := [38, 97, 109, 112, 59]) rfl rfl (by decide) (by decide) (by decide) (by decide) hl) ?_
  refine exs_next (ex_escape (x := "text") (T := [(38, [38, 97, 109, 112, 59])]) (l := l) rfl rfl (c := 60) (z := [38, 108, 116, 59]) rfl rfl (by decide) (by decide) (by decide) (by decide) hl) ?_
  refine exs_next (ex_escape (x := "text") (T := [(38, [38, 97, 109, 112, 59]), (60, [38, 108, 116, 59])]) (l := l) rfl rfl (c := 34) (z := [38, 113, 117, 111, 116, 59]) rfl rfl (by decide) (by decide) (by decide) (by decide) hl) ?_
  refine exs_next (ex_escape (x := "text") (T := [(38, [38, 97, 109, 112, 59]), (60, [38, 108, 116, 59]), (34, [38, 113, 117, 111, 116, 59])]) (l := l) rfl rfl (c := 9) (z := [38, 35, 120, 57, 59]) rfl rfl (by decide) (by decide) (by decide) (by decide) hl) ?_
  refine exs_next (ex_escape (x := "text") (T := [(38, [38, 97, 109, 112, 59]), (60, [38, 108, 116, 59]), (34, [38, 113, 117, 111, 116, 59]), (9, [38, 35, 120, 57, 59])]) (l := l) rfl rfl (c := 10) (z := [38, 35, 120, 65, 59]) rfl rfl (by decide) (by decide) (by decide) (by decide) hl) ?_
  refine exs_next (ex_escape (x := "text") (T := [(38, [38, 97, 109, 112, 59]), (60, [38, 108, 116, 59]), (34, [38, 113, 117, 111, 116, 59]), (9, [38, 35, 120, 57, 59]), (10, [38, 35, 120, 65, 59])]) (l := l) rfl rfl (c := 13) (z := [38, 35, 120, 68, 59]) rfl rfl (by decide) (by decide) (by decide) (by decide) hl) ?_
  exact exs_ret (ex_return (ev_eq (by k_extra "ev") rfl))
end
end
section
set_option maxHeartbeats 1000000
noncomputable def a5 : Nat → Addr
  | 0 => 63 | 1 => 70 | 2 => 77 | 3 => 84 | _ => 91
noncomputable def t5 : Nat → List (Nat × List Nat)
  | 0 => Tcd | 1 => Tat | 2 => Tht | 3 => Tcc | _ => Tac
noncomputable def dicN (T : List (Nat × List Nat)) : List (Str × Str) := T.map fun p => (Tx [p.1], Tx p.2.tail)
noncomputable def handD (k : Nat) : D := .tup [.fn (a5 k), .dct (dicN (t5 k))]
noncomputable def nameT (T : List (Nat × List Nat)) (c : Nat) : List Nat := ((T.lookup c).getD []).tail
theorem ev_tx {C : Cst} {n : Nat} {f : Fm} {σ : Sto} {x : Str} {k : Nat} {pos : Pos} {l : List Nat} (h : x = Tx l) : Ev C n f σ (.Constant (.str x) k pos) (.str (Tx l)) := h ▸ ev_str
theorem tx_one {a b : Nat} : (Tx [a] == Tx [b]) = (a == b) := by
  by_cases h : a = b
  · subst h; simp
  · rw [beq_eq_false_iff_ne.mpr h, beq_eq_false_iff_ne.mpr fun e => h (by have := Tx_inj e; simpa using this)]
theorem dicN_get {T : List (Nat × List Nat)} {c : Nat} (h : (T.lookup c).isSome = true) : (dicN T).lookup (Tx [c]) = some (Tx (nameT T c)) := by
  unfold nameT
  induction T with
  | nil => cases h
  | cons p T ih =>
    obtain ⟨k, z⟩ := p
    show List.lookup (Tx [c]) ((Tx [k], Tx z.tail) :: dicN T) = _
    rw [List.lookup_cons, tx_one]
    rw [List.lookup_cons] at h ⊢
    cases hc : c == k with
    | true => rfl
    | false => rw [hc] at h; exact ih h
noncomputable def spell (T : List (Nat × List Nat)) (c d : Nat) : List Nat := if d = 0 then [c] else [38] ++ (List.replicate (d - 1) [97, 109, 112, 59]).flatten ++ nameT T c
section
variable {C : Cst} (hK : C.K = hd.heap_39 C.P)
include hK
theorem spec_hand {n : Nat} {cell : Int} : Cal C (n + 2) (.fn 98) [.int cell] (handD (cell % 5).toNat) := by
  refine cal_fnK (names := ["cell"]) hK rfl rfl rfl rfl (binds1 fun _ => rfl) (by decide) rfl rfl ⟨rfl, rfl, rfl⟩ rfl rfl (by decide) fun L => ?_
  have h5 : (5 : Int) ≠ 0 := by decide
  refine exs_next (ex_assign (d := .lst [.tup [.fn 63, .dct (dicN Tcd)], .tup [.fn 70, .dct (dicN Tat)], .tup [.fn 77, .dct (dicN Tht)], .tup [.fn 84, .dct (dicN Tcc)], .tup [.fn 91, .dct (dicN Tac)]]) (by k_extra "ev") (by k_extra "stk") rfl) ?_
  refine exs_ret (ex_return ?_)
  have hm : cell.fmod 5 = cell % 5 := Int.fmod_eq_emod_of_nonneg _ (by decide)
  have h0 := Int.emod_nonneg cell h5
  have h1 := Int.emod_lt_of_pos cell (show (0 : Int) < 5 by decide)
  refine ev_sub (by k_extra "ev") (ev_eq (by k_extra "ev") (congrArg D.int hm)) (sub_list h0 (by lia) ?_)
  generalize cell % 5 = m at h0 h1
  obtain ⟨k, rfl⟩ := Int.eq_ofNat_of_zero_le h0
  match k, h1 with
  | 0, _ => rfl
  | 1, _ => rfl
  | 2, _ => rfl
  | 3, _ => rfl
  | 4, _ => rfl
  | k + 5, h => lia
theorem spec_spelled {n : Nat} {T : List (Nat × List Nat)} {c d : Nat} (hc : (T.lookup c).isSome = true) (hd : d ≤ 64) (hn : (nameT T c).length ≤ 64) :
    Cal C (n + 2) (.fn 117) [.dct (dicN T), .str (Tx [c]), .int d] (.str (Tx (spell T c d))) := by
  refine cal_fnK (names := ["names", "sign", "depth"]) hK rfl rfl rfl rfl (binds3 fun _ _ _ => rfl) (by decide) rfl rfl ⟨rfl, rfl, rfl⟩ rfl rfl (by decide) fun L => ?_
  refine exs_ret (ex_return ?_)
  by_cases h0 : d = 0
  · rw [show spell T c d = [c] from if_pos h0]
    refine ev_ift (c := decide ((d : Int) = 0)) (by k_extra "tst") (by simp [h0]) (by k_extra "ev")
  · rw [show spell T c d = [38] ++ (List.replicate (d - 1) [97, 109, 112, 59]).flatten ++ nameT T c from if_neg h0]
    refine ev_iff (c := decide ((d : Int) = 0)) (by k_extra "tst") (by simp [h0]) ?_
    have hl := dicN_get hc
    have a1 : ((d : Int) - 1) ≤ 1024 := by lia
    have a2 : (0 : Int) ≤ (d : Int) - 1 := by lia
    have a3 : [97, 109, 112, 59].length ≤ 1024 := by decide
    have e1 : ((d : Int) - 1).toNat = d - 1 := by lia
    have a0 : (List.replicate (d - 1) [97, 109, 112, 59]).flatten.length ≤ 300 := by
      simp only [List.length_flatten, List.map_replicate, List.sum_replicate_nat, List.length_cons, List.length_nil]; lia
    have a4 : [38].length + (List.replicate (d - 1) [97, 109, 112, 59]).flatten.length ≤ 16777216 := by
      rw [List.length_singleton]; lia
    have a5 : ([38] ++ (List.replicate (d - 1) [97, 109, 112, 59]).flatten).length + (nameT T c).length ≤ 16777216 := by
      rw [List.length_append, List.length_singleton]; lia
    exact ev_bin (ev_bin (ev_tx (l := [38]) rfl) (ev_eq (ev_bin (ev_tx (l := [97, 109, 112, 59]) rfl) (by k_extra "ev") (bop_mulstr a1 a2 a3)) (by rw [e1])) (bop_addstr a4)) (ev_sub (by k_extra "ev") (by k_extra "ev") (sub_dct hl)) (bop_addstr a5)
end
end
section
set_option maxHeartbeats 1000000
/-- a thing of a document: the letter, or an element with what is in it -/
inductive El where
  | lt (s : Nat) | el (s : Nat) (l : List El)
mutual
noncomputable def El.d : El → D
  | .lt s => .tup [.str (Tx [s]), .none]
  | .el s l => .tup [.str (Tx [s]), .lst (El.ds l)]
noncomputable def El.ds : List El → List D
  | [] => []
  | e :: l => El.d e :: El.ds l
end
noncomputable def docD (l : List El) : D := .lst (El.ds l)
mutual
noncomputable def El.txt (T : List (Nat × List Nat)) (c : Nat) : El → List Nat
  | .lt s => [s]
  | .el s l => [s] ++ escT T (El.txts T c l) ++ [c]
noncomputable def El.txts (T : List (Nat × List Nat)) (c : Nat) : List El → List Nat
  | [] => []
  | e :: l => El.txt T c e ++ El.txts T c l
end
mutual
noncomputable def El.tol (T : List (Nat × List Nat)) (c d : Nat) : El → List Nat
  | .lt s => [s]
  | .el s l => spell T s d ++ El.tols T c (d + 1) l ++ spell T c d
noncomputable def El.tols (T : List (Nat × List Nat)) (c d : Nat) : List El → List Nat
  | [] => []
  | e :: l => El.tol T c d e ++ El.tols T c d l
end
mutual
/-- its signs are in the table, so many things, so deep -/
noncomputable def El.ok (T : List (Nat × List Nat)) : Nat → El → Prop
  | _, .lt _ => True
  | 0, .el _ _ => False
  | k + 1, .el s l => (T.lookup s).isSome = true ∧ El.oks T k l
noncomputable def El.oks (T : List (Nat × List Nat)) : Nat → List El → Prop
  | _, [] => True
  | k, e :: l => El.ok T k e ∧ El.oks T k l
end
mutual
noncomputable def El.sz : El → Nat
  | .lt _ => 1
  | .el _ l => 1 + El.szs l
noncomputable def El.szs : List El → Nat
  | [] => 0
  | e :: l => El.sz e + El.szs l
end
theorem El.ds_len : ∀ l : List El, (El.ds l).length = l.length
  | [] => rfl
  | e :: l => by simp [El.ds, El.ds_len l]
theorem El.ds_get : ∀ (l : List El) (i : Nat), (El.ds l)[i]? = (l[i]?).map El.d
  | [], i => by simp [El.ds]
  | e :: l, 0 => rfl
  | e :: l, i + 1 => by simpa [El.ds] using El.ds_get l i
theorem El.txts_app (T : List (Nat × List Nat)) (c : Nat) : ∀ a b : List El, El.txts T c (a ++ b) = El.txts T c a ++ El.txts T c b
  | [], _ => rfl
  | e :: a, b => by simp [El.txts, El.txts_app T c a b]
theorem El.tols_app (T : List (Nat × List Nat)) (c d : Nat) : ∀ a b : List El, El.tols T c d (a ++ b) = El.tols T c d a ++ El.tols T c d b
  | [], _ => rfl
  | e :: a, b => by simp [El.tols, El.tols_app T c d a b]
theorem El.szs_len : ∀ l : List El, l.length ≤ El.szs l
  | [] => Nat.le_refl _
  | e :: l => by
    have h1 := El.szs_len l
    have : 1 ≤ El.sz e := by cases e <;> simp [El.sz]
    simp only [List.length_cons, El.szs]; lia
theorem El.szs_take (l : List El) (i : Nat) : El.szs (l.take i) ≤ El.szs l := by
  induction l generalizing i with
  | nil => simp [El.szs]
  | cons e l ih =>
    cases i with
    | zero => simp [El.szs]
    | succ i => have := ih i; simp only [List.take_succ_cons, El.szs]; lia
theorem El.szs_mem {l : List El} {e : El} (h : e ∈ l) : El.sz e ≤ El.szs l := by
  induction l with
  | nil => cases h
  | cons a l ih =>
    rcases List.mem_cons.mp h with rfl | h
    · simp only [El.szs]; lia
    · have := ih h; simp only [El.szs]; lia
theorem El.oks_mem {T : List (Nat × List Nat)} {k : Nat} : ∀ {l : List El} {e : El}, El.oks T k l → e ∈ l → El.ok T k e
  | a :: l, e, h, m => by
    rcases List.mem_cons.mp m with rfl | m
    · exact h.1
    · exact El.oks_mem h.2 m
theorem El.oks_take {T : List (Nat × List Nat)} {k : Nat} : ∀ {l : List El} (i : Nat), El.oks T k l → El.oks T k (l.take i)
  | [], _, _ => by simp [El.oks]
  | e :: l, 0, _ => by simp [El.oks]
  | e :: l, i + 1, h => by simp only [List.take_succ_cons, El.oks]; exact ⟨h.1, El.oks_take i h.2⟩
mutual
theorem El.txt_len {T : List (Nat × List Nat)} {c : Nat} (h6 : ∀ p ∈ T, p.2.length ≤ 6) : ∀ (k : Nat) (e : El), El.ok T k e → (El.txt T c e).length ≤ 2 * El.sz e * 6 ^ k
  | k, .lt s, _ => by
    have : 0 < 6 ^ k := Nat.pow_pos (by decide)
    simp only [El.txt, El.sz, List.length_singleton]; lia
  | k + 1, .el s l, ok => by
    have h1 := El.txts_len (c := c) h6 k l ok.2
    have h2 := escT_length h6 (El.txts T c l)
    have h3 : 0 < 6 ^ k := Nat.pow_pos (by decide)
    simp only [El.txt, El.sz, List.length_append, List.length_singleton]
    rw [Nat.pow_succ]
    have h4 : 2 * (1 + El.szs l) * (6 ^ k * 6) = 12 * 6 ^ k + 6 * (2 * El.szs l * 6 ^ k) := by
      rw [Nat.mul_add, Nat.add_mul, Nat.mul_one, show 2 * (6 ^ k * 6) = 12 * 6 ^ k by lia, show 2 * El.szs l * (6 ^ k * 6) = 6 * (2 * El.szs l * 6 ^ k) by rw [← Nat.mul_assoc, Nat.mul_comm]]
    rw [h4]; lia
theorem El.txts_len {T : List (Nat × List Nat)} {c : Nat} (h6 : ∀ p ∈ T, p.2.length ≤ 6) : ∀ (k : Nat) (l : List El), El.oks T k l → (El.txts T c l).length ≤ 2 * El.szs l * 6 ^ k
  | _, [], _ => by simp [El.txts, El.szs]
  | k, e :: l, ok => by
    have h1 := El.txt_len (c := c) h6 k e ok.1
    have h2 := El.txts_len (c := c) h6 k l ok.2
    simp only [El.txts, El.szs, List.length_append, Nat.mul_add, Nat.add_mul]; lia
end
section
variable {C : Cst} (hK : C.K = hd.heap_39 C.P)
include hK
theorem spec_writer {n : Nat} (h : Nat) {l : List Nat} (hl : l.length ≤ 100000) : Cal C (n + 2) (.fn (a5 h)) [.str (Tx l)] (.str (Tx (escT (t5 h) l))) :=
  match h with
  | 0 => spec_cdata hK hl
  | 1 => spec_attrib hK hl
  | 2 => spec_html hK hl
  | 3 => spec_cdatac hK hl
  | k + 4 => spec_attribc hK hl
end
theorem keep_writer (P : Params) : ∀ h : Nat, keepIn (hd.heap_39 P) (.ref (a5 h)) = true
  | 0 => rfl | 1 => rfl | 2 => rfl | 3 => rfl | k + 4 => rfl
theorem t5_six (k : Nat) : ∀ p ∈ t5 k, p.2.length ≤ 6 := by
  match k with
  | 0 => decide
  | 1 => decide
  | 2 => decide
  | 3 => decide
  | k + 4 => show ∀ p ∈ Tac, p.2.length ≤ 6; decide
section
variable {C : Cst} (hK : C.K = hd.heap_39 C.P)
include hK
theorem text_step {m : Nat} (h c : Nat) {l : List El} (hl : l.length ≤ 16777216) (hb : ∀ i, (El.txts (t5 h) c (l.take i)).length ≤ 100000)
    (hrec : ∀ s l', El.el s l' ∈ l → Cal C (m + 2) (.fn 110) [.fn (a5 h), docD l', .str (Tx [c])] (.str (Tx (El.txts (t5 h) c l'))) ∧ (El.txts (t5 h) c l').length ≤ 10000) :
    Cal C (m + 3) (.fn 110) [.fn (a5 h), docD l, .str (Tx [c])] (.str (Tx (El.txts (t5 h) c l))) := by
  refine cal_fnK (names := ["writer", "document", "last"]) hK rfl rfl rfl rfl (binds3 fun _ _ _ => rfl) (by decide) rfl rfl ⟨rfl, rfl, rfl⟩ rfl rfl (by decide) fun L => ?_
  refine exs_next (ex_assign (d := .str (Tx [])) (ev_tx (l := []) rfl) (by k_extra "stk") rfl) ?_
  refine exs_next (ex_for (items := El.ds l) (fun i => [("row", .val (.str (Tx (El.txts (t5 h) c (l.take i))))), ("writer", .val (.fn (a5 h))), ("document", .val (docD l)), ("last", .val (.str (Tx [c])))])
    (evit_list (by unfold docD; k_extra "ev")) (Knows.look ⟨rfl, rfl, rfl, rfl, trivial⟩) fun i d hd => ?_) ?_
  · rw [El.ds_get, Option.map_eq_some_iff] at hd
    obtain ⟨e, he, rfl⟩ := hd
    have htk : El.txts (t5 h) c (l.take (i + 1)) = El.txts (t5 h) c (l.take i) ++ El.txt (t5 h) c e := by
      rw [List.take_add_one, he, El.txts_app]; simp [El.txts]
    have hbi := hb i
    have hbs := hb (i + 1)
    rw [htk, List.length_append] at hbs
    rw [htk]
    generalize El.txts (t5 h) c (l.take i) = row at hbi hbs
    cases e with
    | lt s =>
      refine ⟨_, bnd_two (by k_extra "stk") (by k_extra "stk"), exs_to (exs_next (ex_aug_str (b := [s]) rfl rfl (ev_ift (c := true) (by k_extra "tst") rfl (by k_extra "ev")) (by rw [List.length_singleton]; lia)) exs_nil) ⟨?_, rfl, rfl, rfl, trivial⟩⟩
      simp only [El.txt]; rfl
    | el s l' =>
      obtain ⟨hc, hcl⟩ := hrec s l' (List.mem_of_getElem? he)
      have sw := spec_writer hK (n := m) h (l := El.txts (t5 h) c l') (by lia)
      have hes := escT_length (t5_six h) (El.txts (t5 h) c l')
      have b1 : [s].length + (escT (t5 h) (El.txts (t5 h) c l')).length ≤ 16777216 := by rw [List.length_singleton]; lia
      have b2 : ([s] ++ escT (t5 h) (El.txts (t5 h) c l')).length + [c].length ≤ 16777216 := by rw [List.length_append, List.length_singleton, List.length_singleton]; lia
      have b3 : row.length + ([s] ++ escT (t5 h) (El.txts (t5 h) c l') ++ [c]).length ≤ 16777216 := by rw [List.length_append, List.length_append, List.length_singleton, List.length_singleton]; lia
      refine ⟨_, bnd_two (by k_extra "stk") (by k_extra "stk"), exs_to (exs_next (ex_aug_str (b := [s] ++ escT (t5 h) (El.txts (t5 h) c l') ++ [c]) rfl rfl (ev_iff (c := false) (by k_extra "tst") rfl ?val) b3) exs_nil) ⟨?_, rfl, rfl, rfl, trivial⟩⟩
      case val =>
        refine ev_bin (ev_bin (by k_extra "ev") (ev_call (fd := .fn (a5 h)) (by k_extra "ev") (keep_fn hK (keep_writer _ h)) (evl_cons (ev_call (fd := .fn 110) (by k_extra "ev") (by k_extra "keep") (by k_extra "evl") hc rfl rfl) evl_nil rfl) sw rfl rfl) (bop_addstr b1)) (by k_extra "ev") (bop_addstr b2)
      simp only [El.txt]; rfl
  · rw [El.ds_len, List.take_length]
    exact exs_ret (by k_extra "ex")
theorem spec_text {n : Nat} (h c : Nat) : ∀ (k : Nat) (l : List El), El.oks (t5 h) k l → El.szs l ≤ 8 → k ≤ 3 → Cal C (n + k + 3) (.fn 110) [.fn (a5 h), docD l, .str (Tx [c])] (.str (Tx (El.txts (t5 h) c l))) := by
  have bnd : ∀ (k : Nat) (l : List El), El.oks (t5 h) k l → El.szs l ≤ 8 → k ≤ 3 → (El.txts (t5 h) c l).length ≤ 10000 := fun k l ok hsz hk => by
    have h1 := El.txts_len (c := c) (t5_six h) k l ok
    have h2 : 6 ^ k ≤ 216 := Nat.le_trans (Nat.pow_le_pow_right (by decide) hk) (by decide)
    have h3 : 2 * El.szs l * 6 ^ k ≤ 16 * 216 := Nat.mul_le_mul (by lia) h2
    lia
  have step : ∀ (m k : Nat) (l : List El), El.oks (t5 h) k l → El.szs l ≤ 8 → k ≤ 3 → (∀ s l', El.el s l' ∈ l → Cal C (m + 2) (.fn 110) [.fn (a5 h), docD l', .str (Tx [c])] (.str (Tx (El.txts (t5 h) c l'))) ∧ (El.txts (t5 h) c l').length ≤ 10000) →
      Cal C (m + 3) (.fn 110) [.fn (a5 h), docD l, .str (Tx [c])] (.str (Tx (El.txts (t5 h) c l))) := fun m k l ok hsz hk hr =>
    text_step hK h c (by have := El.szs_len l; lia) (fun i => by
      have := bnd k (l.take i) (El.oks_take i ok) (by have := El.szs_take l i; lia) hk; lia) hr
  intro k
  induction k with
  | zero =>
    intro l ok hsz hk
    exact step (n + 0) 0 l ok hsz hk fun s l' hm => (El.oks_mem ok hm).elim
  | succ k ih =>
    intro l ok hsz hk
    refine step (n + (k + 1)) (k + 1) l ok hsz hk fun s l' hm => ?_
    have h1 : El.ok (t5 h) (k + 1) (.el s l') := El.oks_mem ok hm
    have h2 : El.szs l' ≤ 8 := by have := El.szs_mem hm; simp only [El.sz] at this; lia
    exact ⟨ih l' h1.2 h2 (by lia), bnd k l' h1.2 h2 (by lia)⟩
end
end
section
set_option maxHeartbeats 1000000
theorem lookup_mem {T : List (Nat × List Nat)} {c : Nat} {z : List Nat} (h : T.lookup c = some z) : (c, z) ∈ T := by
  induction T with
  | nil => cases h
  | cons p T ih =>
    obtain ⟨k, y⟩ := p
    rw [List.lookup_cons] at h
    by_cases q : c = k
    · subst q; simp only [beq_self_eq_true, Option.some.injEq] at h; subst h; exact List.mem_cons_self ..
    · rw [beq_eq_false_iff_ne.mpr q] at h; exact List.mem_cons_of_mem _ (ih h)
theorem nameT_len {T : List (Nat × List Nat)} (h6 : ∀ p ∈ T, p.2.length ≤ 6) (c : Nat) : (nameT T c).length ≤ 5 := by
  unfold nameT
  cases hl : T.lookup c with
  | none => simp
  | some z => have := h6 _ (lookup_mem hl); simp only [Option.getD_some, List.length_tail]; dsimp only at this; lia
theorem spell_len {T : List (Nat × List Nat)} (h6 : ∀ p ∈ T, p.2.length ≤ 6) (c d : Nat) : (spell T c d).length ≤ 6 + 4 * d := by
  unfold spell
  split
  · rw [List.length_singleton]; lia
  · have := nameT_len h6 c
    simp only [List.length_append, List.length_flatten, List.map_replicate, List.sum_replicate_nat, List.length_cons, List.length_nil]; lia
mutual
theorem El.tol_len {T : List (Nat × List Nat)} {c D : Nat} (h6 : ∀ p ∈ T, p.2.length ≤ 6) : ∀ (k d : Nat) (e : El), El.ok T k e → d + k ≤ D → (El.tol T c d e).length ≤ 2 * (6 + 4 * D) * El.sz e
  | k, d, .lt s, _, _ => by simp only [El.tol, El.sz, List.length_singleton]; lia
  | k + 1, d, .el s l, ok, hd => by
    have h1 := El.tols_len (c := c) (D := D) h6 k (d + 1) l ok.2 (by lia)
    have h2 := spell_len h6 s d
    have h3 := spell_len h6 c d
    simp only [El.tol, El.sz, List.length_append, Nat.mul_add]
    rw [Nat.mul_add] at h1
    lia
theorem El.tols_len {T : List (Nat × List Nat)} {c D : Nat} (h6 : ∀ p ∈ T, p.2.length ≤ 6) : ∀ (k d : Nat) (l : List El), El.oks T k l → d + k ≤ D → (El.tols T c d l).length ≤ 2 * (6 + 4 * D) * El.szs l
  | _, _, [], _, _ => by simp [El.tols, El.szs]
  | k, d, e :: l, ok, hd => by
    have h1 := El.tol_len (c := c) (D := D) h6 k d e ok.1 hd
    have h2 := El.tols_len (c := c) (D := D) h6 k d l ok.2 hd
    simp only [El.tols, El.szs, List.length_append, Nat.mul_add] at h1 h2 ⊢
    lia
end
section
variable {C : Cst} (hK : C.K = hd.heap_39 C.P)
include hK
theorem told_step {m : Nat} {T : List (Nat × List Nat)} (h6 : ∀ p ∈ T, p.2.length ≤ 6) {c d : Nat} (hc : (T.lookup c).isSome = true) (hd64 : d ≤ 10) {l : List El} (hl : l.length ≤ 16777216) (hb : ∀ i, (El.tols T c d (l.take i)).length ≤ 100000)
    (hrec : ∀ s l', El.el s l' ∈ l → (T.lookup s).isSome = true ∧ Cal C (m + 2) (.fn 124) [.dct (dicN T), docD l', .str (Tx [c]), .int ((d + 1 : Nat) : Int)] (.str (Tx (El.tols T c (d + 1) l'))) ∧ (El.tols T c (d + 1) l').length ≤ 10000) :
    Cal C (m + 3) (.fn 124) [.dct (dicN T), docD l, .str (Tx [c]), .int d] (.str (Tx (El.tols T c d l))) := by
  refine cal_fnK (names := ["names", "document", "last", "depth"]) hK rfl rfl rfl rfl (binds4 fun _ _ _ _ => rfl) (by decide) rfl rfl ⟨rfl, rfl, rfl⟩ rfl rfl (by decide) fun L => ?_
  refine exs_next (ex_assign (d := .str (Tx [])) (ev_tx (l := []) rfl) (by k_extra "stk") rfl) ?_
  refine exs_next (ex_for (items := El.ds l) (fun i => [("row", .val (.str (Tx (El.tols T c d (l.take i))))), ("names", .val (.dct (dicN T))), ("document", .val (docD l)), ("last", .val (.str (Tx [c]))), ("depth", .val (.int d))])
    (evit_list (by unfold docD; k_extra "ev")) (Knows.look ⟨rfl, rfl, rfl, rfl, rfl, trivial⟩) fun i dd hd => ?_) ?_
  · rw [El.ds_get, Option.map_eq_some_iff] at hd
    obtain ⟨e, he, rfl⟩ := hd
    have htk : El.tols T c d (l.take (i + 1)) = El.tols T c d (l.take i) ++ El.tol T c d e := by
      rw [List.take_add_one, he, El.tols_app]; simp [El.tols]
    have hbi := hb i
    have hbs := hb (i + 1)
    rw [htk, List.length_append] at hbs
    rw [htk]
    generalize El.tols T c d (l.take i) = row at hbi hbs
    cases e with
    | lt s =>
      refine ⟨_, bnd_two (by k_extra "stk") (by k_extra "stk"), exs_to (exs_next (ex_ift (b := true) (by k_extra "tst") rfl (exs_next (ex_aug_str (b := [s]) rfl rfl (by k_extra "ev") (by rw [List.length_singleton]; lia)) exs_nil)) exs_nil) ⟨?_, rfl, rfl, rfl, rfl, trivial⟩⟩
      simp only [El.tol]; rfl
    | el s l' =>
      obtain ⟨hs, hcc, hcl⟩ := hrec s l' (List.mem_of_getElem? he)
      have n1 := nameT_len h6 s
      have n2 := nameT_len h6 c
      have s1 := spec_spelled hK (n := m) (T := T) (c := s) (d := d) hs (by lia) (by lia)
      have s2 := spec_spelled hK (n := m) (T := T) (c := c) (d := d) hc (by lia) (by lia)
      have l1 := spell_len h6 s d
      have l2 := spell_len h6 c d
      have b1 : (spell T s d).length + (El.tols T c (d + 1) l').length ≤ 16777216 := by lia
      have b2 : (spell T s d ++ El.tols T c (d + 1) l').length + (spell T c d).length ≤ 16777216 := by rw [List.length_append]; lia
      have b3 : row.length + (spell T s d ++ El.tols T c (d + 1) l' ++ spell T c d).length ≤ 16777216 := by rw [List.length_append, List.length_append]; lia
      have ed : D.int ((d : Int) + 1) = .int ((d + 1 : Nat) : Int) := rfl
      refine ⟨_, bnd_two (by k_extra "stk") (by k_extra "stk"), exs_to (exs_next (ex_iff (b := false) (by k_extra "tst") rfl (exs_next (ex_aug_str (b := spell T s d ++ El.tols T c (d + 1) l' ++ spell T c d) rfl rfl ?val b3) exs_nil)) exs_nil) ⟨?_, rfl, rfl, rfl, rfl, trivial⟩⟩
      case val =>
        refine ev_bin (ev_bin (ev_call (fd := .fn 117) (by k_extra "ev") (by k_extra "keep") (by k_extra "evl") s1 rfl rfl) (ev_call (fd := .fn 124) (by k_extra "ev") (by k_extra "keep") (evl_cons (by k_extra "ev") (evl_cons (by k_extra "ev") (evl_cons (by k_extra "ev") (evl_cons (ev_eq (by k_extra "ev") ed) evl_nil rfl) rfl) rfl) rfl) hcc rfl rfl) (bop_addstr b1)) (ev_call (fd := .fn 117) (by k_extra "ev") (by k_extra "keep") (by k_extra "evl") s2 rfl rfl) (bop_addstr b2)
      simp only [El.tol]; rfl
  · rw [El.ds_len, List.take_length]
    exact exs_ret (by k_extra "ex")
theorem spec_told {n : Nat} {T : List (Nat × List Nat)} (h6 : ∀ p ∈ T, p.2.length ≤ 6) {c : Nat} (hc : (T.lookup c).isSome = true) : ∀ (k d : Nat) (l : List El), El.oks T k l → El.szs l ≤ 8 → d + k ≤ 4 →
    Cal C (n + k + 3) (.fn 124) [.dct (dicN T), docD l, .str (Tx [c]), .int d] (.str (Tx (El.tols T c d l))) := by
  have bnd : ∀ (k d : Nat) (l : List El), El.oks T k l → El.szs l ≤ 8 → d + k ≤ 4 → (El.tols T c d l).length ≤ 10000 := fun k d l ok hsz hk => by
    have h1 := El.tols_len (c := c) (D := 4) h6 k d l ok hk
    have h3 : 2 * (6 + 4 * 4) * El.szs l ≤ 2 * (6 + 4 * 4) * 8 := Nat.mul_le_mul_left _ hsz
    lia
  intro k
  induction k with
  | zero =>
    intro d l ok hsz hk
    exact told_step hK (m := n + 0) h6 hc (by lia) (by have := El.szs_len l; lia) (fun i => by
      have := bnd 0 d (l.take i) (El.oks_take i ok) (by have := El.szs_take l i; lia) hk; lia) fun s l' hm => (El.oks_mem ok hm).elim
  | succ k ih =>
    intro d l ok hsz hk
    refine told_step hK (m := n + (k + 1)) h6 hc (by lia) (by have := El.szs_len l; lia) (fun i => by
      have := bnd (k + 1) d (l.take i) (El.oks_take i ok) (by have := El.szs_take l i; lia) hk; lia) fun s l' hm => ?_
    have h1 : El.ok T (k + 1) (.el s l') := El.oks_mem ok hm
    have h2 : El.szs l' ≤ 8 := by have := El.szs_mem hm; simp only [El.sz] at this; lia
    exact ⟨h1.1, ih (d + 1) l' h1.2 h2 (by lia), bnd k (d + 1) l' h1.2 h2 (by lia)⟩
end
-- what is written is what is spelled
/-- what is asked of a table -/
noncomputable def okB (T : List (Nat × List Nat)) : Bool :=
  T.all (fun p => (p.2.head? == some 38) && p.2.tail.all fun k => (T.lookup k).isNone) && (T.lookup 38 == some [38, 97, 109, 112, 59])
theorem t5_ok (k : Nat) : okB (t5 k) = true := by
  match k with
  | 0 => decide
  | 1 => decide
  | 2 => decide
  | 3 => decide
  | k + 4 => show okB Tac = true; decide
structure OkT (T : List (Nat × List Nat)) : Prop where
  amp : T.lookup 38 = some [38, 97, 109, 112, 59]
  one : ∀ c, (T.lookup c).isSome = true → T.lookup c = some (38 :: nameT T c) ∧ ∀ k ∈ nameT T c, T.lookup k = none
theorem OkT.of {T : List (Nat × List Nat)} (h : okB T = true) : OkT T := by
  simp only [okB, Bool.and_eq_true, List.all_eq_true, beq_iff_eq, Option.isNone_iff_eq_none] at h
  obtain ⟨h1, h2⟩ := h
  refine ⟨h2, fun c hc => ?_⟩
  obtain ⟨z, hz⟩ := Option.isSome_iff_exists.mp hc
  obtain ⟨a, b⟩ := h1 _ (lookup_mem hz)
  dsimp only at a b
  have hn : nameT T c = z.tail := by rw [nameT, hz]; rfl
  cases z with
  | nil => cases a
  | cons x w =>
    simp only [List.head?_cons, Option.some.injEq] at a
    subst a
    rw [hn]
    exact ⟨hz, b⟩
theorem escT_app (T : List (Nat × List Nat)) (a b : List Nat) : escT T (a ++ b) = escT T a ++ escT T b := by simp [escT]
theorem escT_free {T : List (Nat × List Nat)} : ∀ {l : List Nat}, (∀ k ∈ l, T.lookup k = none) → escT T l = l
  | [], _ => rfl
  | k :: l, h => by
    have := escT_free fun j hj => h j (List.mem_cons_of_mem _ hj)
    show ((T.lookup k).getD [k]) ++ escT T l = k :: l
    rw [h k (List.mem_cons_self ..), this]; rfl
theorem escT_single {T : List (Nat × List Nat)} {c : Nat} {z : List Nat} (h : T.lookup c = some z) : escT T [c] = z := by simp [escT, h]
theorem esc_spell {T : List (Nat × List Nat)} (ok : OkT T) {c : Nat} (hc : (T.lookup c).isSome = true) (d : Nat) : escT T (spell T c d) = spell T c (d + 1) := by
  obtain ⟨h1, h2⟩ := ok.one c hc
  have hamp : ∀ k ∈ ([97, 109, 112, 59] : List Nat), T.lookup k = none := by
    have := (ok.one 38 (by rw [ok.amp]; rfl)).2
    rwa [show nameT T 38 = [97, 109, 112, 59] by rw [nameT, ok.amp]; rfl] at this
  by_cases h0 : d = 0
  · subst h0
    rw [show spell T c 0 = [c] from rfl, escT_single h1]
    simp [spell]
  · rw [show spell T c d = [38] ++ (List.replicate (d - 1) [97, 109, 112, 59]).flatten ++ nameT T c from if_neg h0, show spell T c (d + 1) = [38] ++ (List.replicate (d + 1 - 1) [97, 109, 112, 59]).flatten ++ nameT T c from if_neg (by lia),
      escT_app, escT_app, escT_free h2, escT_single ok.amp]
    have hf : escT T (List.replicate (d - 1) [97, 109, 112, 59]).flatten = (List.replicate (d - 1) [97, 109, 112, 59]).flatten := escT_free fun k hk => by
      obtain ⟨l, hl, hk⟩ := List.mem_flatten.mp hk
      rw [(List.mem_replicate.mp hl).2] at hk
      exact hamp k hk
    rw [hf, show d + 1 - 1 = (d - 1) + 1 by lia, List.replicate_succ, List.flatten_cons]
    rfl
mutual
/-- the letters are no signs of the table -/
noncomputable def El.letters (T : List (Nat × List Nat)) : El → Prop
  | .lt s => T.lookup s = none
  | .el _ l => El.lettersL T l
noncomputable def El.lettersL (T : List (Nat × List Nat)) : List El → Prop
  | [] => True
  | e :: l => El.letters T e ∧ El.lettersL T l
end
mutual
theorem El.esc_tol {T : List (Nat × List Nat)} (ok : OkT T) {c : Nat} (hc : (T.lookup c).isSome = true) : ∀ (k d : Nat) (e : El), El.ok T k e → El.letters T e → escT T (El.tol T c d e) = El.tol T c (d + 1) e
  | _, d, .lt s, _, hl => by
    simp only [El.letters] at hl
    simp only [El.tol]; exact escT_free fun k hk => by rw [List.mem_singleton.mp hk]; exact hl
  | k + 1, d, .el s l, h, hl => by
    simp only [El.letters] at hl
    simp only [El.tol, escT_app, esc_spell ok h.1, esc_spell ok hc, El.esc_tols ok hc k (d + 1) l h.2 hl]
theorem El.esc_tols {T : List (Nat × List Nat)} (ok : OkT T) {c : Nat} (hc : (T.lookup c).isSome = true) : ∀ (k d : Nat) (l : List El), El.oks T k l → El.lettersL T l → escT T (El.tols T c d l) = El.tols T c (d + 1) l
  | _, _, [], _, _ => by simp [El.tols, escT]
  | k, d, e :: l, h, hl => by
    simp only [El.lettersL] at hl
    simp only [El.tols, escT_app, El.esc_tol ok hc k d e h.1 hl.1, El.esc_tols ok hc k d l h.2 hl.2]
end
mutual
theorem El.txt_tol {T : List (Nat × List Nat)} (ok : OkT T) {c : Nat} (hc : (T.lookup c).isSome = true) : ∀ (k : Nat) (e : El), El.ok T k e → El.letters T e → El.txt T c e = El.tol T c 0 e
  | _, .lt s, _, _ => rfl
  | k + 1, .el s l, h, hl => by
    simp only [El.letters] at hl
    simp only [El.txt, El.tol, El.txts_tols ok hc k l h.2 hl, El.esc_tols ok hc k 0 l h.2 hl]
    rfl
theorem El.txts_tols {T : List (Nat × List Nat)} (ok : OkT T) {c : Nat} (hc : (T.lookup c).isSome = true) : ∀ (k : Nat) (l : List El), El.oks T k l → El.lettersL T l → El.txts T c l = El.tols T c 0 l
  | _, [], _, _ => rfl
  | k, e :: l, h, hl => by
    simp only [El.lettersL] at hl
    simp only [El.txts, El.tols, El.txt_tol ok hc k e h.1 hl.1, El.txts_tols ok hc k l h.2 hl.2]
end
end
section
set_option maxHeartbeats 1000000
theorem range_getD_map {α β : Type} (l : List α) (d : α) (g : α → β) : (List.range l.length).map (fun i => g (l.getD i d)) = l.map g := by
  apply List.ext_getElem
  · simp
  · intro i h1 h2
    have h3 : i < l.length := by simpa using h2
    simp only [List.getElem_map, List.getElem_range, List.getD_eq_getElem?_getD, List.getElem?_eq_getElem h3, Option.getD_some]
noncomputable abbrev Plan := List Nat × List Nat
noncomputable def sgD (l : List Nat) : List D := l.map fun c => .str (Tx [c])
noncomputable def planD (p : Plan) : D := .tup [.lst (sgD p.1), .lst (sgD p.2)]
/-- the first things of a document that has so many things within its first one -/
noncomputable def firstsA (p : Plan) (i : Nat) (ds : List (List El)) : List El := (if i = 0 then p.1.map .lt else []) ++ ds.flatMap fun inn => p.2.map fun o => .el o inn
noncomputable def docsA (p : Plan) (DI DO : Nat → List (List El)) (s : Nat) : List (List El) := (List.range s).flatMap fun i => (DO i).flatMap fun oth => (firstsA p i (DI i)).map fun e => e :: oth
/-- the documents of a level with so many things -/
noncomputable def docs : Nat → Nat → List Plan → List (List El)
  | 0, _, _ => [[]]
  | k + 1, s, ps => if s = 0 then [[]] else match ps with
    | [] => []
    | p :: ps => docsA p (fun i => docs k i ps) (fun i => docs k (s - 1 - i) (p :: ps)) s
theorem docsA_succ (p : Plan) (DI DO : Nat → List (List El)) (i : Nat) : docsA p DI DO (i + 1) = docsA p DI DO i ++ (DO i).flatMap fun oth => (firstsA p i (DI i)).map fun e => e :: oth := by
  simp [docsA, List.range_succ]
theorem docsA_mono (p : Plan) (DI DO : Nat → List (List El)) {i j : Nat} (h : i ≤ j) : (docsA p DI DO i).length ≤ (docsA p DI DO j).length := by
  obtain ⟨k, rfl⟩ := Nat.exists_eq_add_of_le h
  induction k with
  | zero => exact Nat.le_refl _
  | succ k ih => rw [← Nat.add_assoc, docsA_succ, List.length_append]; exact Nat.le_trans (ih (by lia)) (Nat.le_add_right ..)
theorem firstsA_take (p : Plan) (i j : Nat) (ds : List (List El)) {d : List El} (h : ds[j]? = some d) : firstsA p i (ds.take (j + 1)) = firstsA p i (ds.take j) ++ p.2.map fun o => .el o d := by
  rw [List.take_add_one, h]; simp [firstsA]
theorem firstsA_len (p : Plan) (i : Nat) (ds : List (List El)) : (firstsA p i ds).length ≤ p.1.length + ds.length * p.2.length := by
  have h1 : (if i = 0 then p.1.map El.lt else []).length ≤ p.1.length := by split <;> simp
  have h2 : (ds.flatMap fun inn => p.2.map fun o => El.el o inn).length = ds.length * p.2.length := by
    induction ds with
    | nil => simp
    | cons d ds ih => simp only [List.flatMap_cons, List.length_append, List.length_map, List.length_cons, ih, Nat.add_mul]; lia
  rw [firstsA, List.length_append]; lia
theorem flatMap_take_len {α β : Type} (X : List α) (g : α → List β) (j : Nat) : ((X.take j).flatMap g).length ≤ (X.flatMap g).length := by
  have : X.flatMap g = (X.take j).flatMap g ++ (X.drop j).flatMap g := by rw [← List.flatMap_append, List.take_append_drop]
  rw [this, List.length_append]; exact Nat.le_add_right ..
theorem compRes_const (b : Bool) (F : Nat → D) (k : Nat) : compRes (fun _ => b) F k = if b = true then (List.range k).map F else [] := by
  cases b with
  | true => rw [compRes_all, if_pos rfl]
  | false => simp [compRes]
section
variable {C : Cst} (hK : C.K = hd.heap_39 C.P)
include hK
theorem docs_step {m : Nat} {plans : List Plan} {p : Plan} {s lev : Nat} (hp : plans[lev]? = some p) (hpl : plans.length ≤ 3) (h1 : 1 ≤ s) (h3 : s ≤ 3) (hl1 : p.1.length ≤ 2) (hl2 : p.2.length ≤ 2) (DI DO : Nat → List (List El))
    (bI : ∀ i, i < s → (DI i).length ≤ 1000) (bO : ∀ i, i < s → ∀ o ∈ DO i, o.length ≤ 1000) (bA : (docsA p DI DO s).length ≤ 16000000)
    (calls : ∀ i, i < s → Cal C (m + 2) (.fn 103) [.int (i : Nat), .int ((lev + 1 : Nat) : Int), .lst (plans.map planD)] (.lst ((DI i).map docD)) ∧ Cal C (m + 2) (.fn 103) [.int ((s - 1 - i : Nat) : Int), .int lev, .lst (plans.map planD)] (.lst ((DO i).map docD))) :
    Cal C (m + 3) (.fn 103) [.int s, .int lev, .lst (plans.map planD)] (.lst ((docsA p DI DO s).map docD)) := by
  refine cal_fnK (names := ["size", "level", "plans"]) hK rfl rfl rfl rfl (binds3 fun _ _ _ => rfl) (by decide) rfl rfl ⟨rfl, rfl, rfl⟩ rfl rfl (by decide) fun L => ?_
  obtain ⟨PD, hPD⟩ : ∃ PD, PD = plans.map planD := ⟨_, rfl⟩
  have hlev : lev < plans.length := (List.getElem?_eq_some_iff.mp hp).1
  have hPl : PD.length ≤ 16777216 := by rw [hPD, List.length_map]; lia
  have hPn : ((PD.length : Nat) : Int) = plans.length := by rw [hPD, List.length_map]
  have hsub : PD[((lev : Nat) : Int).toNat]? = some (planD p) := by rw [Int.toNat_natCast, hPD, List.getElem?_map, hp]; rfl
  have l0 : (0 : Int) ≤ (lev : Int) := by lia
  have l1 : (lev : Int) < 2 ^ 63 := by lia
  have sz : sizeLine = 16777216 := rfl
  rw [← hPD] at calls ⊢
  refine exs_next (ex_iff (b := decide ((s : Int) = 0)) (by k_extra "tst") (by simp; lia) exs_nil) ?_
  refine exs_next (ex_iff (b := decide ((lev : Int) = ((PD.length : Nat) : Int))) (by k_extra "tst") (by rw [hPn]; simp; lia) exs_nil) ?_
  refine exs_next (ex_assign_own (ds := []) (evo_list evl_nil) (by k_extra "stk") rfl) ?_
  refine exs_next (ex_for (items := (List.range ((s : Int)).toNat).map fun (k : Nat) => D.int (0 + (k : Int) * 1)) (fun i => [("documents", .own ((docsA p DI DO i).map docD)), ("size", .val (.int s)), ("level", .val (.int lev)), ("plans", .val (.lst PD))])
    (evit_call (fd := .ty "range") (by k_extra "ev") True.intro (by k_extra "evl") (calit_range1 (by lia) (by lia))) (Knows.look ⟨rfl, rfl, rfl, rfl, trivial⟩) fun i d hd => ?_) ?_
  · obtain ⟨hi, rfl⟩ := range_get hd
    have his : i < s := by lia
    obtain ⟨c1, c2⟩ := calls i his
    have bi := bI i his
    have e0 : D.int (0 + (i : Int) * 1) = .int (i : Int) := by congr 1; lia
    rw [e0]
    have hA1 := docsA_mono p DI DO (show i + 1 ≤ s by lia)
    refine ⟨_, bnd_name (by k_extra "stk"), ?_⟩
    refine exs_next (ex_assign_comp_own (cl := [("inside", L + 1)]) (σc := [("inside", .val (.int i))]) (items := sgD p.1) (r := (firstsA p i []).map El.d) (fun _ => decide ((i : Int) = 0)) (fun j => .tup [(sgD p.1).getD j .none, .none])
      ⟨rfl, rfl, rfl, rfl, ⟨⟨⟨_, rfl⟩, rfl, .inl rfl, rfl, .inl rfl⟩, trivial⟩, by simp, rfl, trivial⟩ (evit_list (ev_sub (ev_sub (by k_extra "ev") (by k_extra "ev") (sub_list l0 l1 hsub)) (by k_extra "ev") (sub_tup (by decide) (by decide) rfl)))
      (by rw [sgD, List.length_map]; lia) (fun Cc j d hd => ?_) ?_ (by k_extra "stk")) ?_
    · have e : (sgD p.1).getD j .none = d := by rw [List.getD_eq_getElem?_getD, hd]; rfl
      rw [e]
      exact ⟨_, bnd_name (.inl rfl), ⟨rfl, trivial⟩, tests_one (by k_extra "tst"), fun _ => by k_extra "ev"⟩
    · rw [compRes_const, range_getD_map (sgD p.1) .none fun d => D.tup [d, .none]]
      by_cases h : i = 0 <;> simp [firstsA, h, sgD, El.d]
    refine exs_next (ex_for (items := (DI i).map docD) (fun j => [("firsts", .own ((firstsA p i ((DI i).take j)).map El.d)), ("inside", .val (.int i)), ("documents", .own ((docsA p DI DO i).map docD)), ("size", .val (.int s)), ("level", .val (.int lev)), ("plans", .val (.lst PD))])
      (evit_list (ev_call (fd := .fn 103) (by k_extra "ev") (by k_extra "keep") (evl_cons (by k_extra "ev") (evl_cons (ev_eq (by k_extra "ev") (by congr 1)) (evl_cons (by k_extra "ev") evl_nil rfl) rfl) rfl) c1 rfl rfl)) (Knows.look ⟨rfl, rfl, rfl, rfl, rfl, rfl, trivial⟩) fun j d hd => ?_) ?_
    · rw [List.getElem?_map, Option.map_eq_some_iff] at hd
      obtain ⟨inn, hinn, rfl⟩ := hd
      have hfl := firstsA_len p i ((DI i).take j)
      have htk : ((DI i).take j).length ≤ (DI i).length := by rw [List.length_take]; lia
      have hml : ((DI i).take j).length * p.2.length ≤ 1000 * 2 := Nat.mul_le_mul (by lia) hl2
      refine ⟨_, bnd_name (by k_extra "stk"), exs_to (exs_next (ex_extend (x := "firsts") (es := p.2.map fun o => El.d (.el o inn)) rfl (ev_eq (ev_comp (cl := [("inner", L + 1 + 1)]) (σc := [("inner", .val (docD inn))]) (items := sgD p.2) (fun _ => true) (fun k => .tup [(sgD p.2).getD k .none, docD inn])
        ⟨rfl, rfl, rfl, rfl, ⟨⟨⟨_, rfl⟩, rfl, .inl rfl, rfl, .inl rfl⟩, trivial⟩, by simp, rfl, trivial⟩ (evit_list (ev_sub (ev_sub (by k_extra "ev") (by k_extra "ev") (sub_list l0 l1 hsub)) (by k_extra "ev") (sub_tup (by decide) (by decide) rfl)))
        (by rw [sgD, List.length_map]; lia) fun Cc k d hd => ?_) ?_) (by rw [List.length_map, List.length_map]; lia)) exs_nil) ⟨?_, rfl, rfl, rfl, rfl, rfl, trivial⟩⟩
      · have e : (sgD p.2).getD k .none = d := by rw [List.getD_eq_getElem?_getD, hd]; rfl
        rw [e]
        exact ⟨_, bnd_name (.inl rfl), ⟨rfl, trivial⟩, tests_nil, fun _ => by k_extra "ev"⟩
      · rw [compRes_all, range_getD_map (sgD p.2) .none fun d => D.tup [d, docD inn], sgD, List.map_map]
        exact congrArg D.lst (List.map_congr_left fun o _ => by simp [El.d, docD])
      · rw [firstsA_take p i j (DI i) hinn, List.map_append, List.map_map]; rfl
    rw [List.length_map, List.take_length]
    refine exs_freeze (x := "firsts") rfl ?_
    refine exs_to (exs_next (ex_for (items := (DO i).map docD) (fun j => [("firsts", .val (.lst ((firstsA p i (DI i)).map El.d))), ("inside", .val (.int i)), ("documents", .own ((docsA p DI DO i ++ ((DO i).take j).flatMap fun oth => (firstsA p i (DI i)).map fun e => e :: oth).map docD)), ("size", .val (.int s)), ("level", .val (.int lev)), ("plans", .val (.lst PD))])
      (evit_list (ev_call (fd := .fn 103) (by k_extra "ev") (by k_extra "keep") (evl_cons (ev_eq (by k_extra "ev") (by congr 1; lia)) (evl_cons (by k_extra "ev") (evl_cons (by k_extra "ev") evl_nil rfl) rfl) rfl) c2 rfl rfl)) (Knows.look ⟨rfl, rfl, by simp; rfl, rfl, rfl, rfl, trivial⟩) fun j d hd => ?_) exs_nil) ⟨?_, rfl, rfl, rfl, trivial⟩
    · rw [List.getElem?_map, Option.map_eq_some_iff] at hd
      obtain ⟨oth, hoth, rfl⟩ := hd
      obtain ⟨FI, hFI⟩ : ∃ FI, FI = firstsA p i (DI i) := ⟨_, rfl⟩
      have hfl := firstsA_len p i (DI i)
      have hml : (DI i).length * p.2.length ≤ 1000 * 2 := Nat.mul_le_mul (by lia) hl2
      rw [docsA_succ, List.length_append] at hA1
      have htk := flatMap_take_len (DO i) (fun oth => (firstsA p i (DI i)).map fun e => e :: oth) (j + 1)
      have hst : ((DO i).take (j + 1)).flatMap (fun oth => (firstsA p i (DI i)).map fun e => e :: oth) = ((DO i).take j).flatMap (fun oth => (firstsA p i (DI i)).map fun e => e :: oth) ++ (firstsA p i (DI i)).map fun e => e :: oth := by
        rw [List.take_add_one, hoth]; simp
      rw [hst, List.length_append, List.length_map] at htk
      rw [hst]
      rw [← hFI] at hfl htk hA1 ⊢
      have hbd : ((docsA p DI DO i ++ ((DO i).take j).flatMap fun oth => FI.map fun e => e :: oth).map docD).length + (FI.map fun e => docD (e :: oth)).length ≤ 16777216 := by
        rw [List.length_map, List.length_map, List.length_append]; lia
      obtain ⟨SF, hSF⟩ : ∃ SF, SF = docsA p DI DO i ++ ((DO i).take j).flatMap (fun oth => FI.map fun e => e :: oth) := ⟨_, rfl⟩
      rw [← hSF] at hbd ⊢
      refine ⟨_, bnd_name (by k_extra "stk"), exs_to (exs_next (ex_extend (x := "documents") (es := FI.map fun e => docD (e :: oth)) rfl (ev_eq (ev_comp (cl := [("others", L + 1 + 1 + 1)]) (σc := [("others", .val (docD oth))]) (items := FI.map El.d) (fun _ => true) (fun k => .lst ([(FI.map El.d).getD k .none] ++ El.ds oth))
        ⟨rfl, rfl, rfl, rfl, ⟨⟨⟨_, rfl⟩, rfl, .inl rfl, rfl, .inl rfl⟩, trivial⟩, by simp, rfl, trivial⟩ (evit_list (by k_extra "ev"))
        (by rw [List.length_map]; lia) fun Cc k d hd => ?_) ?_) hbd) exs_nil) ⟨rfl, rfl, ?_, rfl, rfl, rfl, trivial⟩⟩
      · have e : (FI.map El.d).getD k .none = d := by rw [List.getD_eq_getElem?_getD, hd]; rfl
        rw [e]
        refine ⟨_, bnd_name (.inl rfl), ⟨rfl, trivial⟩, tests_nil, fun _ => ev_bin (by k_extra "ev") (ev_eq (d := docD oth) (by k_extra "ev") rfl) (bop_addlst ?_)⟩
        have h6 := bO i his oth (List.mem_of_getElem? hoth)
        simp only [List.length_singleton, El.ds_len]; lia
      · rw [compRes_all, range_getD_map (FI.map El.d) .none fun d => D.lst ([d] ++ El.ds oth), List.map_map]
        exact congrArg D.lst (List.map_congr_left fun o _ => by simp [El.ds, docD])
      · rw [← List.append_assoc, ← hSF, List.map_append, List.map_map]; rfl
    · rw [List.length_map, List.take_length, docsA_succ]; rfl
  · rw [List.length_map, List.length_range, Int.toNat_natCast]
    exact exs_freeze (x := "documents") rfl (exs_ret (by k_extra "ex"))
theorem docs_zero {m : Nat} {lev : Int} {PD : List D} : Cal C (m + 3) (.fn 103) [.int 0, .int lev, .lst PD] (.lst [docD []]) := by
  refine cal_fnK (names := ["size", "level", "plans"]) hK rfl rfl rfl rfl (binds3 fun _ _ _ => rfl) (by decide) rfl rfl ⟨rfl, rfl, rfl⟩ rfl rfl (by decide) fun L => ?_
  exact exs_ret (ex_ift (b := decide ((0 : Int) = 0)) (by k_extra "tst") rfl (exs_ret (ex_return (ev_list (evl_cons (ev_eq (ev_list evl_nil) rfl) evl_nil rfl)))))
theorem docs_none {m : Nat} {s : Nat} {lev : Nat} {PD : List D} (hs : s ≠ 0) (hl : PD.length = lev) (hl2 : lev ≤ 16777216) : Cal C (m + 3) (.fn 103) [.int s, .int lev, .lst PD] (.lst []) := by
  refine cal_fnK (names := ["size", "level", "plans"]) hK rfl rfl rfl rfl (binds3 fun _ _ _ => rfl) (by decide) rfl rfl ⟨rfl, rfl, rfl⟩ rfl rfl (by decide) fun L => ?_
  have hPl : PD.length ≤ 16777216 := by lia
  refine exs_next (ex_iff (b := decide ((s : Int) = 0)) (by k_extra "tst") (by simp; lia) exs_nil) ?_
  exact exs_ret (ex_ift (b := decide ((lev : Int) = ((PD.length : Nat) : Int))) (by k_extra "tst") (by simp; lia) (exs_ret (by k_extra "ex")))
end
noncomputable def okPl (ps : List Plan) : Prop := ∀ p ∈ ps, p.1.length ≤ 1 ∧ p.2.length ≤ 2
noncomputable def bndK : Nat → Nat
  | 0 => 1
  | k + 1 => 1 + 3 * (bndK k * (1 + bndK k * 2))
theorem bndK_le : ∀ k, k ≤ 2 → bndK k ≤ 1000 ∧ bndK (k + 1) ≤ 16000000
  | 0, _ => by decide
  | 1, _ => by decide
  | 2, _ => ⟨by decide, by rw [show bndK 3 = 2390860 from rfl]; lia⟩
  | k + 3, h => by lia
theorem docsA_len {p : Plan} {DI DO : Nat → List (List El)} {B : Nat} (h1 : p.1.length ≤ 1) (h2 : p.2.length ≤ 2) : ∀ {s : Nat}, (∀ i, i < s → (DI i).length ≤ B ∧ (DO i).length ≤ B) → (docsA p DI DO s).length ≤ s * (B * (1 + B * 2))
  | 0, _ => by simp [docsA]
  | s + 1, h => by
    have ih := docsA_len (p := p) h1 h2 (s := s) fun i hi => h i (by lia)
    obtain ⟨q1, q2⟩ := h s (by lia)
    have hf : (firstsA p s (DI s)).length ≤ 1 + B * 2 := by
      have a1 := firstsA_len p s (DI s)
      have a2 : (DI s).length * p.2.length ≤ B * 2 := Nat.mul_le_mul q1 h2
      lia
    have hX : ∀ X : List (List El), (X.flatMap fun oth => (firstsA p s (DI s)).map fun e => e :: oth).length = X.length * (firstsA p s (DI s)).length := fun X => by
      induction X with
      | nil => simp
      | cons x X ihX => simp only [List.flatMap_cons, List.length_append, List.length_map, List.length_cons, ihX, Nat.add_mul]; lia
    rw [docsA_succ, List.length_append, hX, Nat.add_mul, Nat.one_mul]
    exact Nat.add_le_add ih (Nat.mul_le_mul q2 hf)
theorem docs_len : ∀ (k s : Nat) (ps : List Plan), s ≤ 3 → okPl ps → (docs k s ps).length ≤ bndK k
  | 0, _, _, _, _ => by simp [docs, bndK]
  | k + 1, s, ps, hs, ok => by
    unfold docs
    split
    · simp only [List.length_singleton, bndK]; lia
    · split
      · simp
      · rename_i p ps
        obtain ⟨h1, h2⟩ := ok p (List.mem_cons_self ..)
        have := docsA_len (p := p) (DI := fun i => docs k i ps) (DO := fun i => docs k (s - 1 - i) (p :: ps)) (B := bndK k) h1 h2 (s := s) fun i hi =>
          ⟨docs_len k i ps (by lia) fun q hq => ok q (List.mem_cons_of_mem _ hq), docs_len k (s - 1 - i) (p :: ps) (by lia) ok⟩
        have h4 : s * (bndK k * (1 + bndK k * 2)) ≤ 3 * (bndK k * (1 + bndK k * 2)) := Nat.mul_le_mul_right _ hs
        simp only [bndK]; lia
theorem docsA_mem {p : Plan} {DI DO : Nat → List (List El)} {s : Nat} {l : List El} : l ∈ docsA p DI DO s ↔ ∃ i, i < s ∧ ∃ oth ∈ DO i, ∃ e ∈ firstsA p i (DI i), l = e :: oth := by
  simp only [docsA, List.mem_flatMap, List.mem_range, List.mem_map]
  constructor
  · rintro ⟨i, hi, oth, ho, e, he, rfl⟩; exact ⟨i, hi, oth, ho, e, he, rfl⟩
  · rintro ⟨i, hi, oth, ho, e, he, rfl⟩; exact ⟨i, hi, oth, ho, e, he, rfl⟩
theorem docs_width : ∀ (k s : Nat) (ps : List Plan), ∀ l ∈ docs k s ps, l.length ≤ k
  | 0, _, _, l, h => by rw [List.mem_singleton.mp h]; exact Nat.le_refl _
  | k + 1, s, ps, l, h => by
    unfold docs at h
    split at h
    · rw [List.mem_singleton.mp h]; exact Nat.zero_le _
    · split at h
      · cases h
      · obtain ⟨i, hi, oth, ho, e, he, rfl⟩ := docsA_mem.mp h
        have := docs_width k _ _ oth ho
        simp only [List.length_cons]; lia
section
variable {C : Cst} (hK : C.K = hd.heap_39 C.P)
include hK
theorem spec_docs {n : Nat} {plans : List Plan} (hpl : plans.length ≤ 3) (ok : okPl plans) : ∀ (k s lev : Nat), k ≤ 3 → s ≤ k → lev ≤ plans.length →
    Cal C (n + k + 3) (.fn 103) [.int s, .int lev, .lst (plans.map planD)] (.lst ((docs k s (plans.drop lev)).map docD))
  | 0, s, lev, _, h, _ => by
    obtain rfl : s = 0 := by lia
    exact docs_zero hK (m := n + 0)
  | k + 1, s, lev, hk, h, hl => by
    by_cases hs : s = 0
    · subst hs
      rw [show docs (k + 1) 0 (plans.drop lev) = [[]] by simp [docs]]
      exact docs_zero hK (m := n + (k + 1))
    · by_cases he : lev = plans.length
      · rw [show docs (k + 1) s (plans.drop lev) = [] by rw [he, List.drop_length]; simp [docs, hs]]
        exact docs_none hK (m := n + (k + 1)) hs (by rw [List.length_map, he]) (by lia)
      · have hlt : lev < plans.length := by lia
        have hd : plans.drop lev = plans[lev] :: plans.drop (lev + 1) := List.drop_eq_getElem_cons hlt
        have hpm : plans[lev] ∈ plans := List.getElem_mem hlt
        obtain ⟨o1, o2⟩ := ok _ hpm
        have okd : ∀ j, okPl (plans.drop j) := fun j q hq => ok q (List.mem_of_mem_drop hq)
        have hdl := docs_len (k + 1) s (plans.drop lev) (by lia) (okd lev)
        have hB3 := (bndK_le k (by lia)).2
        have hde : docs (k + 1) s (plans.drop lev) = docsA plans[lev] (fun i => docs k i (plans.drop (lev + 1))) (fun i => docs k (s - 1 - i) (plans.drop lev)) s := by
          rw [hd]; simp [docs, hs]
        rw [hde] at hdl ⊢
        exact docs_step hK (m := n + k + 1) (List.getElem?_eq_getElem hlt) hpl (by lia) (by lia) (by lia) o2 _ _
          (fun i hi => Nat.le_trans (docs_len k i _ (by lia) (okd _)) (bndK_le k (by lia)).1)
          (fun i hi o ho => Nat.le_trans (docs_width k _ _ o ho) (by lia)) (by lia)
          fun i hi => ⟨spec_docs hpl ok k i (lev + 1) (by lia) (by lia) (by lia), spec_docs hpl ok k (s - 1 - i) lev (by lia) (by lia) hl⟩
end
end
section
set_option maxHeartbeats 1000000
section
variable {C : Cst} {n : Nat} {f : Fm} {σ : Sto}
/-- two names at once, the last one first -/
theorem ex_assign2s {x y : Str} {px py tpos pos : Pos} {k : Nat} {value : Expr} {dx dy : D} (h1 : Ev C n f σ value (.tup [dx, dy])) (hx : Stk f x) (hy : Stk f y)
    (hs : swapsWithSole [.Tuple [.Name x px, .Name y py] k tpos] value pos.line f.env = pure false := by rfl)
    (hw : swappedStores [.Tuple [.Name x px, .Name y py] k tpos] value f.env = pure (some [x, y]) := by rfl) :
    Ex C n f σ (.Assign [.Tuple [.Name x px, .Name y py] k tpos] value pos) (.next ((x, .val dx) :: (y, .val dy) :: σ)) := by
  intro A ow gs av g s Q E R F kp hg h
  refine Assign_Tuple_swapped (h1 A ow gs av s _ E R F fun v s₁ W₁ e₁ r₁ => ?_) hs hw
  have F₁ := F.ext W₁ e₁
  obtain ⟨a, vs, rfl, ha, hl, hr⟩ := r₁.tup_inv
  obtain ⟨vx, r1, rfl, rx, hr1⟩ := hr.inv
  obtain ⟨vy, r2, rfl, ry, hr2⟩ := hr1.inv
  obtain rfl := hr2.inv0
  show wpAny C.M A (unpackItems (.ref a) 2 none) _ E s₁
  refine unpackItems_tuple (items := #[vx, vy]) R.hd hl fun h' he => ?_
  have keep : ∀ b o, s₁.heap.get? b = some o → h'.get? b = some o := fun b o e => he b o (Nat.ne_of_lt (Heap.lt_size e)) e
  have F' : FS C f σ ow gs av { s₁ with heap := h' } := F₁.ext (s' := { s₁ with heap := h' }) (F₁.wd.grow rfl rfl keep) (.of_keep keep)
  have up : ∀ {d v}, Rep C.P (f.mut ow ++ av) s₁.heap d v → Rep C.P (f.mut ow ++ av) h' d v := fun r => r.mono (fun b o _ e => keep b o e) fun _ h _ => h
  show wpAny C.M A (do holding [vx] (bindName f.env y vy); holding [] (bindName f.env x vx); pure ()) _ _ _
  have k₁ : Kp C g s₁.heap := kp.ext e₁
  have k₂ : Kp C g h' := fun b o hb e => keep b o (k₁ b o hb e)
  have := stores2 (Q := fun _ => Q .next) (E := E) (A := A) F' hy hx (up ry) (up rx) fun s' F'' kk => h _ s' ⟨rfl, ow, F'', kk g k₂ hg, hg⟩
  refine wpAny_bind (wpAny_holding (wpAny_bindName (wpAny_mono this (fun _ s₂ h₂ => ?_) fun _ _ x => x)))
  exact wpAny_bind (wpAny_holding (wpAny_bindName (wpAny_mono h₂ (fun _ s₃ h₃ => wpAny_pure h₃) fun _ _ x => x)))
end
theorem mulOk_bits {a b : Int} (h : Builtin.Int.intBits a + Builtin.Int.intBits b ≤ 2 ^ 27) : IntMulOk a b := by
  unfold IntMulOk
  have : Builtin.Int.intTooBig ((Builtin.Int.intBits a + Builtin.Int.intBits b : Nat) : Int) = false := by
    unfold Builtin.Int.intTooBig
    refine decide_eq_false ?_
    have : bitsLine = 2 ^ 27 := rfl
    lia
  rw [Int.natCast_add] at this
  rw [this]; simp
theorem bits_of {a : Int} {k : Nat} (h0 : 0 ≤ a) (h : a < 2 ^ k) : Builtin.Int.intBits a ≤ k := by
  rcases Int.lt_or_eq_of_le h0 with h1 | h1
  · exact intBits_lt_of h1 h
  · rw [← h1]; exact Nat.zero_le _
/-- one level of the fraction -/
noncomputable def frS (w lev a m : Nat) (p : Int × Int) : Int × Int := (2 ^ (10 * w) * p.2, 2 ^ (10 * w) * p.2 - ((a : Int) * p.2 + (m : Int) * 2 ^ (w * lev) * p.1))
noncomputable def frI (w : Nat) (plans : List Plan) : Nat → Int × Int
  | 0 => (1, 1)
  | i + 1 => frS w (2 - i) (plans.getD (2 - i) ([], [])).1.length (plans.getD (2 - i) ([], [])).2.length (frI w plans i)
structure FrOk (w j : Nat) (p : Int × Int) : Prop where
  o0 : 0 < p.1
  ou : p.1 ≤ 2 * p.2
  ub : p.2 ≤ 2 ^ (10 * w * j)
theorem frS_ok {w lev a m j : Nat} {p : Int × Int} (hw : 8 ≤ w) (hl : lev ≤ 2) (ha : a ≤ 1) (hm : m ≤ 2) (h : FrOk w j p) : FrOk w (j + 1) (frS w lev a m p) := by
  obtain ⟨o, u⟩ := p
  obtain ⟨h0, h1, h2⟩ := h
  dsimp only at h0 h1 h2
  obtain ⟨X, hX⟩ : ∃ X : Int, X = 2 ^ (10 * w) := ⟨_, rfl⟩
  obtain ⟨Y, hY⟩ : ∃ Y : Int, Y = 2 ^ (w * lev) := ⟨_, rfl⟩
  have hXY : 16 * Y ≤ X := by
    have e1 : w * lev ≤ w * 2 := Nat.mul_le_mul_left w hl
    have h3 : (2 : Int) ^ (4 + w * lev) ≤ 2 ^ (10 * w) := pow2_le (by lia)
    have h4 : (2 : Int) ^ (4 + w * lev) = 16 * Y := by rw [Int.pow_add, hY]; rfl
    rw [← hX, h4] at h3; exact h3
  have hY0 : 0 < Y := by rw [hY]; exact pow_pos' _
  have u0 : 0 < u := by lia
  have hYu : 0 < Y * u := Int.mul_pos hY0 u0
  have hYu1 : u ≤ Y * u := by
    have := Int.mul_le_mul_of_nonneg_right (show (1 : Int) ≤ Y by lia) (Int.le_of_lt u0)
    lia
  have hXu : 16 * (Y * u) ≤ X * u := by
    have := Int.mul_le_mul_of_nonneg_right hXY (Int.le_of_lt u0)
    rw [Int.mul_assoc] at this; exact this
  have hYo : Y * o ≤ 2 * (Y * u) := by
    have := Int.mul_le_mul_of_nonneg_left h1 (Int.le_of_lt hY0)
    rw [Int.mul_left_comm] at this; exact this
  have hYo0 : 0 < Y * o := Int.mul_pos hY0 h0
  have hau : (a : Int) * u ≤ u := by
    have := Int.mul_le_mul_of_nonneg_right (show (a : Int) ≤ 1 by lia) (Int.le_of_lt u0)
    lia
  have hau0 : 0 ≤ (a : Int) * u := Int.mul_nonneg (by lia) (Int.le_of_lt u0)
  have hmo : (m : Int) * Y * o ≤ 2 * (Y * o) := by
    have := Int.mul_le_mul_of_nonneg_right (show (m : Int) ≤ 2 by lia) (Int.le_of_lt hYo0)
    rw [Int.mul_assoc]; exact this
  have hmo0 : 0 ≤ (m : Int) * Y * o := Int.mul_nonneg (Int.mul_nonneg (by lia) (Int.le_of_lt hY0)) (Int.le_of_lt h0)
  have hXX : X * u ≤ 2 ^ (10 * w * (j + 1)) := by
    have := Int.mul_le_mul_of_nonneg_left h2 (show (0 : Int) ≤ X by lia)
    rw [Nat.mul_succ, Nat.add_comm, Int.pow_add, ← hX]; exact this
  refine ⟨?_, ?_, ?_⟩
  · show 0 < 2 ^ (10 * w) * u; rw [← hX]; lia
  · show 2 ^ (10 * w) * u ≤ 2 * (2 ^ (10 * w) * u - ((a : Int) * u + (m : Int) * 2 ^ (w * lev) * o)); rw [← hX, ← hY]; lia
  · show 2 ^ (10 * w) * u - ((a : Int) * u + (m : Int) * 2 ^ (w * lev) * o) ≤ _; rw [← hX, ← hY]; lia
theorem frI_ok {w : Nat} {plans : List Plan} (hw : 8 ≤ w) (ok : okPl plans) : ∀ i, FrOk w i (frI w plans i)
  | 0 => ⟨show (0 : Int) < 1 by decide, show (1 : Int) ≤ 2 * 1 by decide, by simp [frI]⟩
  | i + 1 => by
    have hq : (plans.getD (2 - i) ([], [])).1.length ≤ 1 ∧ (plans.getD (2 - i) ([], [])).2.length ≤ 2 := by
      rw [List.getD_eq_getElem?_getD]
      cases h : plans[2 - i]? with
      | none => exact ⟨Nat.zero_le _, Nat.zero_le _⟩
      | some p => exact ok p (List.mem_of_getElem? h)
    exact frS_ok hw (by lia) hq.1 hq.2 (frI_ok hw ok i)
section
variable {C : Cst} (hK : C.K = hd.heap_39 C.P)
include hK
theorem spec_fraction {n : Nat} {plans : List Plan} {w : Nat} (hpl : plans.length = 3) (ok : okPl plans) (hw : 8 ≤ w) (hw2 : w ≤ 71) :
    Cal C (n + 2) (.fn 131) [.lst (plans.map planD), .int w] (.tup [.int (frI w plans 3).1, .int (frI w plans 3).2]) := by
  refine cal_fnK (names := ["plans", "width"]) hK rfl rfl rfl rfl (binds2 fun _ _ => rfl) (by decide) rfl rfl ⟨rfl, rfl, rfl⟩ rfl rfl (by decide) fun L => ?_
  obtain ⟨PD, hPD⟩ : ∃ PD, PD = plans.map planD := ⟨_, rfl⟩
  have hPl : PD.length ≤ 16777216 := by rw [hPD, List.length_map]; lia
  have hPn : ((PD.length : Nat) : Int) = 3 := by rw [hPD, List.length_map, hpl]; rfl
  have hge : ∀ k, k ≤ 2 → PD[((k : Nat) : Int).toNat]? = some (planD (plans.getD k ([], []))) ∧ (plans.getD k ([], [])).1.length ≤ 1 ∧ (plans.getD k ([], [])).2.length ≤ 2 := fun k hk => by
    have hlt : k < plans.length := by lia
    rw [Int.toNat_natCast, hPD, List.getElem?_map, List.getD_eq_getElem?_getD, List.getElem?_eq_getElem hlt]
    exact ⟨rfl, ok _ (List.getElem_mem hlt)⟩
  rw [← hPD]
  refine exs_next (by k_extra "ex") ?_
  refine exs_next (ex_for (items := (List.range (2 - (-1) : Int).toNat).map fun (k : Nat) => D.int (2 + (k : Int) * (-1))) (fun i => [("over", .val (.int (frI w plans i).1)), ("under", .val (.int (frI w plans i).2)), ("plans", .val (.lst PD)), ("width", .val (.int w))])
    (evit_call (fd := .ty "range") (by k_extra "ev") True.intro (evl_cons (ev_eq (by k_extra "ev") (by rw [hPn]; rfl)) (by k_extra "evl") rfl) (calit_range3 (by lia) (by lia) (by lia) (by lia))) (Knows.look ⟨rfl, rfl, rfl, rfl, trivial⟩) fun i d hd => ?_) ?_
  · obtain ⟨hi, rfl⟩ := range_get hd
    have hi3 : i < 3 := hi
    have e0 : D.int (2 + (i : Int) * (-1)) = .int ((2 - i : Nat) : Int) := by congr 1; lia
    rw [e0]
    obtain ⟨hp, hq1, hq2⟩ := hge (2 - i) (by lia)
    have hfr := frI_ok (w := w) hw ok i
    have hfs : frI w plans (i + 1) = frS w (2 - i) (plans.getD (2 - i) ([], [])).1.length (plans.getD (2 - i) ([], [])).2.length (frI w plans i) := rfl
    rw [hfs]
    have hlv : 2 - i ≤ 2 := by lia
    generalize plans.getD (2 - i) ([], []) = q at hp hq1 hq2 ⊢
    generalize 2 - i = lev at hp hlv ⊢
    have hf2 := frS_ok (a := q.1.length) (m := q.2.length) hw hlv hq1 hq2 hfr
    generalize frI w plans i = ou at hfr hf2 ⊢
    obtain ⟨o, u⟩ := ou
    obtain ⟨h0, h1, h2⟩ := hfr
    dsimp only at h0 h1 h2 ⊢
    have u0 : 0 < u := by lia
    have hj : 10 * w * i ≤ 10 * 71 * 2 := Nat.mul_le_mul (by lia) (by lia)
    have hU : u < 2 ^ 1421 := by have := pow2_le hj; have h6 : (2 : Int) ^ 1421 = 2 * 2 ^ (10 * 71 * 2) := rfl; have := pow_pos' (10 * 71 * 2); lia
    have hO : o < 2 ^ 1422 := by have h6 : (2 : Int) ^ 1422 = 2 * 2 ^ 1421 := rfl; lia
    have bU := bits_of (Int.le_of_lt u0) hU
    have bO := bits_of (Int.le_of_lt h0) hO
    have l1 : (sgD q.1).length ≤ 16777216 := by rw [sgD, List.length_map]; lia
    have l2 : (sgD q.2).length ≤ 16777216 := by rw [sgD, List.length_map]; lia
    have n1 : (((sgD q.1).length : Nat) : Int) = q.1.length := by rw [sgD, List.length_map]
    have n2 : (((sgD q.2).length : Nat) : Int) = q.2.length := by rw [sgD, List.length_map]
    have m1 : IntMulOk (((sgD q.1).length : Nat) : Int) u := mulOk_left (by rw [n1]; lia)
    have i1 : ((w : Int) * (lev : Int)) = ((w * lev : Nat) : Int) := by simp
    have hwl : w * lev ≤ 71 * 2 := Nat.mul_le_mul hw2 hlv
    have m2 : IntMulOk (w : Int) (lev : Int) := mulOk_left (by lia)
    have tb : Builtin.Int.intBits (2 : Int) ≤ 2 := intBits_le (by decide)
    have p0 : (0 : Int) ≤ (w : Int) * (lev : Int) := by rw [i1]; lia
    have p1 : ((Builtin.Int.intBits (2 : Int) : Nat) : Int) * ((w : Int) * (lev : Int)) ≤ 2 ^ 27 := by
      have : ((Builtin.Int.intBits (2 : Int) : Nat) : Int) * ((w : Int) * (lev : Int)) ≤ 2 * 142 := Int.mul_le_mul (by lia) (by rw [i1]; lia) p0 (by lia)
      lia
    have m3 : IntMulOk (((sgD q.2).length : Nat) : Int) ((2 : Int) ^ ((w : Int) * (lev : Int)).toNat) := mulOk_left (by rw [n2]; lia)
    have t1 : ((w : Int) * (lev : Int)).toNat = w * lev := by rw [i1]; rfl
    have hmY0 : (0 : Int) ≤ (((sgD q.2).length : Nat) : Int) * ((2 : Int) ^ ((w : Int) * (lev : Int)).toNat) := Int.mul_nonneg (by lia) (by rw [t1]; exact Int.le_of_lt (pow_pos' _))
    have hmY : (((sgD q.2).length : Nat) : Int) * ((2 : Int) ^ ((w : Int) * (lev : Int)).toNat) < 2 ^ 200 := by
      have g1 := pow2_le hwl
      have g0 := pow_pos' (w * lev)
      rw [t1, n2]
      have g2 : (q.2.length : Int) * 2 ^ (w * lev) ≤ 2 * 2 ^ (71 * 2) := Int.mul_le_mul (by lia) g1 (Int.le_of_lt g0) (by decide)
      exact Int.lt_of_le_of_lt g2 (by decide)
    have bY := bits_of hmY0 hmY
    have m4 : IntMulOk ((((sgD q.2).length : Nat) : Int) * ((2 : Int) ^ ((w : Int) * (lev : Int)).toNat)) o := mulOk_bits (by lia)
    have m5 : IntMulOk (10 : Int) (w : Int) := mulOk_left (by decide)
    have p2 : (0 : Int) ≤ (10 : Int) * (w : Int) := by lia
    have p3 : ((Builtin.Int.intBits (2 : Int) : Nat) : Int) * ((10 : Int) * (w : Int)) ≤ 2 ^ 27 := by
      have : ((Builtin.Int.intBits (2 : Int) : Nat) : Int) * ((10 : Int) * (w : Int)) ≤ 2 * 710 := Int.mul_le_mul (by lia) (by lia) p2 (by lia)
      lia
    have t2 : ((10 : Int) * (w : Int)).toNat = 10 * w := by lia
    have hX0 := pow_pos' (10 * w)
    have hX : (2 : Int) ^ (10 * w) < 2 ^ 711 := by
      have g1 : (2 : Int) ^ (10 * w) ≤ 2 ^ 710 := pow2_le (by lia)
      exact Int.lt_of_le_of_lt g1 (by decide)
    have bX := bits_of (Int.le_of_lt hX0) hX
    have m6 : IntMulOk ((2 : Int) ^ ((10 : Int) * (w : Int)).toNat) u := by rw [t2]; exact mulOk_bits (by lia)
    have lb0 : (0 : Int) ≤ (lev : Int) := by lia
    have lb1 : (lev : Int) < 2 ^ 63 := by lia
    obtain ⟨LS, hLS⟩ : ∃ LS : Int, LS = (q.1.length : Int) * u + (q.2.length : Int) * 2 ^ (w * lev) * o := ⟨_, rfl⟩
    refine ⟨_, bnd_name (by k_extra "stk"), exs_to (exs_next (ex_assign2 (dx := .lst (sgD q.1)) (dy := .lst (sgD q.2)) (ev_sub (by k_extra "ev") (by k_extra "ev") (sub_list lb0 lb1 hp)) (by k_extra "stk") (by k_extra "stk") rfl rfl)
      (exs_next (ex_assign (d := .int LS) (ev_eq (ev_bin (ev_bin (by k_extra "ev") (by k_extra "ev") (bop_mul m1)) (ev_bin (ev_bin (by k_extra "ev") (ev_bin (by k_extra "ev") (ev_bin (by k_extra "ev") (by k_extra "ev") (bop_mul m2)) (bop_pow p0 p1)) (bop_mul m3)) (by k_extra "ev") (bop_mul m4)) bop_add) (by rw [hLS, n1, n2, t1])) (by k_extra "stk") rfl)
      (exs_next (ex_assign2s (dx := .int (2 ^ (10 * w) * u)) (dy := .int (2 ^ (10 * w) * u - LS)) (ev_eq (ev_tuple (evl_cons (ev_bin (ev_bin (by k_extra "ev") (ev_bin (by k_extra "ev") (by k_extra "ev") (bop_mul m5)) (bop_pow p2 p3)) (by k_extra "ev") (bop_mul m6)) (evl_cons (ev_bin (ev_bin (ev_bin (by k_extra "ev") (ev_bin (by k_extra "ev") (by k_extra "ev") (bop_mul m5)) (bop_pow p2 p3)) (by k_extra "ev") (bop_mul m6)) (by k_extra "ev") bop_sub) evl_nil rfl) rfl)) (by rw [t2])) (by k_extra "stk") (by k_extra "stk") rfl rfl) exs_nil))) ⟨?_, ?_, rfl, rfl, trivial⟩⟩
    · rw [hLS]; rfl
    · rw [hLS]; rfl
  · rw [List.length_map, List.length_range]
    exact exs_ret (by k_extra "ex")
end
end
section
-- what is told of all documents at once
section
variable {β : Type} (L : Nat → Nat → β) (E : Nat → Nat → β → β) (app : β → β → β) (nil : β)
noncomputable def firstsM (d : Nat) (p : Plan) (i : Nat) (X : List β) : List β := (if i = 0 then p.1.map (L d) else []) ++ X.flatMap fun x => p.2.map fun o => E d o x
noncomputable def docsM : Nat → Nat → List Plan → Nat → List β
  | 0, _, _, _ => [nil]
  | k + 1, s, ps, d => if s = 0 then [nil] else match ps with
    | [] => []
    | p :: ps => (List.range s).flatMap fun i => (docsM k (s - 1 - i) (p :: ps) d).flatMap fun oth => (firstsM L E d p i (docsM k i ps (d + 1))).map fun e => app e oth
end
theorem docs_map {β : Type} {L : Nat → Nat → β} {E : Nat → Nat → β → β} {app : β → β → β} {nil : β} (h : Nat → List El → β) (h0 : ∀ d, h d [] = nil) (hl : ∀ d a r, h d (.lt a :: r) = app (L d a) (h d r))
    (he : ∀ d o l r, h d (.el o l :: r) = app (E d o (h (d + 1) l)) (h d r)) : ∀ k s ps d, (docs k s ps).map (h d) = docsM L E app nil k s ps d
  | 0, s, ps, d => by simp [docs, docsM, h0]
  | k + 1, s, [], d => by
    by_cases hs : s = 0 <;> simp [docs, docsM, h0, hs]
  | k + 1, s, p :: ps, d => by
    by_cases hs : s = 0
    · simp [docs, docsM, h0, hs]
    · rw [show docs (k + 1) s (p :: ps) = docsA p (fun i => docs k i ps) (fun i => docs k (s - 1 - i) (p :: ps)) s by simp [docs, hs]]
      rw [show docsM L E app nil (k + 1) s (p :: ps) d = (List.range s).flatMap fun i => (docsM L E app nil k (s - 1 - i) (p :: ps) d).flatMap fun oth => (firstsM L E d p i (docsM L E app nil k i ps (d + 1))).map fun e => app e oth by simp [docsM, hs]]
      rw [docsA, List.map_flatMap]
      congr 1
      funext i
      rw [List.map_flatMap, ← docs_map h h0 hl he k (s - 1 - i) (p :: ps) d, List.flatMap_map]
      congr 1
      funext oth
      rw [List.map_map, ← docs_map h h0 hl he k i ps (d + 1), firstsA, firstsM, List.map_append, List.map_append, List.map_flatMap, List.map_flatMap, List.flatMap_map]
      congr 1
      · split
        · rw [List.map_map, List.map_map]; exact List.map_congr_left fun a _ => hl d a oth
        · rfl
      · congr 1
        funext inn
        rw [List.map_map, List.map_map]; exact List.map_congr_left fun o _ => he d o inn oth
/-- a map that keeps to the rows -/
theorem docsM_hom {β γ : Type} {L : Nat → Nat → β} {E : Nat → Nat → β → β} {app : β → β → β} {nil : β} {L' : Nat → Nat → γ} {E' : Nat → Nat → γ → γ} {app' : γ → γ → γ} {nil' : γ} (φ : β → γ) (f : Nat → Nat)
    (h0 : φ nil = nil') (ha : ∀ a b, φ (app a b) = app' (φ a) (φ b)) : ∀ k s ps d, (∀ p ∈ ps, (∀ a ∈ p.1, ∀ d, φ (L d a) = L' d (f a)) ∧ ∀ o ∈ p.2, ∀ d x, φ (E d o x) = E' d (f o) (φ x)) →
    (docsM L E app nil k s ps d).map φ = docsM L' E' app' nil' k s (ps.map fun p => (p.1.map f, p.2.map f)) d
  | 0, s, ps, d, _ => by simp [docsM, h0]
  | k + 1, s, [], d, _ => by
    by_cases hs : s = 0 <;> simp [docsM, h0, hs]
  | k + 1, s, p :: ps, d, h => by
    by_cases hs : s = 0
    · simp [docsM, h0, hs]
    · rw [show docsM L E app nil (k + 1) s (p :: ps) d = (List.range s).flatMap fun i => (docsM L E app nil k (s - 1 - i) (p :: ps) d).flatMap fun oth => (firstsM L E d p i (docsM L E app nil k i ps (d + 1))).map fun e => app e oth by simp [docsM, hs]]
      rw [show docsM L' E' app' nil' (k + 1) s ((p :: ps).map fun p => (p.1.map f, p.2.map f)) d = (List.range s).flatMap fun i => (docsM L' E' app' nil' k (s - 1 - i) ((p :: ps).map fun p => (p.1.map f, p.2.map f)) d).flatMap fun oth => (firstsM L' E' d (p.1.map f, p.2.map f) i (docsM L' E' app' nil' k i (ps.map fun p => (p.1.map f, p.2.map f)) (d + 1))).map fun e => app' e oth by simp [docsM, hs]]
      obtain ⟨q1, q2⟩ := h p (List.mem_cons_self ..)
      rw [List.map_flatMap]
      congr 1
      funext i
      rw [List.map_flatMap, ← docsM_hom φ f h0 ha k (s - 1 - i) (p :: ps) d h, List.flatMap_map]
      congr 1
      funext oth
      rw [List.map_map, ← docsM_hom φ f h0 ha k i ps (d + 1) fun q hq => h q (List.mem_cons_of_mem _ hq), firstsM, firstsM, List.map_append, List.map_append, List.map_flatMap, List.map_flatMap, List.flatMap_map]
      congr 1
      · split
        · rw [List.map_map, List.map_map, List.map_map]; exact List.map_congr_left fun a hm => by show φ (app (L d a) oth) = app' (L' d (f a)) (φ oth); rw [ha, q1 a hm]
        · rfl
      · congr 1
        funext inn
        rw [List.map_map, List.map_map, List.map_map]; exact List.map_congr_left fun o hm => by show φ (app (E d o inn) oth) = app' (E' d (f o) (φ inn)) (φ oth); rw [ha, q2 o hm]
theorem flatMap_sub {α γ : Type} {l l' : List α} {f g : α → List γ} (h : l.Sublist l') (hf : ∀ a, (f a).Sublist (g a)) : (l.flatMap f).Sublist (l'.flatMap g) := by
  induction h with
  | slnil => exact .slnil
  | cons a _ ih => rw [List.flatMap_cons]; exact ih.trans (List.sublist_append_right ..)
  | cons_cons a _ ih => rw [List.flatMap_cons, List.flatMap_cons]; exact (hf a).append ih
noncomputable def subP : List Plan → List Plan → Prop
  | [], [] => True
  | p :: ps, q :: qs => p.1.Sublist q.1 ∧ p.2.Sublist q.2 ∧ subP ps qs
  | _, _ => False
theorem docsM_sub {β : Type} {L : Nat → Nat → β} {E : Nat → Nat → β → β} {app : β → β → β} {nil : β} : ∀ k s ps qs d, subP ps qs → (docsM L E app nil k s ps d).Sublist (docsM L E app nil k s qs d)
  | 0, s, ps, qs, d, _ => by simp [docsM]
  | k + 1, s, [], [], d, _ => List.Sublist.refl _
  | k + 1, s, p :: ps, q :: qs, d, h => by
    by_cases hs : s = 0
    · simp [docsM, hs]
    · have e : ∀ (p : Plan) ps, docsM L E app nil (k + 1) s (p :: ps) d = (List.range s).flatMap fun i => (docsM L E app nil k (s - 1 - i) (p :: ps) d).flatMap fun oth => (firstsM L E d p i (docsM L E app nil k i ps (d + 1))).map fun e => app e oth := fun p ps => by simp [docsM, hs]
      rw [e, e]
      refine flatMap_sub (List.Sublist.refl _) fun i => flatMap_sub (docsM_sub k _ _ _ d h) fun oth => List.Sublist.map _ ?_
      refine List.Sublist.append ?_ (flatMap_sub (docsM_sub k i ps qs (d + 1) h.2.2) fun x => h.2.1.map _)
      split
      · exact h.1.map _
      · exact List.Sublist.refl _
end
section
-- no two texts are alike
noncomputable def codeN (l : List Nat) : Nat := l.foldl (fun a c => a * 256 + c) 1
/-- x is none of the list's -/
noncomputable def nonN (x : Nat) (l : List Nat) : Bool := @List.rec Nat (fun _ => Bool) true (fun y _ ih => @Bool.rec (fun _ => Bool) ih false (Nat.beq x y)) l
noncomputable def nodupN (l : List Nat) : Bool := @List.rec Nat (fun _ => Bool) true (fun x l ih => @Bool.rec (fun _ => Bool) false ih (nonN x l)) l
theorem nonN_ok {x : Nat} {l : List Nat} (h : nonN x l = true) : x ∉ l := by
  induction l with
  | nil => exact List.not_mem_nil
  | cons y l ih =>
    have h' : @Bool.rec (fun _ => Bool) (nonN x l) false (Nat.beq x y) = true := h
    cases hb : Nat.beq x y <;> rw [hb] at h'
    · refine fun hm => (List.mem_cons.mp hm).elim (fun e => ?_) (ih h')
      rw [e, Nat.beq_refl] at hb; cases hb
    · cases h'
theorem nodupN_ok {l : List Nat} (h : nodupN l = true) : l.Nodup := by
  induction l with
  | nil => exact .nil
  | cons x l ih =>
    have h' : @Bool.rec (fun _ => Bool) false (nodupN l) (nonN x l) = true := h
    cases hb : nonN x l <;> rw [hb] at h'
    · cases h'
    · exact List.nodup_cons.mpr ⟨nonN_ok hb, ih h'⟩
noncomputable def tE (T : List (Nat × List Nat)) (c : Nat) (d o : Nat) (x : List Nat) : List Nat := spell T o d ++ x ++ spell T c d
noncomputable def textsM (T : List (Nat × List Nat)) (c : Nat) (ps : List Plan) : List (List Nat) := (List.range 4).flatMap fun s => docsM (fun _ a => [a]) (tE T c) (· ++ ·) [] 3 s ps 0
noncomputable def sgN (k i : Nat) : Nat := ((t5 k).map (·.1)).getD i 0
noncomputable def fullP (a o1 o2 : Nat) : List Plan := [([a], [o1, o2]), ([a], [o1, o2]), ([a], [o1, o2])]
noncomputable def nodK (k cl : Nat) : Bool := nodupN ((textsM (t5 k) (sgN k cl) (fullP 200 (sgN k (cl - 1)) (sgN k ((cl + (t5 k).length - 2) % (t5 k).length)))).map codeN)
theorem nod_0 : ((List.range' 1 ((t5 0).length - 1)).all fun cl => nodK 0 cl) = true := by decide +kernel
theorem nod_1 : ((List.range' 1 ((t5 1).length - 1)).all fun cl => nodK 1 cl) = true := by decide +kernel
theorem nod_2 : ((List.range' 1 ((t5 2).length - 1)).all fun cl => nodK 2 cl) = true := by decide +kernel
theorem nod_3 : ((List.range' 1 ((t5 3).length - 1)).all fun cl => nodK 3 cl) = true := by decide +kernel
theorem nod_4 : ((List.range' 1 ((t5 4).length - 1)).all fun cl => nodK 4 cl) = true := by decide +kernel
theorem nod_all : ((List.range 5).all fun k => (List.range' 1 ((t5 k).length - 1)).all fun cl => nodK k cl) = true := by
  refine List.all_eq_true.mpr fun k hk => ?_
  have hk := List.mem_range.mp hk
  obtain rfl | rfl | rfl | rfl | rfl : k = 0 ∨ k = 1 ∨ k = 2 ∨ k = 3 ∨ k = 4 := by lia
  · exact nod_0
  · exact nod_1
  · exact nod_2
  · exact nod_3
  · exact nod_4
noncomputable def shPl (q : Nat × Nat) : Plan := (List.replicate q.1 0, List.replicate q.2 0)
noncomputable def placesN (sh : List (Nat × Nat)) : List Nat := (List.range 4).flatMap fun s => (docsM (fun _ _ => 0) (fun d _ x => 2 * d + x) (· + ·) 0 3 s (sh.map shPl) 0).map fun x => 10 * (3 - s) + x / 2
noncomputable def cntB (p : Nat) (l : List Nat) : Nat := @List.rec Nat (fun _ => Nat) 0 (fun x _ ih => @Bool.rec (fun _ => Nat) ih ih.succ (Nat.beq x p)) l
noncomputable def cntsN (sh : List (Nat × Nat)) : List Nat := (List.range 31).map fun p => cntB p (placesN sh)
noncomputable def horner (w : Nat) (l : List Nat) : Nat := @List.rec Nat (fun _ => Nat) 0 (fun c _ ih => Nat.add c (Nat.mul (Nat.pow 2 w) ih)) l
noncomputable def frNS (w lev : Nat) (q p : Nat × Nat) : Nat × Nat := (2 ^ (10 * w) * p.2, 2 ^ (10 * w) * p.2 - (q.1 * p.2 + q.2 * 2 ^ (w * lev) * p.1))
noncomputable def frN (w : Nat) (sh : List (Nat × Nat)) : Nat → Nat × Nat
  | 0 => (1, 1)
  | i + 1 => frNS w (2 - i) (sh.getD (2 - i) (0, 0)) (frN w sh i)
noncomputable def numOk (sh : List (Nat × Nat)) (w : Nat) : Bool := Nat.beq ((frN w sh 3).1 * 2 ^ (75 * w) / (frN w sh 3).2 / 2 ^ (45 * w)) (horner w (cntsN sh))
noncomputable def qsN : List (Nat × Nat) := [(0, 1), (0, 2), (1, 1), (1, 2)]
/-- the table ends in one, and its signs are small -/
noncomputable def tabOk (l : List Nat) : Bool := l.all (fun c => Nat.ble c 200) && Nat.beq (l.getD 30 0) 1
noncomputable def numK (x y z : Nat × Nat) : Bool := tabOk (cntsN [x, y, z]) && ((List.range' 8 64).all (numOk [x, y, z]))
theorem num_0 : (qsN.all fun y => qsN.all fun z => numK (0, 1) y z) = true := by decide +kernel
theorem num_1 : (qsN.all fun y => qsN.all fun z => numK (0, 2) y z) = true := by decide +kernel
theorem num_2 : (qsN.all fun y => qsN.all fun z => numK (1, 1) y z) = true := by decide +kernel
theorem num_3 : (qsN.all fun y => qsN.all fun z => numK (1, 2) y z) = true := by decide +kernel
theorem num_all : (qsN.all fun x => qsN.all fun y => qsN.all fun z => numK x y z) = true := by
  refine List.all_eq_true.mpr fun x hx => ?_
  rw [qsN] at hx
  simp only [List.mem_cons, List.not_mem_nil, or_false] at hx
  obtain rfl | rfl | rfl | rfl := hx
  · exact num_0
  · exact num_1
  · exact num_2
  · exact num_3
end
section
theorem nodup_of_map {α β : Type} (f : α → β) {l : List α} (h : (l.map f).Nodup) : l.Nodup := List.Pairwise.of_map f (fun a b hab e => hab (by rw [e])) h
theorem nodK_of {k cl : Nat} (hk : k < 5) (h1 : 1 ≤ cl) (h2 : cl < (t5 k).length) : nodK k cl = true := by
  have h := List.all_eq_true.mp nod_all k (List.mem_range.mpr hk)
  exact List.all_eq_true.mp h cl (List.mem_range'_1.mpr ⟨h1, by lia⟩)
noncomputable def okN (T : List (Nat × List Nat)) : Bool := T.all fun p => Nat.blt p.1 128 && (!(Nat.beq p.1 59) && (p.2.tail.all (fun x => Nat.blt x 128) && Nat.beq (p.2.tail.count 59) 1))
structure OkN (T : List (Nat × List Nat)) : Prop where
  sg : ∀ c, (T.lookup c).isSome = true → c < 128 ∧ c ≠ 59
  nm : ∀ c, (T.lookup c).isSome = true → (∀ x ∈ nameT T c, x < 128) ∧ (nameT T c).count 59 = 1
theorem OkN.of {T : List (Nat × List Nat)} (h : okN T = true) : OkN T := by
  have key : ∀ c, (T.lookup c).isSome = true → (c < 128 ∧ c ≠ 59) ∧ (∀ x ∈ nameT T c, x < 128) ∧ (nameT T c).count 59 = 1 := fun c hc => by
    obtain ⟨z, hz⟩ := Option.isSome_iff_exists.mp hc
    have h1 := List.all_eq_true.mp h _ (lookup_mem hz)
    simp only [Bool.and_eq_true, Nat.blt_eq, Bool.not_eq_true', List.all_eq_true] at h1
    obtain ⟨a, b, d, e⟩ := h1
    have hn : nameT T c = z.tail := by rw [nameT, hz]; rfl
    rw [hn]
    exact ⟨⟨a, fun q => by rw [q] at b; cases b⟩, d, Nat.eq_of_beq_eq_true e⟩
  exact ⟨fun c hc => (key c hc).1, fun c hc => (key c hc).2⟩
theorem t5_okN (k : Nat) : okN (t5 k) = true := by
  match k with
  | 0 => decide
  | 1 => decide
  | 2 => decide
  | 3 => decide
  | k + 4 => show okN Tac = true; decide
theorem spell_lt {T : List (Nat × List Nat)} (ok : OkN T) {c : Nat} (hc : (T.lookup c).isSome = true) (d : Nat) : ∀ x ∈ spell T c d, x < 128 := by
  intro x hx
  unfold spell at hx
  split at hx
  · rw [List.mem_singleton.mp hx]; exact (ok.sg c hc).1
  · rcases List.mem_append.mp hx with hx | hx
    · rcases List.mem_append.mp hx with hx | hx
      · rw [List.mem_singleton.mp hx]; decide
      · obtain ⟨l, hl, hx⟩ := List.mem_flatten.mp hx
        rw [(List.mem_replicate.mp hl).2] at hx
        exact (by decide : ∀ y ∈ ([97, 109, 112, 59] : List Nat), y < 128) x hx
    · exact (ok.nm c hc).1 x hx
theorem spell_cnt {T : List (Nat × List Nat)} (ok : OkN T) {c : Nat} (hc : (T.lookup c).isSome = true) (d : Nat) : (spell T c d).count 59 = d := by
  unfold spell
  split
  · rename_i h
    rw [List.count_singleton, h, beq_eq_false_iff_ne.mpr (ok.sg c hc).2]; rfl
  · rename_i h
    rw [List.count_append, List.count_append, (ok.nm c hc).2, List.count_flatten, List.map_replicate, show List.count 59 [97, 109, 112, 59] = 1 from rfl, List.sum_replicate_nat, show List.count 59 [38] = 0 from rfl]
    lia
/-- the levels' letters and openers -/
noncomputable def plP (a o1 o2 : Nat) (q : Nat × Nat) : Plan := ([a].take q.1, [o1, o2].take q.2)
theorem plP_mem {a o1 o2 : Nat} {sh : List (Nat × Nat)} {p : Plan} (h : p ∈ sh.map (plP a o1 o2)) : (∀ x ∈ p.1, x = a) ∧ ∀ o ∈ p.2, o = o1 ∨ o = o2 := by
  obtain ⟨q, _, rfl⟩ := List.mem_map.mp h
  refine ⟨fun x hx => List.mem_singleton.mp (List.mem_of_mem_take hx), fun o ho => ?_⟩
  have := List.mem_of_mem_take ho
  simpa using this
theorem subP_map {a o1 o2 : Nat} : ∀ sh : List (Nat × Nat), sh.length = 3 → subP (sh.map (plP a o1 o2)) (fullP a o1 o2)
  | [x, y, z], _ => ⟨List.take_sublist .., List.take_sublist .., List.take_sublist .., List.take_sublist .., List.take_sublist .., List.take_sublist .., trivial⟩
theorem texts_nodup {k cl a : Nat} {sh : List (Nat × Nat)} (hk : k < 5) (h1 : 1 ≤ cl) (h2 : cl < (t5 k).length) (ha : 128 ≤ a) (hs : sh.length = 3) (o1 o2 : Nat) (e1 : o1 = sgN k (cl - 1)) (e2 : o2 = sgN k ((cl + (t5 k).length - 2) % (t5 k).length))
    (hc : ((t5 k).lookup (sgN k cl)).isSome = true) (ho1 : ((t5 k).lookup o1).isSome = true) (ho2 : ((t5 k).lookup o2).isSome = true) : (textsM (t5 k) (sgN k cl) (sh.map (plP a o1 o2))).Nodup := by
  have hN := nodK_of hk h1 h2
  rw [nodK, ← e1, ← e2] at hN
  have ok := OkN.of (t5_okN k)
  have hF : (textsM (t5 k) (sgN k cl) (fullP 200 o1 o2)).Nodup := nodup_of_map _ (nodupN_ok hN)
  obtain ⟨g, hg⟩ : ∃ g : Nat → Nat, g = fun x => if x = a then 200 else x := ⟨_, rfl⟩
  have gl : ∀ x, x < 128 → g x = x := fun x hx => by rw [hg]; exact if_neg (by lia)
  have gL : ∀ l : List Nat, (∀ x ∈ l, x < 128) → l.map g = l := fun l hl => by
    conv => rhs; rw [← List.map_id l]
    exact List.map_congr_left fun x hx => gl x (hl x hx)
  have hsp : (sh.map (plP a o1 o2)).map (fun p => (p.1.map g, p.2.map g)) = sh.map (plP 200 o1 o2) := by
    rw [List.map_map]
    refine List.map_congr_left fun q _ => ?_
    show (([a].take q.1).map g, ([o1, o2].take q.2).map g) = ([200].take q.1, [o1, o2].take q.2)
    rw [List.map_take, List.map_take, gL [o1, o2] fun x hx => ?_]
    · rw [show [a].map g = [200] by rw [hg]; simp]
    · rcases List.mem_cons.mp hx with rfl | hx
      · exact (ok.sg _ ho1).1
      · rw [List.mem_singleton.mp hx]; exact (ok.sg _ ho2).1
  have hmap : (textsM (t5 k) (sgN k cl) (sh.map (plP a o1 o2))).map (List.map g) = textsM (t5 k) (sgN k cl) (sh.map (plP 200 o1 o2)) := by
    unfold textsM
    rw [List.map_flatMap]
    congr 1
    funext s
    rw [← hsp]
    refine docsM_hom (List.map g) g rfl (fun a b => List.map_append) 3 s _ 0 fun p hp => ⟨fun x _ d => rfl, fun o ho d x => ?_⟩
    have hor := (plP_mem hp).2 o ho
    have hoT : ((t5 k).lookup o).isSome = true := by rcases hor with rfl | rfl <;> assumption
    rw [gl o (ok.sg o hoT).1, tE, tE, List.map_append, List.map_append, gL _ (spell_lt ok hoT d), gL _ (spell_lt ok hc d)]
  have hsub : (textsM (t5 k) (sgN k cl) (sh.map (plP 200 o1 o2))).Sublist (textsM (t5 k) (sgN k cl) (fullP 200 o1 o2)) :=
    flatMap_sub (List.Sublist.refl _) fun s => docsM_sub 3 s _ _ 0 (subP_map sh hs)
  exact nodup_of_map (List.map g) (hmap ▸ hF.sublist hsub)
-- the documents' rows
noncomputable def drawnP (ps : List Plan) : List (Nat × List El) := (List.range 4).flatMap fun s => (docs 3 s ps).map fun l => (s, l)
theorem tols_docs (T : List (Nat × List Nat)) (c k s : Nat) (ps : List Plan) (d : Nat) : (docs k s ps).map (El.tols T c d) = docsM (fun _ a => [a]) (tE T c) (· ++ ·) [] k s ps d :=
  docs_map (fun d l => El.tols T c d l) (fun d => by simp [El.tols]) (fun d a r => by simp [El.tols, El.tol]) (fun d o l r => by simp [El.tols, El.tol, tE]) k s ps d
theorem drawn_texts (T : List (Nat × List Nat)) (c : Nat) (ps : List Plan) : (drawnP ps).map (fun p => El.tols T c 0 p.2) = textsM T c ps := by
  unfold drawnP textsM
  rw [List.map_flatMap]
  congr 1
  funext s
  rw [List.map_map, ← tols_docs]; rfl
theorem drawn_places {T : List (Nat × List Nat)} (ok : OkN T) {c a o1 o2 : Nat} {sh : List (Nat × Nat)} (ha : a ≠ 59) (hq : ∀ q ∈ sh, q.1 ≤ 1 ∧ q.2 ≤ 2) (hc : (T.lookup c).isSome = true) (ho1 : (T.lookup o1).isSome = true) (ho2 : (T.lookup o2).isSome = true) :
    (drawnP (sh.map (plP a o1 o2))).map (fun p => 10 * (3 - p.1) + (El.tols T c 0 p.2).count 59 / 2) = placesN sh := by
  unfold drawnP placesN
  rw [List.map_flatMap]
  congr 1
  funext s
  rw [List.map_map]
  have e : (fun x => 10 * (3 - s) + x / 2) ∘ (List.count 59) ∘ (El.tols T c 0) = (fun p : Nat × List El => 10 * (3 - p.1) + (El.tols T c 0 p.2).count 59 / 2) ∘ fun l => (s, l) := rfl
  rw [← e, ← List.map_map, ← List.map_map, tols_docs]
  congr 1
  have hsp : sh.map shPl = (sh.map (plP a o1 o2)).map (fun p => (p.1.map fun _ => 0, p.2.map fun _ => 0)) := by
    rw [List.map_map]
    refine List.map_congr_left fun q hm => ?_
    obtain ⟨q1, q2⟩ := hq q hm
    show (List.replicate q.1 0, List.replicate q.2 0) = (([a].take q.1).map fun _ => 0, ([o1, o2].take q.2).map fun _ => 0)
    rw [List.map_const', List.map_const', List.length_take, List.length_take]
    congr 2
    · simp only [List.length_singleton]; lia
    · simp only [List.length_cons, List.length_nil]; lia
  rw [hsp]
  refine docsM_hom (List.count 59) (fun _ => 0) rfl (fun a b => List.count_append) 3 s _ 0 fun p hp => ⟨fun x hx d => ?_, fun o ho d x => ?_⟩
  · rw [(plP_mem hp).1 x hx, List.count_singleton, beq_eq_false_iff_ne.mpr ha]; rfl
  · have hor := (plP_mem hp).2 o ho
    have hoT : (T.lookup o).isSome = true := by rcases hor with rfl | rfl <;> assumption
    rw [tE, List.count_append, List.count_append, spell_cnt ok hoT, spell_cnt ok hc]; lia
theorem docs_ok {T : List (Nat × List Nat)} : ∀ (k s : Nat) (ps : List Plan), (∀ p ∈ ps, (∀ x ∈ p.1, T.lookup x = none) ∧ ∀ o ∈ p.2, (T.lookup o).isSome = true) → ∀ l ∈ docs k s ps, El.oks T ps.length l ∧ El.lettersL T l ∧ El.szs l ≤ s
  | 0, s, ps, _, l, hl => by
    rw [List.mem_singleton.mp hl]; simp [El.oks, El.lettersL, El.szs]
  | k + 1, s, [], _, l, hl => by
    by_cases hs : s = 0
    · rw [show docs (k + 1) s [] = [[]] by simp [docs, hs]] at hl
      rw [List.mem_singleton.mp hl]; simp [El.oks, El.lettersL, El.szs]
    · rw [show docs (k + 1) s [] = [] by simp [docs, hs]] at hl; cases hl
  | k + 1, s, p :: ps, h, l, hl => by
    by_cases hs : s = 0
    · rw [show docs (k + 1) s (p :: ps) = [[]] by simp [docs, hs]] at hl
      rw [List.mem_singleton.mp hl]; simp [El.oks, El.lettersL, El.szs]
    · rw [show docs (k + 1) s (p :: ps) = docsA p (fun i => docs k i ps) (fun i => docs k (s - 1 - i) (p :: ps)) s by simp [docs, hs]] at hl
      obtain ⟨i, hi, oth, ho, e, he, rfl⟩ := docsA_mem.mp hl
      obtain ⟨a1, a2, a3⟩ := docs_ok k _ _ h oth ho
      obtain ⟨p1, p2⟩ := h p (List.mem_cons_self ..)
      have hlen : (p :: ps).length = ps.length + 1 := rfl
      rw [hlen] at a1 ⊢
      rw [firstsA] at he
      rcases List.mem_append.mp he with he | he
      · by_cases h0 : i = 0
        · rw [if_pos h0] at he
          obtain ⟨x, hx, rfl⟩ := List.mem_map.mp he
          refine ⟨by simp only [El.oks, El.ok]; exact ⟨trivial, a1⟩, by simp only [El.lettersL, El.letters]; exact ⟨p1 x hx, a2⟩, ?_⟩
          simp only [El.szs, El.sz]; lia
        · rw [if_neg h0] at he; cases he
      · obtain ⟨inn, hinn, he⟩ := List.mem_flatMap.mp he
        obtain ⟨o, ho2, rfl⟩ := List.mem_map.mp he
        obtain ⟨b1, b2, b3⟩ := docs_ok k i ps (fun q hq => h q (List.mem_cons_of_mem _ hq)) inn hinn
        refine ⟨by simp only [El.oks, El.ok]; exact ⟨⟨p2 o ho2, b1⟩, a1⟩, by simp only [El.lettersL, El.letters]; exact ⟨b2, a2⟩, ?_⟩
        simp only [El.szs, El.sz]; lia
end
section
noncomputable def shOf (p : Plan) : Nat × Nat := (p.1.length, p.2.length)
theorem shOf_getD (plans : List Plan) (j : Nat) : (plans.map shOf).getD j (0, 0) = ((plans.getD j ([], [])).1.length, (plans.getD j ([], [])).2.length) := by
  rw [List.getD_eq_getElem?_getD, List.getD_eq_getElem?_getD, List.getElem?_map]
  cases plans[j]? <;> rfl
theorem frI_cast {w : Nat} {plans : List Plan} (hw : 8 ≤ w) (ok : okPl plans) : ∀ i, (frI w plans i).1 = (((frN w (plans.map shOf) i).1 : Nat) : Int) ∧ (frI w plans i).2 = (((frN w (plans.map shOf) i).2 : Nat) : Int)
  | 0 => ⟨rfl, rfl⟩
  | i + 1 => by
    obtain ⟨h1, h2⟩ := frI_cast hw ok i
    have hok := frI_ok (w := w) hw ok (i + 1)
    have e1 : frI w plans (i + 1) = frS w (2 - i) (plans.getD (2 - i) ([], [])).1.length (plans.getD (2 - i) ([], [])).2.length (frI w plans i) := rfl
    have e2 : frN w (plans.map shOf) (i + 1) = frNS w (2 - i) ((plans.map shOf).getD (2 - i) (0, 0)) (frN w (plans.map shOf) i) := rfl
    rw [e1] at hok ⊢
    rw [e2, shOf_getD]
    generalize (plans.getD (2 - i) ([], [])).1.length = a at hok ⊢
    generalize (plans.getD (2 - i) ([], [])).2.length = m at hok ⊢
    generalize frI w plans i = p at h1 h2 hok ⊢
    generalize frN w (plans.map shOf) i = q at h1 h2 ⊢
    obtain ⟨o, u⟩ := p
    obtain ⟨x, y⟩ := q
    dsimp only at h1 h2
    subst h1; subst h2
    have c1 : (2 : Int) ^ (10 * w) * (y : Int) = ((2 ^ (10 * w) * y : Nat) : Int) := by simp
    have c2 : (a : Int) * (y : Int) + (m : Int) * 2 ^ (w * (2 - i)) * (x : Int) = ((a * y + m * 2 ^ (w * (2 - i)) * x : Nat) : Int) := by simp
    have f1 : (frS w (2 - i) a m ((x : Int), (y : Int))).1 = ((2 ^ (10 * w) * y : Nat) : Int) := c1
    have f2 : (frS w (2 - i) a m ((x : Int), (y : Int))).2 = ((2 ^ (10 * w) * y : Nat) : Int) - ((a * y + m * 2 ^ (w * (2 - i)) * x : Nat) : Int) := by rw [← c1, ← c2]; rfl
    have k1 := hok.o0
    have k2 := hok.ou
    rw [f2] at k2
    refine ⟨f1, ?_⟩
    rw [f2]
    show _ = ((2 ^ (10 * w) * y - (a * y + m * 2 ^ (w * (2 - i)) * x) : Nat) : Int)
    lia
theorem horner_cast (w : Nat) : ∀ l : List Nat, ((horner w l : Nat) : Int) = valD w (l.map fun n : Nat => (n : Int))
  | [] => rfl
  | c :: l => by rw [show horner w (c :: l) = c + 2 ^ w * horner w l from rfl, List.map_cons, valD, ← horner_cast w l]; simp
theorem numK_of {x y z : Nat × Nat} (hx : x ∈ qsN) (hy : y ∈ qsN) (hz : z ∈ qsN) : numK x y z = true :=
  List.all_eq_true.mp (List.all_eq_true.mp (List.all_eq_true.mp num_all x hx) y hy) z hz
structure NumL (w : Nat) (OV UN : Int) (cs : List Int) : Prop where
  u0 : 0 < UN
  o0 : 0 ≤ OV
  ob : Builtin.Int.intBits OV ≤ 8192
  ub : Builtin.Int.intBits UN ≤ 4000
  qb : Builtin.Int.intBits OV ≤ 4096 * Builtin.Int.intBits UN - Builtin.Int.intBits UN
  xb : Builtin.Int.intBits (OV / UN / 2 ^ (45 * w)) ≤ 8192
  x0 : 0 ≤ OV / UN / 2 ^ (45 * w)
  ds : digs w ((Builtin.Int.intBits (OV / UN / 2 ^ (45 * w)) + w - 1) / w) (OV / UN / 2 ^ (45 * w)) = cs
theorem num_law {w : Nat} {plans : List Plan} {x y z : Nat × Nat} (hx : x ∈ qsN) (hy : y ∈ qsN) (hz : z ∈ qsN) (hsh : plans.map shOf = [x, y, z]) (ok : okPl plans) (hw : 8 ≤ w) (hw2 : w ≤ 71) :
    NumL w ((frI w plans 3).1 * 2 ^ (75 * w)) (frI w plans 3).2 ((cntsN [x, y, z]).map fun n : Nat => (n : Int)) := by
  have hK := numK_of hx hy hz
  rw [numK, Bool.and_eq_true, List.all_eq_true] at hK
  obtain ⟨ht, hn⟩ := hK
  have hn := Nat.eq_of_beq_eq_true (hn w (List.mem_range'_1.mpr ⟨hw, by lia⟩))
  obtain ⟨c1, c2⟩ := frI_cast (w := w) hw ok 3
  rw [hsh] at c1 c2
  have h3 := frI_ok (w := w) hw ok 3
  have h2 := frI_ok (w := w) hw ok 2
  have e3 : (frI w plans 3).1 = 2 ^ (10 * w) * (frI w plans 2).2 := rfl
  obtain ⟨o, ho⟩ : ∃ o, o = (frI w plans 3).1 := ⟨_, rfl⟩
  obtain ⟨u, hu⟩ : ∃ u, u = (frI w plans 3).2 := ⟨_, rfl⟩
  obtain ⟨v, hv⟩ : ∃ v, v = (frI w plans 2).2 := ⟨_, rfl⟩
  obtain ⟨o0, ou, ub⟩ := h3
  obtain ⟨o0', ou', ub'⟩ := h2
  rw [← ho, ← hv] at e3
  rw [← hv] at ou' ub'
  rw [← ho] at o0 ou c1
  rw [← hu] at ou ub c2
  rw [← ho, ← hu]
  have v0 : 0 < v := by lia
  have u0 : 0 < u := by lia
  have hX : (2 : Int) ^ 80 ≤ 2 ^ (10 * w) := pow2_le (by lia)
  have hXv : (2 : Int) ^ (10 * w) ≤ 2 ^ (10 * w) * v := by
    have := Int.mul_le_mul_of_nonneg_left (show (1 : Int) ≤ v by lia) (Int.le_of_lt (pow_pos' (10 * w)))
    rw [Int.mul_one] at this; exact this
  have hu2 : 2 ≤ u := by
    have h80 : (2 : Int) ^ 80 = 1208925819614629174706176 := by decide
    lia
  have hj : 10 * w * 3 ≤ 2130 := by lia
  have hU : u < 2 ^ 2131 := by
    have := pow2_le hj
    have h6 : (2 : Int) ^ 2131 = 2 * 2 ^ 2130 := rfl
    have := pow_pos' 2130
    lia
  have hub := bits_of (Int.le_of_lt u0) hU
  have hO : o < 2 ^ 2132 := by
    have h6 : (2 : Int) ^ 2132 = 2 * 2 ^ 2131 := rfl
    lia
  have hP0 := pow_pos' (75 * w)
  have hOV0 : 0 < o * 2 ^ (75 * w) := Int.mul_pos o0 hP0
  have hOV : o * 2 ^ (75 * w) < 2 ^ 7457 := by
    have h1 : (2 : Int) ^ (75 * w) ≤ 2 ^ 5325 := pow2_le (by lia)
    have h2 : o * 2 ^ (75 * w) < 2 ^ 2132 * 2 ^ (75 * w) := Int.mul_lt_mul_of_pos_right hO hP0
    have h3 : (2 : Int) ^ 2132 * 2 ^ (75 * w) ≤ 2 ^ 2132 * 2 ^ 5325 := Int.mul_le_mul_of_nonneg_left h1 (Int.le_of_lt (pow_pos' 2132))
    have h4 : (2 : Int) ^ 2132 * 2 ^ 5325 = 2 ^ 7457 := (Int.pow_add 2 2132 5325).symm
    rw [← h4]
    exact Int.lt_of_lt_of_le h2 h3
  have hob := bits_of (Int.le_of_lt hOV0) hOV
  have hb2 : 2 ≤ Builtin.Int.intBits u := by
    have h4 := lt_two_pow_intBits (Int.le_of_lt u0)
    rcases Nat.lt_or_ge (Builtin.Int.intBits u) 2 with h | h
    · have := pow2_le (show Builtin.Int.intBits u ≤ 1 by lia)
      have h5 : (2 : Int) ^ 1 = 2 := by decide
      lia
    · exact h
  obtain ⟨q, hq⟩ : ∃ q, q = o * 2 ^ (75 * w) / u / 2 ^ (45 * w) := ⟨_, rfl⟩
  have hq0 : 0 ≤ q := by rw [hq]; exact Int.ediv_nonneg (Int.ediv_nonneg (Int.le_of_lt hOV0) (Int.le_of_lt u0)) (Int.le_of_lt (pow_pos' _))
  have hqle : q ≤ o * 2 ^ (75 * w) := by
    rw [hq]; exact Int.le_trans (Int.ediv_le_self _ (Int.ediv_nonneg (Int.le_of_lt hOV0) (Int.le_of_lt u0))) (Int.ediv_le_self _ (Int.le_of_lt hOV0))
  have hqb := bits_of hq0 (Int.lt_of_le_of_lt hqle hOV)
  have hqv : q = valD w ((cntsN [x, y, z]).map fun n : Nat => (n : Int)) := by
    rw [← horner_cast, ← hn, hq, c1, c2]; simp
  refine ⟨u0, Int.le_of_lt hOV0, by lia, by lia, by lia, by rw [← hq]; lia, by rw [← hq]; exact hq0, ?_⟩
  rw [← hq]
  rw [tabOk, Bool.and_eq_true, List.all_eq_true] at ht
  obtain ⟨ha, hl⟩ := ht
  have hl := Nat.eq_of_beq_eq_true hl
  have hcl : (cntsN [x, y, z]).length = 31 := by simp [cntsN]
  have htw : ∀ n : Nat, n ≤ 200 → (n : Int) < 2 ^ w := fun n hn => by
    have := pow2_le hw
    have h5 : (2 : Int) ^ 8 = 256 := by decide
    lia
  generalize cntsN [x, y, z] = cs at ha hl hcl hqv ⊢
  have e : cs = cs.take 30 ++ [1] := by
    have h1 : cs.drop 30 = [1] := by
      rw [List.drop_eq_getElem_cons (by lia)]
      rw [List.getD_eq_getElem?_getD, List.getElem?_eq_getElem (by lia)] at hl
      rw [show cs[30] = 1 from hl, List.drop_eq_nil_of_le (by lia)]
    rw [← h1, List.take_append_drop]
  have e2 : (cs.map fun n : Nat => (n : Int)) = ((cs.take 30).map fun n : Nat => (n : Int)) ++ [1] := by
    conv => lhs; rw [e, List.map_append]
    rfl
  rw [hqv, e2]
  refine digs_places (by lia) (fun y hy => ?_) ⟨by lia, htw 1 (by lia)⟩
  obtain ⟨n, hn, rfl⟩ := List.mem_map.mp hy
  exact ⟨by lia, htw n (Nat.le_of_ble_eq_true (ha n (List.mem_of_mem_take hn)))⟩
theorem cntB_count (p : Nat) (l : List Nat) : cntB p l = (l.map fun n : Nat => (n : Int)).count (p : Int) := by
  induction l with
  | nil => rfl
  | cons x l ih =>
    rw [List.map_cons, List.count_cons, ← ih]
    show @Bool.rec (fun _ => Nat) (cntB p l) (cntB p l).succ (Nat.beq x p) = _
    by_cases h : x = p
    · subst h; simp
    · have h1 : Nat.beq x p = false := by rw [← Bool.not_eq_true]; exact fun q => h (Nat.eq_of_beq_eq_true q)
      have h2 : ((x : Int) == (p : Int)) = false := beq_eq_false_iff_ne.mpr fun q => h (by lia)
      rw [h1, h2]; rfl
end
section
theorem docsM_all {β : Type} {L : Nat → Nat → β} {E : Nat → Nat → β → β} {app : β → β → β} {nil : β} (P : β → Prop) (h0 : P nil) (ha : ∀ a b, P a → P b → P (app a b)) : ∀ k s ps d, (∀ p ∈ ps, (∀ a ∈ p.1, ∀ d, P (L d a)) ∧ ∀ o ∈ p.2, ∀ d x, P x → P (E d o x)) →
    ∀ y ∈ docsM L E app nil k s ps d, P y
  | 0, s, ps, d, _, y, hy => by rw [List.mem_singleton.mp hy]; exact h0
  | k + 1, s, [], d, _, y, hy => by
    by_cases hs : s = 0
    · rw [show docsM L E app nil (k + 1) s [] d = [nil] by simp [docsM, hs]] at hy
      rw [List.mem_singleton.mp hy]; exact h0
    · rw [show docsM L E app nil (k + 1) s [] d = [] by simp [docsM, hs]] at hy; cases hy
  | k + 1, s, p :: ps, d, h, y, hy => by
    by_cases hs : s = 0
    · rw [show docsM L E app nil (k + 1) s (p :: ps) d = [nil] by simp [docsM, hs]] at hy
      rw [List.mem_singleton.mp hy]; exact h0
    · rw [show docsM L E app nil (k + 1) s (p :: ps) d = (List.range s).flatMap fun i => (docsM L E app nil k (s - 1 - i) (p :: ps) d).flatMap fun oth => (firstsM L E d p i (docsM L E app nil k i ps (d + 1))).map fun e => app e oth by simp [docsM, hs]] at hy
      obtain ⟨i, _, hy⟩ := List.mem_flatMap.mp hy
      obtain ⟨oth, ho, hy⟩ := List.mem_flatMap.mp hy
      obtain ⟨e, he, rfl⟩ := List.mem_map.mp hy
      obtain ⟨q1, q2⟩ := h p (List.mem_cons_self ..)
      refine ha _ _ ?_ (docsM_all P h0 ha k _ _ d h oth ho)
      rcases List.mem_append.mp he with he | he
      · by_cases h1 : i = 0
        · rw [if_pos h1] at he
          obtain ⟨a, hm, rfl⟩ := List.mem_map.mp he
          exact q1 a hm d
        · rw [if_neg h1] at he; cases he
      · obtain ⟨inn, hinn, he⟩ := List.mem_flatMap.mp he
        obtain ⟨o, hm, rfl⟩ := List.mem_map.mp he
        exact q2 o hm d inn (docsM_all P h0 ha k i ps (d + 1) (fun q hq => h q (List.mem_cons_of_mem _ hq)) inn hinn)
theorem texts_lt {T : List (Nat × List Nat)} (ok : OkN T) {c a o1 o2 : Nat} {sh : List (Nat × Nat)} (ha : a < 1114112) (hc : (T.lookup c).isSome = true) (ho1 : (T.lookup o1).isSome = true) (ho2 : (T.lookup o2).isSome = true) :
    ∀ t ∈ textsM T c (sh.map (plP a o1 o2)), ∀ x ∈ t, x < 1114112 := by
  intro t ht
  obtain ⟨s, _, ht⟩ := List.mem_flatMap.mp ht
  refine docsM_all (fun t : List Nat => ∀ x ∈ t, x < 1114112) (fun x hx => by cases hx) (fun u v hu hv x hx => ?_) 3 s _ 0 (fun p hp => ⟨fun b hb d x hx => ?_, fun o ho d u hu x hx => ?_⟩) t ht
  · rcases List.mem_append.mp hx with hx | hx
    · exact hu x hx
    · exact hv x hx
  · rw [List.mem_singleton.mp hx, (plP_mem hp).1 b hb]; exact ha
  · have hoT : (T.lookup o).isSome = true := by rcases (plP_mem hp).2 o ho with rfl | rfl <;> assumption
    rcases List.mem_append.mp hx with hx | hx
    · rcases List.mem_append.mp hx with hx | hx
      · have := spell_lt ok hoT d x hx; lia
      · exact hu x hx
    · have := spell_lt ok hc d x hx; lia
theorem flat_texts (X : List (List Nat)) (h : ∀ t ∈ X, ∀ x ∈ t, x < 1114112) : (D.lst (X.map fun x => .str (Tx x))).flat = true ∧ (D.lst (X.map fun x => .str (Tx x))).py.depth ≤ 4 := by
  have key : D.flatL (X.map fun x => .str (Tx x)) = true ∧ PyData.depthAll (D.pyL (X.map fun x => .str (Tx x))) ≤ 2 := by
    induction X with
    | nil => exact ⟨by simp only [List.map_nil, D.flatL], by simp only [List.map_nil, D.pyL, PyData.depthAll]; lia⟩
    | cons t X ih =>
      obtain ⟨h1, h2⟩ := ih fun u hu => h u (List.mem_cons_of_mem _ hu)
      have hs : PyData.strOk (Tx t) = true := by
        show t.toArray.all (fun x => decide (x < 0x110000)) = true
        rw [List.all_toArray]
        exact List.all_eq_true.mpr fun x hx => decide_eq_true (h t (List.mem_cons_self ..) x hx)
      refine ⟨?_, ?_⟩
      · rw [List.map_cons]; simp only [D.flatL, D.flat, hs, Bool.true_and, h1]
      · rw [List.map_cons]
        simp only [D.pyL, D.py, PyData.depthAll, PyData.depth]
        lia
  exact ⟨by simp only [D.flat]; exact key.1, by simp only [D.py, PyData.depth]; lia⟩
theorem len_all : (qsN.all fun x => qsN.all fun y => qsN.all fun z => Nat.ble (placesN [x, y, z]).length 200) = true := by decide +kernel
theorem len_of {x y z : Nat × Nat} (hx : x ∈ qsN) (hy : y ∈ qsN) (hz : z ∈ qsN) : (placesN [x, y, z]).length ≤ 200 :=
  Nat.le_of_ble_eq_true (List.all_eq_true.mp (List.all_eq_true.mp (List.all_eq_true.mp len_all x hx) y hy) z hz)
noncomputable def shC (c : Int) : Nat × Nat := (((c.fdiv 2).fmod 2).toNat, (1 + c.fmod 2).toNat)
theorem shC_mem (c : Int) : shC c ∈ qsN := by
  have h0 := Int.emod_nonneg (c.fdiv 2) (show (2 : Int) ≠ 0 by decide)
  have h1 := Int.emod_lt_of_pos (c.fdiv 2) (show (0 : Int) < 2 by decide)
  have h2 := Int.emod_nonneg c (show (2 : Int) ≠ 0 by decide)
  have h3 := Int.emod_lt_of_pos c (show (0 : Int) < 2 by decide)
  rw [shC, Int.fmod_eq_emod_of_nonneg _ (show (0 : Int) ≤ 2 by decide), Int.fmod_eq_emod_of_nonneg _ (show (0 : Int) ≤ 2 by decide)]
  generalize (c.fdiv 2) % 2 = u at h0 h1
  generalize c % 2 = v at h2 h3
  have hu : u = 0 ∨ u = 1 := by lia
  have hv : v = 0 ∨ v = 1 := by lia
  rcases hu with rfl | rfl <;> rcases hv with rfl | rfl <;> decide
theorem qsN_le {q : Nat × Nat} (h : q ∈ qsN) : q.1 ≤ 1 ∧ q.2 ≤ 2 := by
  simp only [qsN, List.mem_cons, List.not_mem_nil, or_false] at h
  rcases h with rfl | rfl | rfl | rfl <;> decide
theorem shOf_plP {a o1 o2 : Nat} {q : Nat × Nat} (h : q ∈ qsN) : shOf (plP a o1 o2 q) = q := by
  simp only [qsN, List.mem_cons, List.not_mem_nil, or_false] at h
  rcases h with rfl | rfl | rfl | rfl <;> rfl
noncomputable def signsN (k : Nat) : List Nat := (t5 k).map (·.1)
theorem signs_len (k : Nat) : 3 ≤ (signsN k).length ∧ (signsN k).length ≤ 7 := by
  match k with
  | 0 => decide
  | 1 => decide
  | 2 => decide
  | 3 => decide
  | k + 4 => show 3 ≤ (Tac.map (·.1)).length ∧ (Tac.map (·.1)).length ≤ 7; decide
theorem lookup_mem' {T : List (Nat × List Nat)} {p : Nat × List Nat} (h : p ∈ T) : (T.lookup p.1).isSome = true := by
  induction T with
  | nil => cases h
  | cons q T ih =>
    obtain ⟨k, y⟩ := q
    rw [List.lookup_cons]
    by_cases e : p.1 = k
    · rw [e, beq_self_eq_true]; rfl
    · rw [beq_eq_false_iff_ne.mpr e]
      rcases List.mem_cons.mp h with rfl | h
      · exact absurd rfl e
      · exact ih h
theorem signs_look (k i : Nat) (h : i < (signsN k).length) : ((t5 k).lookup (sgN k i)).isSome = true := by
  have h1 : sgN k i = (signsN k)[i] := by rw [sgN, List.getD_eq_getElem?_getD]; simp [signsN] at h ⊢; simp [h]
  have h2 : sgN k i ∈ signsN k := h1 ▸ List.getElem_mem h
  obtain ⟨p, hp, e⟩ := List.mem_map.mp h2
  exact e ▸ lookup_mem' hp
theorem names_nodup (k : Nat) : ((dicN (t5 k)).map (·.1)).Nodup := by
  have h : (signsN k).Nodup := by
    match k with
    | 0 => decide
    | 1 => decide
    | 2 => decide
    | 3 => decide
    | k + 4 => show (Tac.map (·.1)).Nodup; decide
  rw [show (dicN (t5 k)).map (·.1) = (signsN k).map fun c => Tx [c] by simp [dicN, signsN]]
  exact List.Pairwise.map _ (fun a b hab e => hab (by have := Tx_inj e; simpa using this)) h
theorem look_none (k a : Nat) (ha : 128 ≤ a) : (t5 k).lookup a = none := by
  cases h : (t5 k).lookup a with
  | none => rfl
  | some z => have := (OkN.of (t5_okN k)).sg a (by rw [h]; rfl); lia
end
section
set_option maxHeartbeats 1000000
noncomputable def dD (p : Nat × List El) : D := .tup [.int p.1, docD p.2]
noncomputable def cell03 (xs : List Int) (i : Nat) : Int := ([6, 0, 2, 0, 5] : List Int).getD i 0 + (everyN 5 i xs).sum
local macro_rules | `(tactic| k_extra "ev") => `(tactic| first
  | with_reducible exact ev_tx (l := [59]) rfl | fail "k")
theorem drawn_mem {ps : List Plan} {p : Nat × List El} (h : p ∈ drawnP ps) : p.1 ≤ 3 ∧ p.2 ∈ docs 3 p.1 ps := by
  obtain ⟨s, hs, h⟩ := List.mem_flatMap.mp h
  obtain ⟨l, hl, rfl⟩ := List.mem_map.mp h
  have := List.mem_range.mp hs
  exact ⟨by show s ≤ 3; lia, hl⟩
section
variable {C : Cst} (hK : C.K = hd.heap_39 C.P) (hT : C.tabs = [tab2, tab1])
include hK hT
theorem spec_law {n : Nat} {xs : List Int} (hx : xs.length ≤ 63) : Cal C (n + 40) (.fn 136) [.ls0 (xs.map .int)] (.bool true) := by
  refine cal_fnK (names := ["script"]) hK rfl rfl rfl rfl (binds1 fun _ => rfl) (by decide) rfl rfl ⟨rfl, rfl, rfl⟩ rfl rfl (by decide) fun L => ?_
  have hxl : xs.length ≤ 16777216 := by lia
  obtain ⟨c0, hc0⟩ : ∃ c, c = cell03 xs 0 := ⟨_, rfl⟩
  obtain ⟨c1, hc1⟩ : ∃ c, c = cell03 xs 1 := ⟨_, rfl⟩
  obtain ⟨c2, hc2⟩ : ∃ c, c = cell03 xs 2 := ⟨_, rfl⟩
  obtain ⟨c3, hc3⟩ : ∃ c, c = cell03 xs 3 := ⟨_, rfl⟩
  obtain ⟨c4, hc4⟩ : ∃ c, c = cell03 xs 4 := ⟨_, rfl⟩
  refine exs_next (ex_assign_comp' (r := ([c0, c1, c2, c3, c4] : List Int).map .int) (cl := [("script", L + 1)]) (σc := [("script", .val (.ls0 (xs.map .int)))]) (fun _ => true) (fun i => .int (cell03 xs i))
    ⟨rfl, rfl, rfl, rfl, ⟨⟨⟨_, rfl⟩, rfl, .inl rfl, rfl, .inl rfl⟩, trivial⟩, by simp, rfl, trivial⟩
    (evit_call (fd := .ty "enumerate") (by k_extra "ev") True.intro (evl_cons (ev_eq (d' := .lst (([6, 0, 2, 0, 5] : List Int).map .int)) (by k_extra "ev") (by rfl)) evl_nil rfl) calit_enum) ?len (fun Cc j d hd => ?item) ?res (by k_extra "stk")) ?_
  case len => have : sizeLine = 16777216 := rfl; simp; lia
  case res => rw [hc0, hc1, hc2, hc3, hc4]; rfl
  case item =>
    obtain ⟨hj, rfl⟩ := range_get hd
    match j, hj with
    | 0, _ => exact ⟨_, bnd_two (.inl rfl) (.inl rfl), ⟨rfl, trivial⟩, tests_nil, fun _ => ev_eq (ev_bin (by k_extra "ev") (ev_call (fd := .bi "sum") (by k_extra "ev") True.intro (evl_cons (ev_every (a := 0) (k := 5) (by k_extra "ev") (by k_extra "ev") (ev_eq ev_int rfl) (by decide) hxl (fun _ _ => rfl)) evl_nil rfl) cal_sum rfl rfl) bop_add) rfl⟩
    | 1, _ => exact ⟨_, bnd_two (.inl rfl) (.inl rfl), ⟨rfl, trivial⟩, tests_nil, fun _ => ev_eq (ev_bin (by k_extra "ev") (ev_call (fd := .bi "sum") (by k_extra "ev") True.intro (evl_cons (ev_every (a := 1) (k := 5) (by k_extra "ev") (by k_extra "ev") (ev_eq ev_int rfl) (by decide) hxl (fun _ _ => rfl)) evl_nil rfl) cal_sum rfl rfl) bop_add) rfl⟩
    | 2, _ => exact ⟨_, bnd_two (.inl rfl) (.inl rfl), ⟨rfl, trivial⟩, tests_nil, fun _ => ev_eq (ev_bin (by k_extra "ev") (ev_call (fd := .bi "sum") (by k_extra "ev") True.intro (evl_cons (ev_every (a := 2) (k := 5) (by k_extra "ev") (by k_extra "ev") (ev_eq ev_int rfl) (by decide) hxl (fun _ _ => rfl)) evl_nil rfl) cal_sum rfl rfl) bop_add) rfl⟩
    | 3, _ => exact ⟨_, bnd_two (.inl rfl) (.inl rfl), ⟨rfl, trivial⟩, tests_nil, fun _ => ev_eq (ev_bin (by k_extra "ev") (ev_call (fd := .bi "sum") (by k_extra "ev") True.intro (evl_cons (ev_every (a := 3) (k := 5) (by k_extra "ev") (by k_extra "ev") (ev_eq ev_int rfl) (by decide) hxl (fun _ _ => rfl)) evl_nil rfl) cal_sum rfl rfl) bop_add) rfl⟩
    | 4, _ => exact ⟨_, bnd_two (.inl rfl) (.inl rfl), ⟨rfl, trivial⟩, tests_nil, fun _ => ev_eq (ev_bin (by k_extra "ev") (ev_call (fd := .bi "sum") (by k_extra "ev") True.intro (evl_cons (ev_every (a := 4) (k := 5) (by k_extra "ev") (by k_extra "ev") (ev_eq ev_int rfl) (by decide) hxl (fun _ _ => rfl)) evl_nil rfl) cal_sum rfl rfl) bop_add) rfl⟩
    | k + 5, h => exact absurd h (by simp)
  clear hc0 hc1 hc2 hc3 hc4
  have g0 : (([c0, c1, c2, c3, c4] : List Int).map D.int)[(0 : Int).toNat]? = some (.int c0) := rfl
  have g4 : (([c0, c1, c2, c3, c4] : List Int).map D.int)[(4 : Int).toNat]? = some (.int c4) := rfl
  have z5 : (5 : Int) ≠ 0 := by decide
  have z64 : (64 : Int) ≠ 0 := by decide
  have z50 : (50000 : Int) ≠ 0 := by decide
  have p5 : Builtin.divisionGoesByPylong c0 5 = false := PyProof.noPylong_small (by decide)
  have p64 : Builtin.divisionGoesByPylong c4 64 = false := PyProof.noPylong_small (by decide)
  obtain ⟨k, hk, hk5⟩ : ∃ k : Nat, (c0 % 5).toNat = k ∧ k < 5 := ⟨_, rfl, by have := Int.emod_nonneg c0 z5; have := Int.emod_lt_of_pos c0 (show (0 : Int) < 5 by decide); lia⟩
  have shand := spec_hand hK (n := n + 37) (cell := c0)
  rw [hk] at shand
  have okN := OkN.of (t5_okN k)
  have okT := OkT.of (t5_ok k)
  have h6 := t5_six k
  obtain ⟨s3, s7⟩ := signs_len k
  have hnd := names_nodup k
  have hlook := signs_look k
  have hdl : (dicN (t5 k)).length ≤ 16777216 := by rw [dicN, List.length_map]; have : (signsN k).length = (t5 k).length := List.length_map ..; lia
  have hsd : ((dicN (t5 k)).map fun p => D.str p.1) = sgD (signsN k) := by simp [dicN, sgD, signsN]
  refine exs_next (ex_assign2 (dx := .fn (a5 k)) (dy := .dct (dicN (t5 k))) (ev_call (fd := .fn 98) (by k_extra "ev") (by k_extra "keep") (by k_extra "evl") shand rfl rfl) (by k_extra "stk") (by k_extra "stk") rfl rfl) ?_
  refine exs_next (ex_assign (d := .lst (sgD (signsN k))) (ev_call (fd := .ty "list") (by k_extra "ev") True.intro (by k_extra "evl") (hsd ▸ cal_list_dct hnd hdl) rfl rfl) (by k_extra "stk") rfl) ?_
  have hSl : (sgD (signsN k)).length = (signsN k).length := List.length_map ..
  have hSl2 : (sgD (signsN k)).length ≤ 16777216 := by lia
  have zn : (((sgD (signsN k)).length : Nat) : Int) - 1 ≠ 0 := by lia
  obtain ⟨cl, hcl, cl1, cl2⟩ : ∃ cl : Nat, 1 + (c0.fdiv 5).fmod ((((sgD (signsN k)).length : Nat) : Int) - 1) = (cl : Int) ∧ 1 ≤ cl ∧ cl < (signsN k).length := by
    rw [Int.fmod_eq_emod_of_nonneg _ (by lia)]
    have h0 := Int.emod_nonneg (c0.fdiv 5) zn
    have h1 := Int.emod_lt_of_pos (c0.fdiv 5) (show (0 : Int) < (((sgD (signsN k)).length : Nat) : Int) - 1 by lia)
    exact ⟨(1 + (c0.fdiv 5) % ((((sgD (signsN k)).length : Nat) : Int) - 1)).toNat, by lia, by lia, by lia⟩
  have pc5 : Builtin.divisionGoesByPylong c0 5 = false := p5
  refine exs_next (ex_assign (d := .int cl) (ev_eq (by k_extra "ev") (congrArg D.int hcl)) (by k_extra "stk") rfl) ?_
  obtain ⟨a, ha, ha1, ha2⟩ : ∃ a : Nat, 192 + (c4.fdiv 64).fmod 50000 = (a : Int) ∧ 192 ≤ a ∧ a < 50192 := by
    rw [Int.fmod_eq_emod_of_nonneg _ (by decide)]
    have h0 := Int.emod_nonneg (c4.fdiv 64) z50
    have h1 := Int.emod_lt_of_pos (c4.fdiv 64) (show (0 : Int) < 50000 by decide)
    exact ⟨(192 + (c4.fdiv 64) % 50000).toNat, by lia, by lia, by lia⟩
  have la0 : (0 : Int) ≤ (a : Int) := by lia
  have la1 : (a : Int) ≤ 1114111 := by lia
  refine exs_next (ex_assign (d := .str (Tx [a])) (ev_call (fd := .bi "chr") (by k_extra "ev") True.intro (evl_cons (ev_eq (by k_extra "ev") (congrArg D.int ha)) evl_nil rfl) (cal_chr la0 la1) rfl rfl) (by k_extra "stk") rfl) ?_
  obtain ⟨o1, ho1⟩ : ∃ o1, o1 = sgN k (cl - 1) := ⟨_, rfl⟩
  obtain ⟨o2, ho2⟩ : ∃ o2, o2 = sgN k ((cl + (t5 k).length - 2) % (t5 k).length) := ⟨_, rfl⟩
  have htl : (signsN k).length = (t5 k).length := List.length_map ..
  have hsg : ∀ i, i < (signsN k).length → (sgD (signsN k))[i]? = some (.str (Tx [sgN k i])) := fun i hi => by
    have h1 : (signsN k)[i]? = some (sgN k i) := by rw [sgN, List.getD_eq_getElem?_getD, show (t5 k).map (·.1) = signsN k from rfl, List.getElem?_eq_getElem hi]; rfl
    rw [sgD, List.getElem?_map, h1]; rfl
  have i2 : (cl + (t5 k).length - 2) % (t5 k).length < (signsN k).length := by rw [htl]; exact Nat.mod_lt _ (by lia)
  have T1 : ((t5 k).lookup o1).isSome = true := ho1 ▸ hlook _ (by lia)
  have T2 : ((t5 k).lookup o2).isSome = true := ho2 ▸ hlook _ i2
  have Tc : ((t5 k).lookup (sgN k cl)).isSome = true := hlook _ cl2
  have sub1 : ∀ m, Sub C m (.lst (sgD (signsN k))) (.int ((cl : Int) - 1)) (.str (Tx [o1])) := fun m => by
    refine sub_list (by lia) (by lia) ?_
    rw [show ((cl : Int) - 1).toNat = cl - 1 by lia, ho1]; exact hsg _ (by lia)
  have sub2 : ∀ m, Sub C m (.lst (sgD (signsN k))) (.int ((cl : Int) - 2)) (.str (Tx [o2])) := fun m => by
    by_cases h1 : cl = 1
    · refine sub_listneg (by lia) (by lia) hSl2 ?_
      rw [show ((cl : Int) - 2 + ((sgD (signsN k)).length : Nat)).toNat = (cl + (t5 k).length - 2) % (t5 k).length by
        rw [hSl, htl, h1, Nat.mod_eq_of_lt (by lia)]; lia, ho2]
      exact hsg _ i2
    · refine sub_list (by lia) (by lia) ?_
      rw [show ((cl : Int) - 2).toNat = (cl + (t5 k).length - 2) % (t5 k).length by
        rw [show cl + (t5 k).length - 2 = (cl - 2) + (t5 k).length by lia, Nat.add_mod_right, Nat.mod_eq_of_lt (by lia)]; lia, ho2]
      exact hsg _ i2
  have sub3 : ∀ m, Sub C m (.lst (sgD (signsN k))) (.int (cl : Int)) (.str (Tx [sgN k cl])) := fun m => sub_list (by lia) (by lia) (hsg _ cl2)
  obtain ⟨PL, hPL⟩ : ∃ PL, PL = ([shC c1, shC c2, shC c3]).map (plP a o1 o2) := ⟨_, rfl⟩
  refine exs_next (ex_assign (d := .lst (PL.map planD)) (ev_eq (ev_comp (cl := [("signs", L + 4), ("letter", L + 6), ("closing", L + 5)]) (σc := [("closing", .val (.int cl)), ("letter", .val (.str (Tx [a]))), ("signs", .val (.lst (sgD (signsN k))))]) (items := (([c1, c2, c3] : List Int).map .int)) (fun _ => true) (fun j => planD (plP a o1 o2 (shC (([c1, c2, c3] : List Int).getD j 0))))
    ⟨rfl, rfl, rfl, rfl, ⟨⟨⟨_, rfl⟩, rfl, .inl rfl, rfl, .inl rfl⟩, ⟨⟨_, rfl⟩, rfl, .inl rfl, rfl, .inl rfl⟩, ⟨⟨_, rfl⟩, rfl, .inl rfl, rfl, .inl rfl⟩, trivial⟩, by simp, ⟨rfl, rfl, rfl, trivial⟩⟩
    (evit_list (ev_eq (ev_slicelst (a := 1) (b := 4) (by k_extra "ev") (ev_eq ev_int rfl) (ev_eq ev_int rfl) (by simp)) rfl)) (by simp [sizeLine]) fun Cc j d hd => ?itemp) ?resp) (by k_extra "stk") rfl) ?_
  case resp =>
    rw [List.length_map, compRes_all, range_getD_map ([c1, c2, c3] : List Int) 0 fun c => planD (plP a o1 o2 (shC c)), hPL]; rfl
  case itemp =>
    rw [List.getElem?_map, Option.map_eq_some_iff] at hd
    obtain ⟨c, hc, rfl⟩ := hd
    have e : ([c1, c2, c3] : List Int).getD j 0 = c := by rw [List.getD_eq_getElem?_getD, hc]; rfl
    rw [e]
    have z2 : (2 : Int) ≠ 0 := by decide
    have pp : Builtin.divisionGoesByPylong c 2 = false := PyProof.noPylong_small (by decide)
    have e1 : D.int ((c.fdiv 2).fmod 2) = .int (((shC c).1 : Nat) : Int) := by
      congr 1
      show _ = ((((c.fdiv 2).fmod 2).toNat : Nat) : Int)
      have := Int.emod_nonneg (c.fdiv 2) z2
      rw [Int.fmod_eq_emod_of_nonneg _ (show (0 : Int) ≤ 2 by decide)]; lia
    have e2 : D.int (1 + c.fmod 2) = .int (((shC c).2 : Nat) : Int) := by
      congr 1
      show _ = (((1 + c.fmod 2).toNat : Nat) : Int)
      have := Int.emod_nonneg c z2
      rw [Int.fmod_eq_emod_of_nonneg _ (show (0 : Int) ≤ 2 by decide)]; lia
    refine ⟨_, bnd_name (.inl rfl), ⟨rfl, rfl, rfl, trivial⟩, tests_nil, fun _ => ev_eq (ev_tuple (evl_cons (ev_slicelstto (b := (shC c).1) (ds := [.str (Tx [a])]) (by k_extra "ev") (ev_eq (by k_extra "ev") e1) (by simp))
      (evl_cons (ev_slicelstto (b := (shC c).2) (ds := [.str (Tx [o1]), .str (Tx [o2])]) (ev_list (evl_cons (ev_sub (by k_extra "ev") (by k_extra "ev") (sub1 _)) (evl_cons (ev_sub (by k_extra "ev") (by k_extra "ev") (sub2 _)) evl_nil rfl) rfl)) (ev_eq (by k_extra "ev") e2) (by simp)) evl_nil rfl) rfl)) ?_⟩
    show D.tup [.lst (([.str (Tx [a])] : List D).take (shC c).1), .lst (([.str (Tx [o1]), .str (Tx [o2])] : List D).take (shC c).2)] = D.tup [.lst (sgD ([a].take (shC c).1)), .lst (sgD ([o1, o2].take (shC c).2))]
    rw [sgD, sgD, List.map_take, List.map_take]; rfl
  obtain ⟨w, hw, hw1, hw2⟩ : ∃ w : Nat, 8 + c4.fmod 64 = (w : Int) ∧ 8 ≤ w ∧ w ≤ 71 := by
    rw [Int.fmod_eq_emod_of_nonneg _ (by decide)]
    have h0 := Int.emod_nonneg c4 z64
    have h1 := Int.emod_lt_of_pos c4 (show (0 : Int) < 64 by decide)
    exact ⟨(8 + c4 % 64).toNat, by lia, by lia, by lia⟩
  refine exs_next (ex_assign (d := .int w) (ev_eq (by k_extra "ev") (congrArg D.int hw)) (by k_extra "stk") rfl) ?_
  have hsh : ∀ q ∈ [shC c1, shC c2, shC c3], q ∈ qsN := fun q hq => by
    simp only [List.mem_cons, List.not_mem_nil, or_false] at hq
    rcases hq with rfl | rfl | rfl <;> exact shC_mem _
  obtain ⟨c, hc⟩ : ∃ c, c = sgN k cl := ⟨_, rfl⟩
  rw [← hc] at Tc sub3
  have hpl : PL.length = 3 := by rw [hPL]; rfl
  have hPm : ∀ p ∈ PL, (∀ x ∈ p.1, (t5 k).lookup x = none) ∧ ∀ o ∈ p.2, ((t5 k).lookup o).isSome = true := fun p hp => by
    rw [hPL] at hp
    obtain ⟨m1, m2⟩ := plP_mem hp
    exact ⟨fun x hx => by rw [m1 x hx]; exact look_none k a (by lia), fun o ho => by rcases m2 o ho with rfl | rfl <;> assumption⟩
  have okP : okPl PL := fun p hp => by
    rw [hPL] at hp
    obtain ⟨q, hq, rfl⟩ := List.mem_map.mp hp
    obtain ⟨q1, q2⟩ := qsN_le (hsh q hq)
    exact ⟨by show ([a].take q.1).length ≤ 1; rw [List.length_take]; lia, by show ([o1, o2].take q.2).length ≤ 2; rw [List.length_take]; lia⟩
  obtain ⟨DR, hDR⟩ : ∃ DR, DR = drawnP PL := ⟨_, rfl⟩
  obtain ⟨X, hX⟩ : ∃ X, X = DR.map fun p => El.tols (t5 k) c 0 p.2 := ⟨_, rfl⟩
  have hXl : X.length = DR.length := by rw [hX, List.length_map]
  have hXt : X = textsM (t5 k) c PL := by rw [hX, hDR, drawn_texts]
  have hpla := drawn_places okN (c := c) (a := a) (o1 := o1) (o2 := o2) (sh := [shC c1, shC c2, shC c3]) (by lia) (fun q hq => qsN_le (hsh q hq)) Tc T1 T2
  rw [← hPL, ← hDR] at hpla
  have hDl : DR.length ≤ 200 := by
    have h1 := len_of (shC_mem c1) (shC_mem c2) (shC_mem c3)
    rw [← hpla, List.length_map] at h1; exact h1
  have hDm : ∀ p ∈ DR, p.1 ≤ 3 ∧ El.oks (t5 k) 3 p.2 ∧ El.lettersL (t5 k) p.2 ∧ El.szs p.2 ≤ 8 := fun p hp => by
    rw [hDR] at hp
    obtain ⟨d1, d2⟩ := drawn_mem hp
    obtain ⟨e1, e2, e3⟩ := docs_ok 3 p.1 PL hPm p.2 d2
    rw [hpl] at e1
    exact ⟨d1, e1, e2, by lia⟩
  have hXn : X.Nodup := by
    rw [hXt, hc, hPL]
    exact texts_nodup hk5 cl1 (htl ▸ cl2) (by lia) rfl o1 o2 ho1 ho2 (hc ▸ Tc) T1 T2
  have hXf : ∀ t ∈ X, ∀ x ∈ t, x < 1114112 := by rw [hXt, hPL]; exact texts_lt okN (by lia) Tc T1 T2
  obtain ⟨fl1, fl2⟩ := flat_texts X hXf
  have hacc : accR (genR (fun i => (docs 3 i PL).map docD) fun i j => .tup [.int (i : Int), ((docs 3 i PL).map docD).getD j .none]) ((List.range (4 : Int).toNat).map fun (k : Nat) => D.int (0 + (k : Int) * 1)).length = DR.map dD := by
    rw [hDR, drawnP, List.map_flatMap, List.length_map, List.length_range]
    show (List.range 4).flatMap _ = _
    congr 1
    funext i
    show (List.range ((docs 3 i PL).map docD).length).map _ = _
    rw [range_getD_map ((docs 3 i PL).map docD) .none fun d => D.tup [.int (i : Int), d], List.map_map, List.map_map]
    rfl
  refine exs_next (ex_assign (d := .lst (DR.map dD)) (ev_eq (ev_comp2 (cl := [("plans", L + 7)]) (σc := [("plans", .val (.lst (PL.map planD)))]) (items := (List.range (4 : Int).toNat).map fun (k : Nat) => D.int (0 + (k : Int) * 1)) (items2 := fun i => (docs 3 i PL).map docD) (fun i j => .tup [.int (i : Int), ((docs 3 i PL).map docD).getD j .none])
    ⟨rfl, rfl, rfl, rfl, ⟨⟨⟨_, rfl⟩, rfl, .inl rfl, rfl, .inl rfl⟩, trivial⟩, by simp, rfl, trivial⟩
    (evit_call (fd := .ty "range") (by k_extra "ev") True.intro (by k_extra "evl") (calit_range1 (by lia) (by lia))) (by rw [hacc, List.length_map]; lia) fun Cc i d hd => ?itemd) (congrArg D.lst hacc)) (by k_extra "stk") rfl) ?_
  case itemd =>
    obtain ⟨hi, rfl⟩ := range_get hd
    have hi4 : i < 4 := hi
    have e0 : D.int (0 + (i : Int) * 1) = .int (i : Int) := by congr 1; lia
    rw [e0]
    have sd := spec_docs hK (n := n + 33) (plans := PL) (by lia) okP 3 i 0 (by lia) (by lia) (by lia)
    refine ⟨_, bnd_name (.inl rfl), ⟨rfl, trivial⟩, evit_list (ev_call (fd := .fn 103) (by k_extra "ev") (by k_extra "keep") (evl_cons (by k_extra "ev") (evl_cons (ev_eq ev_int rfl) (evl_cons (by k_extra "ev") evl_nil rfl) rfl) rfl) sd rfl rfl), fun j d2 hd2 => ?_⟩
    have e : ((docs 3 i PL).map docD).getD j .none = d2 := by rw [List.getD_eq_getElem?_getD, hd2]; rfl
    rw [e]
    exact ⟨_, bnd_name (.inl rfl), ⟨rfl, rfl, trivial⟩, by k_extra "ev"⟩
  have sz : sizeLine = 16777216 := rfl
  have hDd : (DR.map dD).length ≤ sizeLine := by rw [List.length_map]; lia
  have hXg : ∀ (j : Nat) (d : D), (DR.map dD)[j]? = some d → ∃ p ∈ DR, d = .tup [.int p.1, docD p.2] ∧ X.getD j [] = El.tols (t5 k) c 0 p.2 := fun j d hd => by
    rw [List.getElem?_map, Option.map_eq_some_iff] at hd
    obtain ⟨p, hp, rfl⟩ := hd
    exact ⟨p, List.mem_of_getElem? hp, rfl, by rw [hX, List.getD_eq_getElem?_getD, List.getElem?_map, hp]; rfl⟩
  have hXr : D.lst (compRes (fun _ => true) (fun j => .str (Tx (X.getD j []))) (DR.map dD).length) = .lst (X.map fun x => .str (Tx x)) := by
    rw [List.length_map, ← hXl, compRes_all, range_getD_map X [] fun x => D.str (Tx x)]
  refine exs_next (ex_assign (d := .lst (X.map fun x => .str (Tx x))) (ev_eq (ev_comp (cl := [("writer", L + 2), ("signs", L + 4), ("closing", L + 5)]) (σc := [("closing", .val (.int cl)), ("signs", .val (.lst (sgD (signsN k)))), ("writer", .val (.fn (a5 k)))]) (items := DR.map dD) (fun _ => true) (fun j => .str (Tx (X.getD j [])))
    ⟨rfl, rfl, rfl, rfl, ⟨⟨⟨_, rfl⟩, rfl, .inl rfl, rfl, .inl rfl⟩, ⟨⟨_, rfl⟩, rfl, .inl rfl, rfl, .inl rfl⟩, ⟨⟨_, rfl⟩, rfl, .inl rfl, rfl, .inl rfl⟩, trivial⟩, by simp, ⟨rfl, rfl, rfl, trivial⟩⟩
    (evit_list (by k_extra "ev")) hDd fun Cc j d hd => ?itemt) hXr) (by k_extra "stk") rfl) ?_
  case itemt =>
    obtain ⟨p, hp, rfl, e⟩ := hXg j d hd
    obtain ⟨d1, d2, d3, d4⟩ := hDm p hp
    have st := spec_text hK (n := n + 33) k c 3 p.2 d2 d4 (by lia)
    rw [El.txts_tols okT Tc 3 p.2 d2 d3] at st
    rw [e]
    exact ⟨_, bnd_two (.inl rfl) (.inl rfl), ⟨rfl, rfl, rfl, trivial⟩, tests_nil, fun _ => ev_call (fd := .fn 110) (by k_extra "ev") (by k_extra "keep") (evl_cons (by k_extra "ev") (evl_cons (by k_extra "ev") (evl_cons (ev_sub (by k_extra "ev") (by k_extra "ev") (sub3 _)) evl_nil rfl) rfl) rfl) st rfl rfl⟩
  have hXm : (X.map fun x => D.str (Tx x)).length ≤ 16777216 := by rw [List.length_map]; lia
  have hXml : ((X.map fun x => D.str (Tx x)).length : Int) = X.length := by rw [List.length_map]
  refine exs_next (ex_iff (tst_cmp (a := .int X.length) (b := .int (X.map fun x => D.str (Tx x)).length) (ev_len_set (xs := X) (by k_extra "ev") (by k_extra "ev") (by k_extra "ev") hXn (by lia)) (by k_extra "ev") cmp_ne (by with_unfolding_all rfl)) (by rw [hXml]; simp) exs_nil) ?_
  refine exs_next (ex_iff (b := false) (tst_cmp (a := .lst (X.map fun x => D.str (Tx x))) (b := .lst (X.map fun x => D.str (Tx x))) (by k_extra "ev") (ev_eq (ev_comp (cl := [("signs", L + 4), ("names", L + 3), ("closing", L + 5)]) (σc := [("closing", .val (.int cl)), ("names", .val (.dct (dicN (t5 k)))), ("signs", .val (.lst (sgD (signsN k))))]) (items := DR.map dD) (fun _ => true) (fun j => .str (Tx (X.getD j [])))
    ⟨rfl, rfl, rfl, rfl, ⟨⟨⟨_, rfl⟩, rfl, .inl rfl, rfl, .inl rfl⟩, ⟨⟨_, rfl⟩, rfl, .inl rfl, rfl, .inl rfl⟩, ⟨⟨_, rfl⟩, rfl, .inl rfl, rfl, .inl rfl⟩, trivial⟩, by simp, ⟨rfl, rfl, rfl, trivial⟩⟩
    (evit_list (by k_extra "ev")) hDd fun Cc j d hd => ?itemo) hXr) (cmp_ne_same fl1 (by lia)) (by with_unfolding_all rfl)) rfl exs_nil) ?_
  case itemo =>
    obtain ⟨p, hp, rfl, e⟩ := hXg j d hd
    obtain ⟨d1, d2, d3, d4⟩ := hDm p hp
    have st := spec_told hK (n := n + 33) h6 Tc 3 0 p.2 d2 d4 (by lia)
    rw [e]
    exact ⟨_, bnd_two (.inl rfl) (.inl rfl), ⟨rfl, rfl, rfl, trivial⟩, tests_nil, fun _ => ev_call (fd := .fn 124) (by k_extra "ev") (by k_extra "keep") (evl_cons (by k_extra "ev") (evl_cons (by k_extra "ev") (evl_cons (ev_sub (by k_extra "ev") (by k_extra "ev") (sub3 _)) (evl_cons (ev_eq ev_int rfl) evl_nil rfl) rfl) rfl) rfl) st rfl rfl⟩
  obtain ⟨sh, hshd⟩ : ∃ sh, sh = [shC c1, shC c2, shC c3] := ⟨_, rfl⟩
  rw [← hshd] at hpla
  obtain ⟨pl, hplv⟩ : ∃ pl : List Int, pl = (placesN sh).map fun n : Nat => (n : Int) := ⟨_, rfl⟩
  have hpll : pl.length = X.length := by rw [hplv, List.length_map, ← hpla, List.length_map, hXl]
  have z2 : (2 : Int) ≠ 0 := by decide
  refine exs_next (ex_assign (d := .lst (pl.map .int)) (ev_eq (ev_comp (cl := [("texts", L + 9), ("drawn", L + 8)]) (σc := [("drawn", .val (.lst (DR.map dD))), ("texts", .val (.lst (X.map fun x => .str (Tx x))))]) (items := (List.range (((X.map fun x => D.str (Tx x)).length : Nat) : Int).toNat).map fun (k : Nat) => D.int (0 + (k : Int) * 1)) (fun _ => true) (fun j => .int (pl.getD j 0))
    ⟨rfl, rfl, rfl, rfl, ⟨⟨⟨_, rfl⟩, rfl, .inl rfl, rfl, .inl rfl⟩, ⟨⟨_, rfl⟩, rfl, .inl rfl, rfl, .inl rfl⟩, trivial⟩, by simp, ⟨rfl, rfl, trivial⟩⟩
    (evit_call (fd := .ty "range") (by k_extra "ev") True.intro (by k_extra "evl") (calit_range1 (by lia) (by lia))) (by rw [List.length_map, List.length_range, Int.toNat_natCast]; lia) fun Cc j d hd => ?itempl) ?respl) (by k_extra "stk") rfl) ?_
  case respl =>
    rw [List.length_map, List.length_range, Int.toNat_natCast, List.length_map, ← hpll, compRes_all, range_getD_map pl 0 fun x => D.int x]
  case itempl =>
    obtain ⟨hj, rfl⟩ := range_get hd
    rw [Int.toNat_natCast, List.length_map] at hj
    have e0 : D.int (0 + (j : Int) * 1) = .int (j : Int) := by congr 1; lia
    rw [e0]
    have hjD : j < DR.length := by lia
    obtain ⟨p, hp⟩ : ∃ p, DR[j]? = some p := ⟨_, List.getElem?_eq_getElem hjD⟩
    obtain ⟨d1, _⟩ := hDm p (List.mem_of_getElem? hp)
    have s1 : (DR.map dD)[((j : Nat) : Int).toNat]? = some (.tup [.int p.1, docD p.2]) := by rw [Int.toNat_natCast, List.getElem?_map, hp]; rfl
    have s2 : (X.map fun x => D.str (Tx x))[((j : Nat) : Int).toNat]? = some (.str (Tx (El.tols (t5 k) c 0 p.2))) := by rw [Int.toNat_natCast, hX, List.getElem?_map, List.getElem?_map, hp]; rfl
    have s3 : pl.getD j 0 = ((10 * (3 - p.1) + (El.tols (t5 k) c 0 p.2).count 59 / 2 : Nat) : Int) := by
      rw [hplv, ← hpla, List.getD_eq_getElem?_getD, List.getElem?_map, List.getElem?_map, hp]; rfl
    rw [s3]
    have j0 : (0 : Int) ≤ (j : Int) := by lia
    have j1 : (j : Int) < 2 ^ 63 := by lia
    have pp : Builtin.divisionGoesByPylong (((El.tols (t5 k) c 0 p.2).count 59 : Nat) : Int) 2 = false := PyProof.noPylong_small (by decide)
    have mm : IntMulOk (10 : Int) (3 - (p.1 : Int)) := mulOk_left (by decide)
    generalize (El.tols (t5 k) c 0 p.2) = t at pp s2 ⊢
    refine ⟨_, bnd_name (.inl rfl), ⟨rfl, rfl, trivial⟩, tests_nil, fun _ => ev_eq (ev_bin (ev_bin (by k_extra "ev") (ev_bin (by k_extra "ev") (ev_sub (ev_sub (by k_extra "ev") (by k_extra "ev") (sub_list j0 j1 s1)) (by k_extra "ev") (sub_tup (by decide) (by decide) rfl)) bop_sub) (bop_mul mm))
      (ev_bin (ev_method (ev_sub (by k_extra "ev") (by k_extra "ev") (sub_list j0 j1 s2)) getM_scount (evl_cons (ev_tx (l := [59]) rfl) evl_nil rfl) cal_scount rfl rfl) (by k_extra "ev") (bop_floordiv z2 pp)) bop_add) ?_⟩
    rw [Int.fdiv_eq_ediv_of_nonneg _ (show (0 : Int) ≤ 2 by decide)]
    congr 1
    lia
  have hshl : PL.map shOf = [shC c1, shC c2, shC c3] := by
    rw [hPL]
    show [shOf (plP a o1 o2 (shC c1)), shOf (plP a o1 o2 (shC c2)), shOf (plP a o1 o2 (shC c3))] = _
    rw [shOf_plP (shC_mem _), shOf_plP (shC_mem _), shOf_plP (shC_mem _)]
  have NL := num_law (w := w) (plans := PL) (shC_mem c1) (shC_mem c2) (shC_mem c3) hshl okP hw1 hw2
  rw [← hshd] at NL
  have sf := spec_fraction hK (n := n + 37) (plans := PL) (w := w) hpl okP hw1 hw2
  have hFo := (frI_ok (w := w) hw1 okP 3).o0
  obtain ⟨O, hO⟩ : ∃ O, O = (frI w PL 3).1 := ⟨_, rfl⟩
  obtain ⟨U, hU⟩ : ∃ U, U = (frI w PL 3).2 := ⟨_, rfl⟩
  rw [← hO, ← hU] at NL sf
  rw [← hO] at hFo
  refine exs_next (ex_assign2 (dx := .int O) (dy := .int U) (ev_call (fd := .fn 131) (by k_extra "ev") (by k_extra "keep") (by k_extra "evl") sf rfl rfl) (by k_extra "stk") (by k_extra "stk") rfl rfl) ?_
  have m75 : IntMulOk (75 : Int) (w : Int) := mulOk_left (by decide)
  have m45 : IntMulOk (45 : Int) (w : Int) := mulOk_left (by decide)
  have q75 : (0 : Int) ≤ (75 : Int) * (w : Int) := by lia
  have q45 : (0 : Int) ≤ (45 : Int) * (w : Int) := by lia
  have tb : Builtin.Int.intBits (2 : Int) ≤ 2 := intBits_le (by decide)
  have r75 : ((Builtin.Int.intBits (2 : Int) : Nat) : Int) * ((75 : Int) * (w : Int)) ≤ 2 ^ 27 := by
    have : ((Builtin.Int.intBits (2 : Int) : Nat) : Int) * ((75 : Int) * (w : Int)) ≤ 2 * 5325 := Int.mul_le_mul (by lia) (by lia) q75 (by lia)
    lia
  have t75 : ((75 : Int) * (w : Int)).toNat = 75 * w := by lia
  have t45 : ((45 : Int) * (w : Int)).toNat = 45 * w := by lia
  rw [← t75] at NL
  have hP0 : (0 : Int) < 2 ^ ((75 : Int) * (w : Int)).toNat := pow_pos' _
  have hPb : Builtin.Int.intBits ((2 : Int) ^ ((75 : Int) * (w : Int)).toNat) ≤ 8192 := by
    refine Nat.le_trans (bits_of (Int.le_of_lt hP0) (k := 75 * w + 1) ?_) (by lia)
    rw [t75]; exact Int.pow_lt_pow_of_lt (by decide) (by lia)
  obtain ⟨OV, hOV⟩ : ∃ OV, OV = O * (2 : Int) ^ ((75 : Int) * (w : Int)).toNat := ⟨_, rfl⟩
  rw [← hOV] at NL
  obtain ⟨u0, o0, ob, ub, qb, xb, x0, ds⟩ := NL
  rw [← t45] at xb x0 ds
  have hOle : O ≤ OV := by
    have := Int.mul_le_mul_of_nonneg_left (show (1 : Int) ≤ 2 ^ ((75 : Int) * (w : Int)).toNat by lia) (Int.le_of_lt hFo)
    rw [Int.mul_one, ← hOV] at this; exact this
  have hOb : Builtin.Int.intBits O ≤ Builtin.Int.intBits OV := bits_of (Int.le_of_lt hFo) (Int.lt_of_le_of_lt hOle (lt_two_pow_intBits o0))
  have mo : IntMulOk O ((2 : Int) ^ ((75 : Int) * (w : Int)).toNat) := mulOk_bits (by lia)
  have hq0 : 0 ≤ OV / U := Int.ediv_nonneg o0 (Int.le_of_lt u0)
  have hqle : OV / U ≤ OV := Int.ediv_le_self _ o0
  have hqb : Builtin.Int.intBits (OV / U) ≤ Builtin.Int.intBits OV := bits_of hq0 (Int.lt_of_le_of_lt hqle (lt_two_pow_intBits o0))
  have hmul : IntMulOk (OV / U) U := mulOk_bits (by lia)
  have sdm := spec_divmod_pos hK hT (n := n + 9) (a := OV) (b := U) o0 u0 ob ub qb
  have hrest : OV % U = OV - OV / U * U := by have := Int.mul_ediv_add_emod OV U; rw [Int.mul_comm] at this; lia
  have hr0 : 0 ≤ OV % U := Int.emod_nonneg _ (by lia)
  have hr1 : OV % U < U := Int.emod_lt_of_pos _ u0
  have eOV : D.int (O * (2 : Int) ^ ((75 : Int) * (w : Int)).toNat) = .int OV := by rw [hOV]
  refine exs_next (ex_assign2 (dx := .int (OV / U)) (dy := .int (OV % U)) (ev_call (fd := .fn 49) (by k_extra "ev") (by k_extra "keep") (evl_cons (ev_eq (by k_extra "ev") eOV) (by k_extra "evl") rfl) sdm rfl rfl) (by k_extra "stk") (by k_extra "stk") rfl rfl) ?_
  refine exs_next (ex_iff (b := decide (OV % U ≠ O * (2 : Int) ^ ((75 : Int) * (w : Int)).toNat - OV / U * U) || ((!(decide (0 ≤ OV % U) && decide (OV % U < U))) || false)) (by k_extra "tst") (by rw [← hOV, ← hrest]; simp [hr0, hr1]) exs_nil) ?_
  have hq : D.int ((OV / U).fdiv (2 ^ ((45 : Int) * (w : Int)).toNat)) = .int (OV / U / 2 ^ ((45 : Int) * (w : Int)).toNat) := by
    rw [Int.fdiv_eq_ediv_of_nonneg _ (Int.le_of_lt (pow_pos' _))]
  have si := spec_int2digits hK hT (n := n + 19) (a := OV / U / 2 ^ ((45 : Int) * (w : Int)).toNat) (w := w) x0 (by lia) (by lia) xb
  rw [ds] at si
  refine exs_ret (ex_return (ev_cmp (a := .lst (((cntsN sh).map fun n : Nat => (n : Int)).map .int)) (b := .lst (((cntsN sh).map fun n : Nat => (n : Int)).map .int)) (ev_call (fd := .fn 35) (by k_extra "ev") (by k_extra "keep") (evl_cons (ev_eq (by k_extra "ev") hq) (by k_extra "evl") rfl) si rfl rfl)
    (ev_eq (ev_comp (cl := [("places", L + 10)]) (σc := [("places", .val (.lst (pl.map .int)))]) (items := (List.range (31 : Int).toNat).map fun (k : Nat) => D.int (0 + (k : Int) * 1)) (fun _ => true) (fun j => .int ((pl.count (0 + (j : Int) * 1) : Nat) : Int))
      ⟨rfl, rfl, rfl, rfl, ⟨⟨⟨_, rfl⟩, rfl, .inl rfl, rfl, .inl rfl⟩, trivial⟩, by simp, rfl, trivial⟩
      (evit_call (fd := .ty "range") (by k_extra "ev") True.intro (by k_extra "evl") (calit_range1 (by lia) (by lia))) (by rw [List.length_map, List.length_range, sz]; decide) fun Cc j d hd => ?itemc) ?resc) cmp_eq_ints (by with_unfolding_all rfl)))
  case itemc =>
    obtain ⟨hj, rfl⟩ := range_get hd
    exact ⟨_, bnd_name (.inl rfl), ⟨rfl, trivial⟩, tests_nil, fun _ => by k_extra "ev"⟩
  case resc =>
    rw [List.length_map, List.length_range, compRes_all, cntsN, List.map_map, List.map_map]
    refine congrArg D.lst (List.map_congr_left fun j _ => ?_)
    show D.int ((pl.count (0 + (j : Int) * 1) : Nat) : Int) = D.int ((cntB j (placesN sh) : Nat) : Int)
    rw [cntB_count, ← hplv, show (0 + (j : Int) * 1) = (j : Int) by lia]
end
end
end Mine
end
namespace Mine
theorem tab_inj : ∀ t ∈ [tab2, tab1], ∀ t' ∈ [tab2, tab1], t.P = t'.P → t = t' := by
  intro t ht t' ht'
  simp only [List.mem_cons, List.not_mem_nil, or_false] at ht ht'
  rcases ht with rfl | rfl <;> rcases ht' with rfl | rfl <;> first | (intro _; rfl) | (intro h; cases h)
set_option maxHeartbeats 8000000 in
theorem law_holds : PySem.Challenge.rw_pg0193_03.Holds := hd (by
  k_fill
  intro w s₀ s₁ mg mb G Y fa o pm cd doc dV kV ho hd hcd hD hmg hg args vals as hpre hlay hrd hwl hlo
  have KX := km_in_of Y
  km_tabs Y
  refine Ground.open G ?_
  intro T B D TE TW
  try (refine guard_noD D (by decide +kernel) ?_; clear D)
  km_lay T hmg ho hd cd
  wrow_args hpre hlay hrd hwl hlo
  all_goals (
    rename_i hl63 hl63'
    refine join (tabs := [tab2, tab1]) (q := 136) KX (by kernel_rfl) T hT9 tab_inj hg hmg (by kernel_rfl) (by assumption) (by assumption) (fun C hK hw hT => spec_law (n := 560) ((by rw [hK, ← hw] : C.K = Mine.hd.heap_39 C.P)) hT (by lia)) (fun _ => rfl) (post_ok _ _)))
end Mine
theorem PySem.Challenge.cw_pg0193_03_holds : PySem.Challenge.rw_pg0193_03.Holds := by
  exact Mine.law_holds
