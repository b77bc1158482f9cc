import PyProof.Rows.All
import Wide.All
import OpenK.AllK
import Wide.FinOn
import PySem.Challenge.RW_ft0020_01
open PySem PySem.W PyProof.Rows PySem.Calls
set_option Elab.async false
set_option maxRecDepth 100000
set_option linter.all false

namespace Mine

/-- an object seen without hashes, epochs, tokens -/
inductive MO where
  | list (vs : List Value)
  | tup (vs : List Value)
  | inst (C d : Addr)
  | sd (kv : List (Str × Value))
  | raw (o : Obj)
  /-- a dict of strs, seen as a function; at most n entries -/
  | map (f : Str → Option Value) (n : Nat)
  /-- a dict of objects: key, hash, value -/
  | vd (xs : List (Addr × Int × Value))

inductive SdEs (P : Params) : List DictEntry → List (Str × Value) → Prop where
  | nil : SdEs P [] []
  | cons {k : Str} {t : Tok} {v : Value} {es kv} : SdEs P es kv → SdEs P (⟨PyData.keyHash P k, .str k t, v⟩ :: es) ((k, v) :: kv)

def MO.rep (P : Params) : MO → Obj → Prop
  | .list vs, o => ∃ n, o = { cls := .type "list", data := .seq vs.toArray n }
  | .tup vs, o => o = { cls := .type "tuple", data := .seq vs.toArray }
  | .inst C d, o => o = instObj C d
  | .sd kv, o => ∃ es n, o = dictOf es n ∧ SdEs P es kv
  | .raw o', o => o = o'
  | .map f n, o => ∃ es kv ep, o = { cls := .type "dict", data := .dict (List.toArray es) ep } ∧ SdEs P es kv ∧ (kv.map (·.1)).Nodup ∧ (∀ k, kv.lookup k = f k) ∧ kv.length ≤ n
  | .vd xs, o => ∃ ep, o = { cls := .type "dict", data := .dict (xs.map fun x => ⟨x.2.1, .ref x.1, x.2.2⟩).toArray ep }

abbrev G := Addr → Option MO
abbrev Mem := List (Addr × MO)
def Le (g g' : G) : Prop := ∀ a m, g a = some m → g' a = some m
def Sub (P : Params) (g : G) (h : Heap) : Prop := ∀ a m, g a = some m → ∃ o, h.get? a = some o ∧ m.rep P o
def Ext (h h' : Heap) : Prop := ∀ a o, h.get? a = some o → h'.get? a = some o
theorem Le.pass {g g' : G} {a : Addr} {m : MO} (l : Le g g') (e : g a = some m) : g' a = some m := l _ _ e
theorem Le.refl (g : G) : Le g g := fun _ _ e => e
theorem Le.trans {a b c : G} (h : Le a b) (k : Le b c) : Le a c := fun _ _ e => k _ _ (h _ _ e)
theorem Ext.refl (h : Heap) : Ext h h := fun _ _ e => e
theorem Ext.trans {a b c : Heap} (h : Ext a b) (k : Ext b c) : Ext a c := fun _ _ e => k _ _ (h _ _ e)
theorem Sub.ext {P : Params} {g : G} {h h' : Heap} (x : Sub P g h) (k : Ext h h') : Sub P g h' := fun a m e => let ⟨o, ho, hr⟩ := x a m e; ⟨o, k _ _ ho, hr⟩

structure Wd (K : Frag) (h : Heap) : Prop where
  X : K.In h
  g : ∃ mg, h.Ns mainGlobals mg
  b : ∃ mb, h.Ns builtinsNs mb ∧ ∀ x : Str, x ≠ "__name__" → mb x = bootBuiltins x
  nolimit : h.NoLimit
theorem Wd.ext {K : Frag} {h h' : Heap} (x : Wd K h) (k : Ext h h') : Wd K h' :=
  ⟨x.X.keeps k, let ⟨m, a⟩ := x.g; ⟨m, a.keeps k⟩, let ⟨m, a, b⟩ := x.b; ⟨m, a.keeps k, b⟩, x.nolimit.keeps k⟩

structure Room (A : Around) (n : Nat) : Prop where
  depth : A.depth + n < recursionLimit
  units : A.units + 8 * n < cLine
  handled : A.handled = none
theorem Room.le {A : Around} {n m : Nat} (r : Room A n) (h : m ≤ n) : Room A m := ⟨by have := r.depth; omega, by have := r.units; omega, r.handled⟩
theorem Room.deeper {A : Around} {n : Nat} (r : Room A (n + 1)) (env : Env) : Room (A.deeper env) n :=
  ⟨by have := r.depth; show A.depth + 1 + n < _; omega, by have := r.units; show A.units + 3 + 8 * n < _; omega, r.handled⟩
theorem Room.in1 {A : Around} {n : Nat} (r : Room A (n + 1)) : Room A.in1 n :=
  ⟨by have := r.depth; show A.depth + n < _; omega, by have := r.units; show A.units + 1 + 8 * n < _; omega, r.handled⟩

structure Cx where
  A : Around
  env : Env
  own : List Addr
  h₀ : Heap
  ge : G

structure Act (P : Params) (c : Cx) (g : G) (ρ : Str → Option Value) (M : Mem) (h : Heap) : Prop where
  keep : Ext c.h₀ h
  know : Sub P g h
  old : ∀ a m, g a = some m → c.ge a = some m ∨ c.h₀.get? a = none
  ns : ∃ m, h.Ns c.env.locals m ∧ ∀ x, c.env.kindOf x = some .local → m x = ρ x
  cell : ∀ x a, c.env.cells.lookup x = some a → h.IsCell a (ρ x)
  mem : ∀ p ∈ M, ∃ o, h.get? p.1 = some o ∧ p.2.rep P o
  fresh : ∀ a ∈ c.own ++ M.map (·.1), c.h₀.get? a = none ∧ g a = none
  nodup : (c.own ++ M.map (·.1)).Nodup
  live : ∀ a ∈ c.own, ∃ o, h.get? a = some o

structure Cx.Ok (K : Frag) (c : Cx) (n : Nat) : Prop where
  room : Room c.A n
  wd : Wd K c.h₀
  kind : c.env.scope.kind = .function
  globals : c.env.globals = mainGlobals
  builtins : c.env.builtins = builtinsNs
  loc : c.env.locals ∈ c.own
  cells : ∀ x a, c.env.cells.lookup x = some a → a ≠ c.env.locals ∧ ∀ y b, c.env.cells.lookup y = some b → y ≠ x → b ≠ a
  cellOf : ∀ x, c.env.kindOf x = some .cell → ∃ a, c.env.cells.lookup x = some a
  freeOf : ∀ x, c.env.kindOf x = some .free → ∃ a, c.env.cells.lookup x = some a
  locOf : ∀ x, c.env.kindOf x = some .local → c.env.cells.lookup x = none
  cellIn : ∀ x a, c.env.cells.lookup x = some a → a ∈ c.own ∨ ∃ o, c.h₀.get? a = some o

/-- the cells are the function's own (it may store to them) -/
def Cx.Own (c : Cx) : Prop := ∀ x a, c.env.cells.lookup x = some a → a ∈ c.own
theorem kind_of {c : Cx} {l : List (Str × NameKind)} {x : Str} {k : NameKind} (h : c.env.scope.names = l) (e : l.lookup x = some k) : c.env.kindOf x = some k := by rw [Env.kindOf, h]; exact e
def Rest (s s' : Shared) : Prop := s'.gens = s.gens ∧ s'.drawn = s.drawn ∧ s'.os = s.os
theorem Rest.refl (s : Shared) : Rest s s := ⟨rfl, rfl, rfl⟩
theorem Rest.trans {a b c : Shared} (h : Rest a b) (k : Rest b c) : Rest a c := ⟨k.1.trans h.1, k.2.1.trans h.2.1, k.2.2.trans h.2.2⟩

section
variable {prog : Program} {w : World}

def T (prog : Program) (w : World) {α : Type} (c : Cx) (t : Sem α) (Q : α → G → (Str → Option Value) → Mem → Prop) (g : G) (ρ : Str → Option Value) (M : Mem) : Prop :=
  ∀ s, Act w.params c g ρ M s.heap → wpAny (model prog w) c.A t (fun r s' => ∃ g' ρ' M', Act w.params c g' ρ' M' s'.heap ∧ Rest s s' ∧ Le g g' ∧ Q r g' ρ' M') (fun _ _ => False) s

variable {α β : Type} {c : Cx} {g : G} {ρ : Str → Option Value} {M : Mem} {K : Frag} {n : Nat}

theorem T.mono {t : Sem α} {Q Q' : α → G → (Str → Option Value) → Mem → Prop} (h : T prog w c t Q g ρ M) (k : ∀ r g ρ M, Q r g ρ M → Q' r g ρ M) : T prog w c t Q' g ρ M :=
  fun s hA => wpAny_mono (h s hA) (fun _ _ ⟨g', ρ', M', a, b, l, q⟩ => ⟨g', ρ', M', a, b, l, k _ _ _ _ q⟩) fun _ _ e => e
theorem T.bind {m : Sem α} {f : α → Sem β} {Q : β → G → (Str → Option Value) → Mem → Prop} (h : T prog w c m (fun a g ρ M => T prog w c (f a) Q g ρ M) g ρ M) : T prog w c (m >>= f) Q g ρ M :=
  fun s hA => wpAny_bind (wpAny_mono (h s hA) (fun _ _ ⟨_, _, _, a, b, l, q⟩ => wpAny_mono (q _ a) (fun _ _ ⟨g', ρ', M', a', b', l', q'⟩ => ⟨g', ρ', M', a', b.trans b', l.trans l', q'⟩) fun _ _ e => e) fun _ _ e => e)
theorem T.pure {a : α} {Q : α → G → (Str → Option Value) → Mem → Prop} (h : Q a g ρ M) : T prog w c (pure a) Q g ρ M := fun s hA => wpAny_pure ⟨g, ρ, M, hA, .refl s, .refl g, h⟩
theorem T.standAt {pos : Pos} {Q : Unit → G → (Str → Option Value) → Mem → Prop} (h : Q () g ρ M) : T prog w c (standAt pos) Q g ρ M := fun s hA => wpAny_standAt ⟨g, ρ, M, hA, .refl s, .refl g, h⟩
theorem T.point {Q : Unit → G → (Str → Option Value) → Mem → Prop} (h : Q () g ρ M) : T prog w c point Q g ρ M := fun s hA => wpAny_point ⟨g, ρ, M, hA, .refl s, .refl g, h⟩
theorem T.rule {tag : String} {Q : Unit → G → (Str → Option Value) → Mem → Prop} (h : Q () g ρ M) : T prog w c (PySem.rule tag) Q g ρ M := fun s hA => wpAny_rule ⟨g, ρ, M, hA, .refl s, .refl g, h⟩
theorem T.holding {vs : List Value} {m : Sem α} {Q : α → G → (Str → Option Value) → Mem → Prop} (h : T prog w c m Q g ρ M) : T prog w c (holding vs m) Q g ρ M := fun s hA => wpAny_holding (h s hA)
theorem T.operate {vs : List Value} {m : Sem Value} {Q : Value → G → (Str → Option Value) → Mem → Prop} (h : T prog w c m Q g ρ M) : T prog w c (operate vs m) Q g ρ M := fun s hA Γ p hΓ => by
  rw [Sem.wp_operate]; exact h s hA Γ p hΓ
theorem T.release {vs ks : List Value} {Q : Unit → G → (Str → Option Value) → Mem → Prop} (h : Q () g ρ M) : T prog w c (release vs ks) Q g ρ M := fun s hA Γ p hΓ => by
  rw [Sem.wp_release]; exact ⟨g, ρ, M, hA, .refl s, .refl g, h⟩
theorem T.letTemp {b : Expr} {o r : Value} {Q : Unit → G → (Str → Option Value) → Mem → Prop} (h : Q () g ρ M) : T prog w c (letTemporaryGo b o r) Q g ρ M := fun s hA => wpAny_letTemporaryGo ⟨g, ρ, M, hA, .refl s, .refl g, h⟩
theorem T.looks {t : Sem α} {r : α} {Q : α → G → (Str → Option Value) → Mem → Prop} (l : ∀ h, Act w.params c g ρ M h → Looks (model prog w) h t r) (h : Q r g ρ M) : T prog w c t Q g ρ M :=
  fun s hA => (l _ hA).here ⟨g, ρ, M, hA, .refl s, .refl g, h⟩
theorem T.of_eq {t t' : Sem α} {Q : α → G → (Str → Option Value) → Mem → Prop} (e : t = t') (h : T prog w c t' Q g ρ M) : T prog w c t Q g ρ M := e ▸ h
/-- a step that leaves the heap as it is -/
theorem T.tok {t : Sem α} {Q : α → G → (Str → Option Value) → Mem → Prop}
    (h : ∀ s, Act w.params c g ρ M s.heap → ∀ R : α → Shared → Prop, (∀ r tk, Q r g ρ M → R r { s with toks := tk }) → wpAny (model prog w) c.A t R (fun _ _ => False) s) : T prog w c t Q g ρ M :=
  fun s hA => h s hA _ fun _ _ q => ⟨g, ρ, M, hA, ⟨rfl, rfl, rfl⟩, .refl g, q⟩

theorem Act.wd (A : Act w.params c g ρ M h) (O : c.Ok K n) : Wd K h := O.wd.ext A.keep

theorem T.local {x : Str} {pos : Pos} {v : Value} {Q : Value → G → (Str → Option Value) → Mem → Prop} (O : c.Ok K n) (hl : c.env.kindOf x = some .local) (hv : ρ x = some v) (h : Q v g ρ M)
    (hd : (x == ("__debug__" : Str)) = false) : T prog w c (eval (.Name x pos) c.env) Q g ρ M := fun s hA => by
  obtain ⟨m, hm, e⟩ := hA.ns
  exact wpAny_Name (wpAny_loadName_local O.kind hl hm ((e x hl).trans hv) ⟨g, ρ, M, hA, .refl s, .refl g, h⟩) hd
theorem T.cell {x : Str} {pos : Pos} {v : Value} {Q : Value → G → (Str → Option Value) → Mem → Prop} (O : c.Ok K n) (hl : c.env.kindOf x = some .cell) (hv : ρ x = some v) (h : Q v g ρ M)
    (hd : (x == ("__debug__" : Str)) = false) : T prog w c (eval (.Name x pos) c.env) Q g ρ M := fun s hA =>
  let ⟨a, hc⟩ := O.cellOf x hl
  wpAny_Name (wpAny_loadName_cell O.kind hl hc (hv ▸ hA.cell x a hc) ⟨g, ρ, M, hA, .refl s, .refl g, h⟩) hd
theorem T.free {x : Str} {pos : Pos} {v : Value} {Q : Value → G → (Str → Option Value) → Mem → Prop} (O : c.Ok K n) (hl : c.env.kindOf x = some .free) (hv : ρ x = some v) (h : Q v g ρ M)
    (hd : (x == ("__debug__" : Str)) = false) (hn : (x == ("__classdict__" : Str)) = false) : T prog w c (eval (.Name x pos) c.env) Q g ρ M := fun s hA =>
  let ⟨a, hc⟩ := O.freeOf x hl
  wpAny_Name (wpAny_loadName_free O.kind hl hc (hv ▸ hA.cell x a hc) ⟨g, ρ, M, hA, .refl s, .refl g, h⟩ hn) hd
theorem T.global {x : Str} {pos : Pos} {v : Value} {Q : Value → G → (Str → Option Value) → Mem → Prop} (O : c.Ok K n) (hl : c.env.kindOf x = some .globalImplicit) (e : nsIn K mainGlobals x = some (some v)) (h : Q v g ρ M)
    (hd : (x == ("__debug__" : Str)) = false) : T prog w c (eval (.Name x pos) c.env) Q g ρ M := fun s hA => by
  obtain ⟨mg, hg⟩ := (hA.wd O).g
  exact Name_function_global O.kind hl (loadGlobal_global (env := c.env) (by rw [O.globals]; exact hg) (mg_of (hA.wd O).X hg e) ⟨g, ρ, M, hA, .refl s, .refl g, h⟩) hd
theorem T.builtin {x : Str} {pos : Pos} {v : Value} {Q : Value → G → (Str → Option Value) → Mem → Prop} (O : c.Ok K n) (hl : c.env.kindOf x = some .globalImplicit) (e : nsIn K mainGlobals x = some none) (hv : bootBuiltins x = some v) (hn : x ≠ "__name__") (h : Q v g ρ M)
    (hd : (x == ("__debug__" : Str)) = false) : T prog w c (eval (.Name x pos) c.env) Q g ρ M := fun s hA => by
  obtain ⟨mg, hg⟩ := (hA.wd O).g
  obtain ⟨mb, hb, hbb⟩ := (hA.wd O).b
  exact Name_function_global O.kind hl (loadGlobal_builtin (env := c.env) (by rw [O.globals]; exact hg) (mg_none_of (hA.wd O).X hg e) (by rw [O.builtins]; exact hb) ((hbb x hn).trans hv) ⟨g, ρ, M, hA, .refl s, .refl g, h⟩) hd

def put (ρ : Str → Option Value) (x : Str) (v : Value) : Str → Option Value := fun y => if y = x then some v else ρ y

theorem Act.sameBut {h h' : Heap} {a : Addr} (A : Act P c g ρ M h) (hs : Heap.SameBut a h h') (ha : a ∈ c.own) (hl : ∃ o, h'.get? a = some o) : Ext c.h₀ h' ∧ Sub P g h' ∧ (∀ p ∈ M, ∃ o, h'.get? p.1 = some o ∧ p.2.rep P o) ∧ ∀ a ∈ c.own, ∃ o, h'.get? a = some o := by
  have hf := A.fresh a (List.mem_append_left _ ha)
  refine ⟨fun b o e => (hs.2 b fun q => ?_).trans (A.keep b o e), fun b m e => ?_, fun p hp => ?_, fun b hb => ?_⟩
  · rw [q, hf.1] at e; cases e
  · obtain ⟨o, ho, hr⟩ := A.know b m e
    exact ⟨o, (hs.2 b fun q => by rw [q, hf.2] at e; cases e).trans ho, hr⟩
  · obtain ⟨o, ho, hr⟩ := A.mem p hp
    refine ⟨o, (hs.2 p.1 fun q => ?_).trans ho, hr⟩
    exact (List.nodup_append.mp A.nodup).2.2 a ha p.1 (List.mem_map_of_mem hp) q.symm
  · by_cases q : b = a
    · exact q ▸ hl
    · obtain ⟨o, ho⟩ := A.live b hb
      exact ⟨o, (hs.2 b q).trans ho⟩

theorem T.stLocal {x : Str} {v : Value} {Q : Unit → G → (Str → Option Value) → Mem → Prop} (O : c.Ok K n) (hl : c.env.kindOf x = some .local) (h : Q () g (put ρ x v) M) :
    T prog w c (storeName c.env x v) Q g ρ M := fun s hA => by
  obtain ⟨m, hm, e⟩ := hA.ns
  refine wpAny_storeName_local hl hm (fun h' hn hs => ?_) (by rw [O.kind]; rfl)
  obtain ⟨k1, k2, k3, k4⟩ := hA.sameBut hs O.loc (let ⟨o, _, _, ho, _⟩ := hn; ⟨o, ho⟩)
  refine ⟨g, put ρ x v, M, ⟨k1, k2, hA.old, ⟨_, hn, fun y hy => ?_⟩, fun y a hc => ?_, k3, hA.fresh, hA.nodup, k4⟩, ⟨rfl, rfl, rfl⟩, .refl g, h⟩
  · by_cases q : y = x
    · simp [put, q]
    · simp only [put, if_neg q]; exact e y hy
  · have q : y ≠ x := fun q => by rw [q, O.locOf x hl] at hc; cases hc
    have := (hA.cell y a hc).sameBut hs (O.cells y a hc).1
    simpa only [put, if_neg q] using this
theorem T.stCell {x : Str} {v : Value} {Q : Unit → G → (Str → Option Value) → Mem → Prop} (O : c.Ok K n) (W : c.Own) (hl : c.env.kindOf x = some .cell) (h : Q () g (put ρ x v) M) :
    T prog w c (storeName c.env x v) Q g ρ M := fun s hA => by
  obtain ⟨a, hc⟩ := O.cellOf x hl
  have ho := W x a hc
  refine wpAny_storeName_cell O.kind hl hc (hA.cell x a hc) (fun h' hv hs => ?_)
  obtain ⟨k1, k2, k3, k4⟩ := hA.sameBut hs ho (let ⟨o, ho, _⟩ := hv; ⟨o, ho⟩)
  obtain ⟨m, hm, e⟩ := hA.ns
  refine ⟨g, put ρ x v, M, ⟨k1, k2, hA.old, ⟨m, hm.sameBut hs (Ne.symm (O.cells x a hc).1), fun y hy => ?_⟩, fun y b hb => ?_, k3, hA.fresh, hA.nodup, k4⟩, ⟨rfl, rfl, rfl⟩, .refl g, h⟩
  · have q : y ≠ x := fun q => by rw [q, hl] at hy; cases hy
    simp only [put, if_neg q]; exact e y hy
  · by_cases q : y = x
    · subst q; rw [hc] at hb; cases hb; simpa [put] using hv
    · have := (hA.cell y b hb).sameBut hs ((O.cells x a hc).2 y b hb q)
      simpa only [put, if_neg q] using this

/-- a tree that keeps all that stands; it may make new objects -/
def Pu (prog : Program) (w : World) (K : Frag) (n : Nat) {α : Type} (t : Sem α) (Q : α → G → Prop) (g : G) : Prop :=
  ∀ A s, Room A n → Wd K s.heap → Sub w.params g s.heap → wpAny (model prog w) A t (fun r s' => Ext s.heap s'.heap ∧ Rest s s' ∧
    ∃ g', Le g g' ∧ Sub w.params g' s'.heap ∧ (∀ a m, g' a = some m → g a = some m ∨ s.heap.get? a = none) ∧ Q r g') (fun _ _ => False) s

theorem Pu.mono {t : Sem α} {Q Q' : α → G → Prop} {m : Nat} (h : Pu prog w K n t Q g) (hm : n ≤ m) (k : ∀ r g', Le g g' → Q r g' → Q' r g') : Pu prog w K m t Q' g :=
  fun A s r wd sb => wpAny_mono (h A s (r.le hm) wd sb) (fun _ _ ⟨a, b, g', c, d, e, q⟩ => ⟨a, b, g', c, d, e, k _ _ c q⟩) fun _ _ e => e

theorem T.pu {t : Sem α} {Q' : α → G → Prop} {Q : α → G → (Str → Option Value) → Mem → Prop} {m : Nat} (O : c.Ok K n) (hp : Pu prog w K m t Q' g) (hm : m ≤ n) (h : ∀ r g', Le g g' → Q' r g' → Q r g' ρ M) : T prog w c t Q g ρ M := fun s hA => by
  refine wpAny_mono (hp c.A s (O.room.le hm) (hA.wd O) hA.know) (fun r s' ⟨x, rs, g', l, sb, nw, q⟩ => ?_) fun _ _ e => e
  refine ⟨g', ρ, M, ⟨hA.keep.trans x, sb, fun a m e => ?_, ?_, fun y a e => (hA.cell y a e).keeps x, fun p hp => ?_, fun a ha => ⟨(hA.fresh a ha).1, ?_⟩, hA.nodup, fun a ha => ?_⟩, rs, l, h r g' l q⟩
  · rcases nw a m e with e | e
    · exact hA.old a m e
    · right
      cases q : c.h₀.get? a with
      | none => rfl
      | some o => rw [hA.keep a o q] at e; cases e
  · obtain ⟨m, hm, e⟩ := hA.ns
    exact ⟨m, hm.keeps x, e⟩
  · obtain ⟨o, ho, hr⟩ := hA.mem p hp
    exact ⟨o, x _ _ ho, hr⟩
  · cases q : g' a with
    | none => rfl
    | some m =>
      rcases nw a m q with e | e
      · rw [(hA.fresh a ha).2] at e; cases e
      · exfalso
        rcases List.mem_append.mp ha with ha | ha
        · obtain ⟨o, ho⟩ := hA.live a ha
          rw [ho] at e; cases e
        · obtain ⟨p, hp, rfl⟩ := List.mem_map.mp ha
          obtain ⟨o, ho, _⟩ := hA.mem p hp
          rw [ho] at e; cases e
  · obtain ⟨o, ho⟩ := hA.live a ha
    exact ⟨o, x _ _ ho⟩

def ofBinds (binds : List (Str × Value)) : Str → Option Value := binds.foldl (fun ρ p => put ρ p.1 p.2) (fun _ => none)

theorem bindL_is (kindOf : Str → Option NameKind) : ∀ (binds : List (Str × Value)) (m ρ : Str → Option Value), (∀ x, kindOf x = some .local → m x = ρ x) → ∀ x, kindOf x = some .local → bindL kindOf binds m x = binds.foldl (fun ρ p => put ρ p.1 p.2) ρ x
  | [], _, _, h, x, hx => h x hx
  | (y, v) :: r, m, ρ, h, x, hx => by
    unfold bindL
    refine bindL_is kindOf r _ (put ρ y v) (fun z hz => ?_) x hx
    by_cases hy : kindOf y = some .local
    · rw [if_pos hy]
      by_cases q : z = y <;> simp [put, q, h z hz]
    · rw [if_neg hy]
      have q : z ≠ y := fun q => hy (q ▸ hz)
      simp [put, q, h z hz]
theorem bindC_is (kindOf : Str → Option NameKind) : ∀ (binds : List (Str × Value)) (m ρ : Str → Option Value), (∀ x, kindOf x ≠ some .local → m x = ρ x) → ∀ x, kindOf x ≠ some .local → bindC kindOf binds m x = binds.foldl (fun ρ p => put ρ p.1 p.2) ρ x
  | [], _, _, h, x, hx => h x hx
  | (y, v) :: r, m, ρ, h, x, hx => by
    unfold bindC
    refine bindC_is kindOf r _ (put ρ y v) (fun z hz => ?_) x hx
    by_cases hy : kindOf y = some .local
    · rw [if_pos hy]
      have q : z ≠ y := fun q => hz (q ▸ hy)
      simp [put, q, h z hz]
    · rw [if_neg hy]
      by_cases q : z = y <;> simp [put, q, h z hz]

theorem cellsFrom_none {x : Str} : ∀ (names : List (Str × NameKind)) (n : Nat) (acc : List (Str × Addr)), (∀ k, (x, k) ∈ names → k ≠ .cell) → (cellsFrom n names acc).lookup x = acc.lookup x
  | [], _, _, _ => rfl
  | (y, k) :: r, n, acc, h => by
    unfold cellsFrom
    by_cases hk : (k == .cell) = true
    · rw [if_pos hk, cellsFrom_none r _ _ fun k' hk' => h k' (.tail _ hk'), List.lookup_cons]
      have : (x == y) = false := by
        cases q : x == y with
        | false => rfl
        | true => exact absurd (by simpa using hk) (h k (by rw [beq_iff_eq.mp q]; exact .head _))
      rw [this]
    · rw [if_neg hk]
      exact cellsFrom_none r _ _ fun k' hk' => h k' (.tail _ hk')

theorem ndCellsA : ∀ (names : List (Str × NameKind)) (n : Nat) (acc : List (Str × Addr)), (names.map (·.1)).Nodup → (acc.map (·.1)).Nodup → (∀ x ∈ names.map (·.1), x ∉ acc.map (·.1)) → ((cellsFrom n names acc).map (·.1)).Nodup
  | [], _, _, _, h, _ => h
  | (y, k) :: r, n, acc, hn, ha, hd => by
    have hn' := List.nodup_cons.mp hn
    unfold cellsFrom
    split
    · refine ndCellsA r _ _ hn'.2 (List.nodup_cons.mpr ⟨hd y (.head _), ha⟩) fun x hx hm => ?_
      rcases List.mem_cons.mp hm with e | hm
      · exact hn'.1 (e ▸ hx)
      · exact hd x (.tail _ hx) hm
    · exact ndCellsA r _ _ hn'.2 ha fun x hx => hd x (.tail _ hx)
theorem ndCells {names : List (Str × NameKind)} (h : (names.map (·.1)).Nodup) (n : Nat) : ((cellsFrom n names []).map (·.1)).Nodup := ndCellsA names n [] h List.nodup_nil fun _ _ h => nomatch h

theorem kind_mem {x : Str} {k : NameKind} : ∀ {names : List (Str × NameKind)}, (names.map (·.1)).Nodup → (x, k) ∈ names → names.lookup x = some k
  | (y, k') :: r, hn, h => by
    rw [List.lookup_cons]
    rcases List.mem_cons.mp h with e | h
    · cases e; simp
    · have hn' := List.nodup_cons.mp hn
      have : (x == y) = false := by
        cases q : x == y with
        | false => rfl
        | true => exact absurd (List.mem_map_of_mem (f := (·.1)) h) (by rw [← beq_iff_eq.mp q] at hn'; exact hn'.1)
      rw [this]
      exact kind_mem hn'.2 h

structure DefOk (K : Frag) (fd : FuncData) : Prop where
  co : fd.scope.isCoroutine = false
  gen : fd.scope.isGenerator = false
  kind : fd.scope.kind = .function
  clo : fd.closure = []
  glob : fd.globals = mainGlobals
  blt : fd.builtins = builtinsNs
  code : codeIn K fd.code fd.qualname = true
  names : (fd.scope.names.map (·.1)).Nodup
  nofree : (fd.scope.names.all fun p => decide (p.2 ≠ .free)) = true

def retOf : Flow → Value | .ret v => v | _ => .none

structure Out (P : Params) (h₀ : Heap) (ge g g' : G) (M' : Mem) (s s' : Shared) : Prop where
  ext : Ext h₀ s'.heap
  rest : Rest s s'
  le : Le g g'
  know : Sub P g' s'.heap
  old : ∀ a m, g' a = some m → ge a = some m ∨ h₀.get? a = none
  mem : ∀ p ∈ M', ∃ o, s'.heap.get? p.1 = some o ∧ p.2.rep P o
  fresh : ∀ a ∈ M'.map (·.1), h₀.get? a = none ∧ g' a = none
  nodup : (M'.map (·.1)).Nodup

/-- a def of the text's is entered; M₀: what the caller's mutable objects are that it may turn -/
theorem enter {f : Addr} {fd : FuncData} {body : List Stmt} {oc : Value} {od : Option Addr} {osl : Array (Option Value)} {args : List Value} {kw : List (Str × Value)} {binds : List (Str × Value)} {R : Value → G → Mem → Prop}
    {A : Around} {s : Shared} {h₀ : Heap} {ge : G} {M₀ : Mem} (r : Room A (n + 1)) (wd : Wd K h₀) (keep₀ : Ext h₀ s.heap) (sb : Sub w.params g s.heap) (old : ∀ a m, g a = some m → ge a = some m ∨ h₀.get? a = none)
    (mem : ∀ p ∈ M₀, ∃ o, s.heap.get? p.1 = some o ∧ p.2.rep w.params o) (fresh : ∀ a ∈ M₀.map (·.1), h₀.get? a = none ∧ g a = none) (nodup : (M₀.map (·.1)).Nodup)
    (hK : K.lookup f = some ⟨oc, od, .func fd, osl⟩) (D : DefOk K fd) (hb : fd.body = .stmts body) (hbind : BindsTo s fd ⟨args, kw⟩ binds)
    (hkind : (binds.all fun y => fd.scope.names.lookup y.1 == some .local || fd.scope.names.lookup y.1 == some .cell) = true)
    (h : ∀ c : Cx, c.Ok K n → c.Own → c.env.scope.names = fd.scope.names → c.ge = ge → c.h₀ = h₀ → T prog w c (execs body c.env) (fun fl g' _ M' => R (retOf fl) g' M') g (ofBinds binds) M₀) :
    codeAny (model prog w) A (.call (.ref f) ⟨args, kw⟩) (fun r s' => ∃ v g' M', r = .ok (.ret v) ∧ Out w.params h₀ ge g g' M' s s' ∧ R v g' M') s := by
  have X₁ : K.In s.heap := wd.X.keeps keep₀
  refine codeAny_call_function (by have := r.depth; omega) (X₁ _ _ hK) rfl D.co D.gen hb (codeRec_of X₁ D.code) (hbind _ _ _ _ ?_)
  rw [D.clo]
  have kd := kindsX hkind (s.heap.objs.size + 1)
  refine wpAny_newFunctionEnv_cells D.kind kd fun env he s' X => ?_
  have hS : env.scope = fd.scope := by rw [he]; rfl
  have hLo : env.locals = s.heap.objs.size := by rw [he]; rfl
  have hCe : env.cells = cellsFrom (s.heap.objs.size + 1) fd.scope.names [] := by rw [he]; rfl
  have hkd : ∀ x, env.kindOf x = fd.scope.names.lookup x := fun x => by rw [Env.kindOf, hS]
  have hcellk : ∀ x a, env.cells.lookup x = some a → env.kindOf x = some .cell := fun x a e => by
    cases q : env.kindOf x with
    | none =>
      exfalso
      rw [hCe, cellsFrom_none] at e
      · cases e
      · intro k hk _
        have := kind_mem D.names hk
        rw [← hkd, q] at this; cases this
    | some k =>
      by_cases hk : k = .cell
      · rw [hk]
      · exfalso
        rw [hCe, cellsFrom_none] at e
        · cases e
        · intro k' hk'
          have := kind_mem D.names hk'
          rw [← hkd, q] at this; cases this; exact hk
  have own_mem : ∀ x a, env.cells.lookup x = some a → a ∈ env.locals :: env.cells.map (·.2) := fun x a e => .tail _ (List.mem_map_of_mem (f := (·.2)) (mem_of_lookup e))
  have keep := X.toInCall.keep
  let c : Cx := ⟨A.deeper env, env, env.locals :: env.cells.map (·.2), h₀, ge⟩
  have O : c.Ok K n := {
    room := r.deeper env
    wd := wd
    kind := by show env.scope.kind = _; rw [hS]; exact D.kind
    globals := by show env.globals = _; rw [he]; exact D.glob
    builtins := by show env.builtins = _; rw [he]; exact D.blt
    loc := .head _
    cells := fun x a e => ⟨fun q => absurd (X.above x a (mem_of_lookup e)) (by rw [q]; exact Nat.lt_irrefl _), fun y b e' hy q => hy (name_of_addr X.apart (q ▸ mem_of_lookup e') (mem_of_lookup e))⟩
    cellOf := fun x e => by
      have e' : fd.scope.names.lookup x = some .cell := (hkd x).symm.trans e
      have := cellsFrom_some fd.scope.names (s.heap.objs.size + 1) [] (x := x) (.inl e')
      obtain ⟨a, ha⟩ := Option.isSome_iff_exists.mp this
      have ha' : env.cells.lookup x = some a := by rw [hCe]; exact ha
      exact ⟨a, ha'⟩
    freeOf := fun x e => by
      have e' : fd.scope.names.lookup x = some .free := (hkd x).symm.trans e
      have := List.all_eq_true.mp D.nofree _ (mem_of_lookup e')
      simp at this
    locOf := fun x e => by
      cases q : env.cells.lookup x with
      | none => rfl
      | some a => have := hcellk x a q; rw [this] at e; cases e
    cellIn := fun x a e => .inl (own_mem x a e) }
  obtain ⟨h₁, tk, rfl, _⟩ := X.done
  have ownge : ∀ a ∈ env.locals :: env.cells.map (·.2), s.heap.objs.size ≤ a := fun a ha => by
    rcases List.mem_cons.mp ha with e | ha
    · rw [e, hLo]; exact Nat.le_refl _
    · obtain ⟨p, hp, rfl⟩ := List.mem_map.mp ha
      have := X.above p.1 p.2 hp
      rw [hLo] at this; exact Nat.le_of_lt this
  have ownn : ∀ a ∈ env.locals :: env.cells.map (·.2), s.heap.get? a = none := fun a ha => by
    cases q : s.heap.get? a with
    | none => rfl
    | some o => exact absurd (Heap.lt_size q) (Nat.not_lt.mpr (ownge a ha))
  have hA : Act w.params c g (ofBinds binds) M₀ h₁ := {
    keep := fun a o e => keep a o (keep₀ a o e)
    know := sb.ext keep
    old := old
    ns := ⟨_, X.toInCall.ns, fun x hx => bindL_is _ _ _ _ (fun _ _ => rfl) x hx⟩
    cell := fun x a e => by
      have := X.cell x a e
      rw [bindC_is _ _ _ _ (fun _ _ => rfl) x (by rw [hcellk x a e]; decide)] at this
      exact this
    mem := fun p hp => let ⟨o, ho, hr⟩ := mem p hp; ⟨o, keep _ _ ho, hr⟩
    fresh := fun a ha => by
      rcases List.mem_append.mp ha with ha | ha
      · have hn := ownn a ha
        refine ⟨?_, ?_⟩
        · cases q : h₀.get? a with
          | none => rfl
          | some o => have := keep₀ a o q; rw [hn] at this; cases this
        · cases q : g a with
          | none => rfl
          | some m => obtain ⟨o, ho, _⟩ := sb a m q; rw [hn] at ho; cases ho
      · exact fresh a ha
    nodup := by
      refine List.nodup_append.mpr ⟨?_, nodup, fun a ha b hb q => ?_⟩
      · refine List.nodup_cons.mpr ⟨fun ha => ?_, ?_⟩
        · obtain ⟨p, hp, e⟩ := List.mem_map.mp ha
          have := X.above p.1 p.2 hp
          rw [e] at this; exact Nat.lt_irrefl _ this
        · exact List.pairwise_map.mpr X.apart
      · obtain ⟨p, hp, rfl⟩ := List.mem_map.mp hb
        obtain ⟨o, ho, _⟩ := mem p hp
        have := ownn a ha
        rw [q, ho] at this; cases this
    live := fun a ha => by
      rcases List.mem_cons.mp ha with e | ha
      · obtain ⟨o, _, _, ho, _⟩ := X.toInCall.ns
        exact ⟨o, e ▸ ho⟩
      · obtain ⟨p, hp, rfl⟩ := List.mem_map.mp ha
        have hnd : (env.cells.map (·.1)).Nodup := by rw [hCe]; exact ndCells D.names _
        obtain ⟨o, ho, _⟩ := X.cell p.1 p.2 (lookup_of_mem_nodup hnd hp)
        exact ⟨o, ho⟩ }
  refine ⟨(wd.nolimit.keeps keep₀).keeps keep, codeAny_func (wpAny_mono (h c O own_mem (congrArg Scope.names hS) rfl rfl _ hA) (fun fl s' ⟨g', _, M', a, b, l, q⟩ => ?_) fun _ _ e => e.elim)⟩
  have a1 : Act w.params c g' _ M' s'.heap := a
  have out : Out w.params h₀ ge g g' M' s s' := ⟨a1.keep, b, l, a1.know, a1.old, a1.mem, fun x hx => a1.fresh x (List.mem_append_right _ hx), (List.nodup_append.mp a1.nodup).2.1⟩
  cases fl <;> exact ⟨_, g', M', rfl, out, q⟩

theorem Fn.def {f : Addr} {fd : FuncData} {body : List Stmt} {oc : Value} {od : Option Addr} {osl : Array (Option Value)} {args : List Value} {kw : List (Str × Value)} {binds : List (Str × Value)} {Q : Value → G → Prop}
    (hK : K.lookup f = some ⟨oc, od, .func fd, osl⟩) (D : DefOk K fd) (hb : fd.body = .stmts body) (hbind : ∀ s, K.In s.heap → BindsTo s fd ⟨args, kw⟩ binds)
    (hkind : (binds.all fun y => fd.scope.names.lookup y.1 == some .local || fd.scope.names.lookup y.1 == some .cell) = true)
    (h : ∀ c : Cx, c.Ok K n → c.Own → c.env.scope.names = fd.scope.names → T prog w c (execs body c.env) (fun fl g' _ _ => Q (retOf fl) g') g (ofBinds binds) []) :
    Pu prog w K (n + 1) (call (.ref f) args kw) Q g := fun A s r wd sb => by
  refine wpAny_call (codeAny_mono (enter (R := fun v g' _ => Q v g') (ge := g) (h₀ := s.heap) (M₀ := []) r wd (Ext.refl _) sb (fun a m e => .inl e) (fun _ hp => nomatch hp) (fun _ hp => nomatch hp) List.nodup_nil hK D hb (hbind s wd.X) hkind fun c O W e _ _ => h c O W e) fun r s' hr => ?_)
  obtain ⟨v, g', M', rfl, o, q⟩ := hr
  exact ⟨o.ext, o.rest, g', o.le, o.know, o.old, q⟩
end
end Mine

namespace Mine

section
variable {prog : Program} {w : World} {α β : Type} {c : Cx} {g : G} {ρ : Str → Option Value} {M : Mem} {K : Frag} {n : Nat} {pos apos : Pos}

theorem put_self {ρ : Str → Option Value} {x : Str} {v : Value} : put ρ x v x = some v := if_pos rfl
theorem put_ne {ρ : Str → Option Value} {x y : Str} {v u : Value} (h : (y == x) = false) (e : ρ y = some u) : put ρ x v y = some u := by
  unfold put; rw [if_neg (by intro q; subst q; simp at h)]; exact e
def IfK (b : Bool) (X Y : Prop) : Prop := (b = true → X) ∧ (b = false → Y)
theorem IfK.t {X Y : Prop} (h : X) : IfK true X Y := ⟨fun _ => h, fun e => Bool.noConfusion e⟩
theorem IfK.f {X Y : Prop} (h : Y) : IfK false X Y := ⟨fun e => Bool.noConfusion e, fun _ => h⟩
theorem IfK.split {b : Bool} {X Y : Prop} (h : b = true → X) (k : b = false → Y) : IfK b X Y := ⟨h, k⟩
def ExecK (prog : Program) (w : World) (c : Cx) (rest : List Stmt) (Q : Flow → G → (Str → Option Value) → Mem → Prop) (f : Flow) (g : G) (ρ : Str → Option Value) (M : Mem) : Prop := match f with
  | .next => T prog w c (execs rest c.env) Q g ρ M
  | f => Q f g ρ M
abbrev Post (α : Type) := α → G → (Str → Option Value) → Mem → Prop

def isVar : NameKind → Bool | .local => true | .cell => true | .free => true | _ => false
def plainName (x : Str) : Bool := !(x == ("__debug__" : Str)) && !(x == ("__classdict__" : Str)) && !(x == ("__name__" : Str))
theorem T.var {l : List (Str × NameKind)} {x : Str} {v : Value} {Q : Post Value} (O : c.Ok K n) (hl : c.env.scope.names = l) (hk : (l.lookup x).any isVar = true) (hx : plainName x = true) (hv : ρ x = some v) (h : Q v g ρ M) : T prog w c (eval (.Name x pos) c.env) Q g ρ M := by
  unfold plainName at hx
  simp only [Bool.and_eq_true, Bool.not_eq_true'] at hx
  have hk' : (c.env.kindOf x).any isVar = true := by rw [Env.kindOf, hl]; exact hk
  cases q : c.env.kindOf x with
  | none => rw [q] at hk'; cases hk'
  | some k =>
    cases k with
    | «local» => exact T.local O q hv h hx.1.1
    | cell => exact T.cell O q hv h hx.1.1
    | free => exact T.free O q hv h hx.1.1 hx.1.2
    | _ => rw [q] at hk'; cases hk'
theorem T.glob {l : List (Str × NameKind)} {x : Str} {v : Value} {Q : Post Value} (O : c.Ok K n) (hl : c.env.scope.names = l) (e : nsIn K mainGlobals x = some (some v)) (hk : (l.lookup x == some .globalImplicit) = true) (hx : plainName x = true) (h : Q v g ρ M) : T prog w c (eval (.Name x pos) c.env) Q g ρ M := by
  unfold plainName at hx
  simp only [Bool.and_eq_true, Bool.not_eq_true'] at hx
  exact T.global O (kind_of hl (by simpa using hk)) e h hx.1.1
theorem T.bltn {l : List (Str × NameKind)} {x : Str} {v : Value} {Q : Post Value} (O : c.Ok K n) (hl : c.env.scope.names = l) (e : nsIn K mainGlobals x = some none) (hv : bootBuiltins x = some v) (hk : (l.lookup x == some .globalImplicit) = true) (hx : plainName x = true) (h : Q v g ρ M) : T prog w c (eval (.Name x pos) c.env) Q g ρ M := by
  unfold plainName at hx
  simp only [Bool.and_eq_true, Bool.not_eq_true'] at hx
  exact T.builtin O (kind_of hl (by simpa using hk)) e hv (by intro q; rw [q] at hx; simp at hx) h hx.1.1
theorem T.stVar {l : List (Str × NameKind)} {x : Str} {v : Value} {Q : Post Unit} (O : c.Ok K n) (W : c.Own) (hl : c.env.scope.names = l) (hk : (l.lookup x == some .local || l.lookup x == some .cell) = true) (h : Q () g (put ρ x v) M) : T prog w c (storeName c.env x v) Q g ρ M := by
  rcases Bool.or_eq_true_iff.mp hk with q | q
  · exact T.stLocal O (kind_of hl (by simpa using q)) h
  · exact T.stCell O W (kind_of hl (by simpa using q)) h
theorem T.execs_nil {Q : Post Flow} (h : Q .next g ρ M) : T prog w c (execs [] c.env) Q g ρ M := T.pure h
theorem T.execs_cons {st : Stmt} {rest : List Stmt} {Q : Post Flow} (h : T prog w c (exec st c.env) (ExecK prog w c rest Q) g ρ M) :
    T prog w c (execs (st :: rest) c.env) Q g ρ M := by
  rw [PySem.execs_cons]
  refine T.bind (T.mono h fun f g ρ M q => ?_)
  cases f <;> first | exact q | exact T.pure q

theorem ExecK.next {rest : List Stmt} {Q : Post Flow} (h : T prog w c (execs rest c.env) Q g ρ M) : ExecK prog w c rest Q .next g ρ M := h
theorem ExecK.ret {rest : List Stmt} {v : Value} {Q : Post Flow} (h : Q (.ret v) g ρ M) : ExecK prog w c rest Q (.ret v) g ρ M := h
theorem ExecK.cont {rest : List Stmt} {Q : Post Flow} (h : Q .cont g ρ M) : ExecK prog w c rest Q .cont g ρ M := h
theorem T.return_ {e : Expr} {Q : Post Flow} (h : T prog w c (eval e c.env) (fun v g ρ M => Q (.ret v) g ρ M) g ρ M) : T prog w c (exec (.Return (some e) pos) c.env) Q g ρ M := by
  rw [exec_Return_some]
  exact T.bind (T.standAt (T.bind (T.mono h fun v g ρ M q => T.pure q)))
theorem T.if_ {test : Expr} {body orelse : List Stmt} {Q : Post Flow} (h : T prog w c (isTrue test c.env (eval test c.env)) (fun b g ρ M => IfK b (T prog w c (execs body c.env) Q g ρ M) (T prog w c (execs orelse c.env) Q g ρ M)) g ρ M) :
    T prog w c (exec (.If test body orelse pos) c.env) Q g ρ M := by
  rw [exec_If]
  refine T.bind (T.standAt (T.bind (T.mono h fun b g ρ M q => ?_)))
  cases b <;> first | exact q.1 rfl | exact q.2 rfl
theorem T.continue_ {Q : Post Flow} (h : Q .cont g ρ M) : T prog w c (exec (.Continue pos) c.env) Q g ρ M := T.bind (T.standAt (T.pure h))
theorem T.assert_ {test : Expr} {msg : Option Expr} {Q : Post Flow} (h : T prog w c (isTrue test c.env (eval test c.env)) (fun b g ρ M => b = true ∧ Q .next g ρ M) g ρ M) :
    T prog w c (exec (.Assert test msg pos) c.env) Q g ρ M := by
  show T prog w c (do PySem.standAt pos; if ← isTrue test c.env (eval test c.env) then Pure.pure Flow.next else assertFails test.pos (evalOpt msg c.env)) Q g ρ M
  refine T.bind (T.standAt (T.bind (T.mono h fun b g ρ M q => ?_)))
  rw [q.1]; exact T.pure q.2
/-- an expression statement: its value must be no object -/
theorem T.expr_ {e : Expr} {Q : Post Flow} (hk : c.env.scope.kind = .function) (hs : ∀ env, swapsWith e none pos.line env = Pure.pure false) (h : T prog w c (eval e c.env) (fun v g ρ M => v = .none ∧ Q .next g ρ M) g ρ M) :
    T prog w c (exec (.Expr e pos) c.env) Q g ρ M := by
  have hi : interactive c.env = false := by unfold interactive; rw [hk]; rfl
  rw [exec_Expr _ e pos hi (hs _)]
  refine T.bind (T.standAt (T.bind (T.mono h fun v g ρ M q => ?_)))
  rw [q.1, dropValue_plain (by intro a e; cases e)]
  exact T.pure q.2

theorem T.const_int {i : Int} {k : Nat} {Q : Post Value} (h : ∀ t, Q (.int i t) g ρ M) : T prog w c (eval (.Constant (.int i) k pos) c.env) Q g ρ M := fun s hA =>
  wpAny_Constant_int ⟨g, ρ, M, hA, .refl s, .refl g, h _⟩
theorem T.const_str {x : Str} {k : Nat} {Q : Post Value} (h : ∀ t, Q (.str x t) g ρ M) : T prog w c (eval (.Constant (.str x) k pos) c.env) Q g ρ M := fun s hA =>
  wpAny_Constant_str ⟨g, ρ, M, hA, .refl s, .refl g, h _⟩
theorem T.const_bool {b : Bool} {k : Nat} {Q : Post Value} (h : Q (.bool b) g ρ M) : T prog w c (eval (.Constant (.bool b) k pos) c.env) Q g ρ M := T.pure h
theorem T.const_none {k : Nat} {Q : Post Value} (h : Q .none g ρ M) : T prog w c (eval (.Constant .none k pos) c.env) Q g ρ M := T.pure h

-- truth of a tree
theorem T.isTrue_not {x : Expr} {whole : Sem Value} {Q : Post Bool} (h : T prog w c (isTrue x c.env (eval x c.env)) (fun b g ρ M => Q (!b) g ρ M) g ρ M) : T prog w c (isTrue (.UnaryOp .Not x pos) c.env whole) Q g ρ M := by
  show T prog w c (do return !(← isTrue x c.env (eval x c.env))) Q g ρ M
  exact T.bind (T.mono h fun b g ρ M q => T.pure q)
theorem T.isTrue_boolop {op : BoolOp} {es : List Expr} {whole : Sem Value} {Q : Post Bool} (h : T prog w c (allTrue op es c.env) Q g ρ M) : T prog w c (isTrue (.BoolOp op es pos) c.env whole) Q g ρ M := h
theorem T.allTrue_nil_and {Q : Post Bool} (h : Q true g ρ M) : T prog w c (allTrue .And [] c.env) Q g ρ M := T.pure h
theorem T.allTrue_nil_or {Q : Post Bool} (h : Q false g ρ M) : T prog w c (allTrue .Or [] c.env) Q g ρ M := T.pure h
theorem T.allTrue_and {x : Expr} {rest : List Expr} {Q : Post Bool} (h : T prog w c (isTrue x c.env (eval x c.env)) (fun b g ρ M => IfK b (T prog w c (allTrue .And rest c.env) Q g ρ M) (Q false g ρ M)) g ρ M) :
    T prog w c (allTrue .And (x :: rest) c.env) Q g ρ M := by
  show T prog w c (do match BoolOp.And, ← isTrue x c.env (eval x c.env) with | .And, false => Pure.pure false | .Or, true => Pure.pure true | _, _ => allTrue .And rest c.env) Q g ρ M
  refine T.bind (T.mono h fun b g ρ M q => ?_)
  cases b <;> first | exact q.1 rfl | exact q.2 rfl | exact T.pure (q.1 rfl) | exact T.pure (q.2 rfl)
theorem T.allTrue_or {x : Expr} {rest : List Expr} {Q : Post Bool} (h : T prog w c (isTrue x c.env (eval x c.env)) (fun b g ρ M => IfK b (Q true g ρ M) (T prog w c (allTrue .Or rest c.env) Q g ρ M)) g ρ M) :
    T prog w c (allTrue .Or (x :: rest) c.env) Q g ρ M := by
  show T prog w c (do match BoolOp.Or, ← isTrue x c.env (eval x c.env) with | .And, false => Pure.pure false | .Or, true => Pure.pure true | _, _ => allTrue .Or rest c.env) Q g ρ M
  refine T.bind (T.mono h fun b g ρ M q => ?_)
  cases b <;> first | exact q.1 rfl | exact q.2 rfl | exact T.pure (q.1 rfl) | exact T.pure (q.2 rfl)
theorem T.isTrue_compare {l r : Expr} {op : CmpOp} {whole : Sem Value} {Q : Post Bool} (hb : behindInMarks op r = false)
    (h : T prog w c (eval l c.env) (fun a g ρ M => T prog w c (eval r c.env) (fun b g ρ M => T prog w c (compareOp op a b) (fun v g ρ M => T prog w c (truthy v) Q g ρ M) g ρ M) g ρ M) g ρ M) :
    T prog w c (isTrue (.Compare l [op] [r] pos) c.env whole) Q g ρ M := by
  show T prog w c (do testChain pos (← eval l c.env) [op] (markedEach [op] [r] (evalEach [r] c.env))) Q g ρ M
  refine T.bind (T.mono h fun a g ρ M q => ?_)
  show T prog w c (do let rv ← PySem.holding [a] (markedBehindIn op r (eval r c.env)); PySem.standAt pos; let x ← PySem.operate [a, rv] (compareOp op a rv); PySem.holding [x] (truthy x)) Q g ρ M
  rw [markedBehindIn_of_false hb]
  exact T.bind (T.holding (T.mono q fun b g ρ M q => T.bind (T.standAt (T.bind (T.operate (T.mono q fun v g ρ M q => T.holding q))))))
theorem T.isTrue_val {e : Expr} {whole : Sem Value} {Q : Post Bool} (he : isTrue e c.env whole = (do let v ← whole; PySem.standAt e.pos; PySem.holding [v] (truthy v)))
    (h : T prog w c whole (fun v g ρ M => T prog w c (truthy v) Q g ρ M) g ρ M) : T prog w c (isTrue e c.env whole) Q g ρ M := by
  rw [he]
  exact T.bind (T.mono h fun v g ρ M q => T.bind (T.standAt (T.holding q)))

theorem T.truthy_bool {b : Bool} {Q : Post Bool} (h : Q b g ρ M) : T prog w c (truthy (.bool b)) Q g ρ M := fun s hA => wpAny_truthy_bool ⟨g, ρ, M, hA, .refl s, .refl g, h⟩
theorem T.truthy_none {Q : Post Bool} (h : Q false g ρ M) : T prog w c (truthy .none) Q g ρ M := T.pure h

-- values
theorem T.compare {l r : Expr} {op : CmpOp} {Q : Post Value} (hb : behindInMarks op r = false)
    (h : T prog w c (eval l c.env) (fun a g ρ M => T prog w c (eval r c.env) (fun b g ρ M => T prog w c (compareOp op a b) Q g ρ M) g ρ M) g ρ M) : T prog w c (eval (.Compare l [op] [r] pos) c.env) Q g ρ M := by
  show T prog w c (do compareChain pos (← eval l c.env) [op] (markedEach [op] [r] (evalEach [r] c.env))) Q g ρ M
  refine T.bind (T.mono h fun a g ρ M q => ?_)
  show T prog w c (do let rv ← PySem.holding [a] (markedBehindIn op r (eval r c.env)); PySem.standAt pos; PySem.operate [a, rv] (compareOp op a rv)) Q g ρ M
  rw [markedBehindIn_of_false hb]
  exact T.bind (T.holding (T.mono q fun b g ρ M q => T.bind (T.standAt (T.operate q))))
theorem T.binop {l r : Expr} {op : Operator} {Q : Post Value}
    (h : T prog w c (eval l c.env) (fun a g ρ M => T prog w c (eval r c.env) (fun b g ρ M => T prog w c (binaryOp op a b) Q g ρ M) g ρ M) g ρ M) : T prog w c (eval (.BinOp l op r pos) c.env) Q g ρ M := by
  rw [eval_BinOp]
  exact T.bind (T.mono h fun a g ρ M q => T.bind (T.holding (T.mono q fun b g ρ M q => T.bind (T.standAt (T.operate q)))))
theorem T.unop {x : Expr} {op : UnaryOp} {Q : Post Value} (h : T prog w c (eval x c.env) (fun v g ρ M => T prog w c (unaryOp op v) Q g ρ M) g ρ M) : T prog w c (eval (.UnaryOp op x pos) c.env) Q g ρ M := by
  show T prog w c (do let v ← eval x c.env; PySem.standAt pos; PySem.holding [v] (unaryOp op v)) Q g ρ M
  exact T.bind (T.mono h fun v g ρ M q => T.bind (T.standAt (T.holding q)))
theorem T.notOp {v : Value} {Q : Post Value} (h : T prog w c (truthy v) (fun b g ρ M => Q (.bool (!b)) g ρ M) g ρ M) : T prog w c (unaryOp .Not v) Q g ρ M := fun s hA =>
  not_value (wpAny_mono (h s hA) (fun _ _ q => q) fun _ _ e => e)
theorem T.ifExp {test body orelse : Expr} {Q : Post Value} (h : T prog w c (isTrue test c.env (eval test c.env)) (fun b g ρ M => IfK b (T prog w c (eval body c.env) Q g ρ M) (T prog w c (eval orelse c.env) Q g ρ M)) g ρ M) :
    T prog w c (eval (.IfExp test body orelse pos) c.env) Q g ρ M := by
  show T prog w c (do if ← isTrue test c.env (eval test c.env) then eval body c.env else eval orelse c.env) Q g ρ M
  refine T.bind (T.mono h fun b g ρ M q => ?_)
  cases b <;> first | exact q.1 rfl | exact q.2 rfl
theorem T.boolOp {op : BoolOp} {es : List Expr} {Q : Post Value} (h : T prog w c (PySem.boolOp pos op (evalEach es c.env)) Q g ρ M) : T prog w c (eval (.BoolOp op es pos) c.env) Q g ρ M := h
theorem T.boolOp_one {op : BoolOp} {e : Expr} {Q : Post Value} (h : T prog w c (eval e c.env) Q g ρ M) : T prog w c (PySem.boolOp pos op (evalEach [e] c.env)) Q g ρ M := h
theorem T.boolOp_and {e f : Expr} {es : List Expr} {Q : Post Value}
    (h : T prog w c (eval e c.env) (fun v g ρ M => T prog w c (truthy v) (fun b g ρ M => IfK b (T prog w c (PySem.boolOp pos .And (evalEach (f :: es) c.env)) Q g ρ M) (Q v g ρ M)) g ρ M) g ρ M) :
    T prog w c (PySem.boolOp pos .And (evalEach (e :: f :: es) c.env)) Q g ρ M := by
  show T prog w c (do let v ← eval e c.env; PySem.standAt pos; let t ← PySem.holding [v] (truthy v); match BoolOp.And, t with | .And, false | .Or, true => Pure.pure v | _, _ => PySem.boolOp pos .And (evalEach (f :: es) c.env)) Q g ρ M
  refine T.bind (T.mono h fun v g ρ M q => T.bind (T.standAt (T.bind (T.holding (T.mono q fun b g ρ M q => ?_)))))
  cases b <;> first | exact q.1 rfl | exact q.2 rfl | exact T.pure (q.1 rfl) | exact T.pure (q.2 rfl)
theorem T.boolOp_or {e f : Expr} {es : List Expr} {Q : Post Value}
    (h : T prog w c (eval e c.env) (fun v g ρ M => T prog w c (truthy v) (fun b g ρ M => IfK b (Q v g ρ M) (T prog w c (PySem.boolOp pos .Or (evalEach (f :: es) c.env)) Q g ρ M)) g ρ M) g ρ M) :
    T prog w c (PySem.boolOp pos .Or (evalEach (e :: f :: es) c.env)) Q g ρ M := by
  show T prog w c (do let v ← eval e c.env; PySem.standAt pos; let t ← PySem.holding [v] (truthy v); match BoolOp.Or, t with | .And, false | .Or, true => Pure.pure v | _, _ => PySem.boolOp pos .Or (evalEach (f :: es) c.env)) Q g ρ M
  refine T.bind (T.mono h fun v g ρ M q => T.bind (T.standAt (T.bind (T.holding (T.mono q fun b g ρ M q => ?_)))))
  cases b <;> first | exact q.1 rfl | exact q.2 rfl | exact T.pure (q.1 rfl) | exact T.pure (q.2 rfl)

-- arguments
theorem T.items_nil {Q : Post (List Value)} (h : Q [] g ρ M) : T prog w c (spliced (backTo pos (starEach [] c.env))) Q g ρ M := T.pure h
theorem T.items_cons {e : Expr} {rest : List Expr} {Q : Post (List Value)} (he : starEach (e :: rest) c.env = (false, eval e c.env) :: starEach rest c.env)
    (h : T prog w c (eval e c.env) (fun v g ρ M => T prog w c (spliced (backTo pos (starEach rest c.env))) (fun vs g ρ M => Q (v :: vs) g ρ M) g ρ M) g ρ M) : T prog w c (spliced (backTo pos (starEach (e :: rest) c.env))) Q g ρ M := by
  rw [he]
  show T prog w c (do
    let v ← eval e c.env
    let here ← (Pure.pure [v] : Sem (List Value))
    return here ++ (← PySem.holding here (spliced (backTo pos (starEach rest c.env))))) Q g ρ M
  exact T.bind (T.mono h fun v g ρ M q => T.bind (T.pure (T.bind (T.holding (T.mono q fun vs g ρ M q => T.pure q)))))
theorem T.list {elts : List Expr} {Q : Post Value} (h : T prog w c (spliced (backTo pos (starEach elts c.env))) (fun vs g ρ M => T prog w c (newList vs) Q g ρ M) g ρ M) : T prog w c (eval (.List elts pos) c.env) Q g ρ M := by
  show T prog w c (do PySem.standAt pos; newList (← spliced (backTo pos (starEach elts c.env)))) Q g ρ M
  exact T.bind (T.standAt (T.bind h))
theorem T.tuple {elts : List Expr} {k : Nat} {Q : Post Value} (h : T prog w c (spliced (backTo pos (starEach elts c.env))) (fun vs g ρ M => T prog w c (newTuple vs) Q g ρ M) g ρ M) : T prog w c (eval (.Tuple elts k pos) c.env) Q g ρ M := by
  show T prog w c (do PySem.standAt pos; newTuple (← spliced (backTo pos (starEach elts c.env)))) Q g ρ M
  exact T.bind (T.standAt (T.bind h))

theorem T.evalArgs_nil {f : Value} {Q : Post Args} (h : Q ⟨[], []⟩ g ρ M) : T prog w c (evalArgs f true [] []) Q g ρ M := by
  unfold evalArgs
  show T prog w c (spliced [] >>= _) Q g ρ M
  refine T.bind (T.pure (T.bind (T.pure (T.holding ?_))))
  exact T.bind (T.pure (T.bind (T.pure (T.pure h))))
theorem T.evalArgs_cons {f : Value} {x : Sem Value} {rest : List (Bool × Sem Value)} {Q : Post Args} (h : T prog w c (spliced ((false, x) :: rest)) (fun vs g ρ M => Q ⟨vs, []⟩ g ρ M) g ρ M) : T prog w c (evalArgs f true ((false, x) :: rest) []) Q g ρ M := by
  unfold evalArgs
  show T prog w c (spliced ((false, x) :: rest) >>= _) Q g ρ M
  refine T.bind (T.mono h fun vs g ρ M q => T.bind (T.pure (T.holding ?_)))
  exact T.bind (T.pure (T.bind (T.pure (T.pure q))))

theorem T.callWith_of {f : Value} {first : List Value} {args : List (Bool × Sem Value)} {kws : List (Option Str × Sem Value)} {Q : Post Value} (hplain : (args.any (·.1) || kws.any (·.1.isNone)) = false)
    (hk : ∀ g ρ M h, Act w.params c g ρ M h → ∃ k, (k = Keeper.frame ∨ k = Keeper.machine ∨ k = Keeper.boundFrame) ∧ Looks (model prog w) h (keeperOf f) k)
    (h : T prog w c (evalArgs f true args kws) (fun a g ρ M => T prog w c (call f (first ++ a.pos) a.kw) Q g ρ M) g ρ M) : T prog w c (callWith pos f first args kws) Q g ρ M := by
  unfold callWith
  refine T.bind (T.holding (T.mono h fun a g ρ M q => T.bind (T.standAt fun s hA => ?_)))
  obtain ⟨k, hk', L⟩ := hk g ρ M _ hA
  simp only [hplain]
  refine wpAny_bind (L.here ?_)
  have tail : ∀ {t : Sem Value}, T prog w c t Q g ρ M → T prog w c (t >>= fun r => PySem.holding [r] PySem.point >>= fun _ => Pure.pure r) Q g ρ M :=
    fun ht => T.bind (T.mono ht fun r g ρ M q => T.bind (T.holding (T.point (T.pure q))))
  have marked (mk : Value) : T prog w c (callMarked mk f (first ++ a.pos) a.kw) Q g ρ M := fun s hA => by unfold callMarked; exact Calls.wpAny_keep (q s hA)
  rcases hk' with rfl | rfl | rfl <;> dsimp only <;> first | exact tail q s hA | (split <;> first | exact tail q s hA | exact tail (marked _) s hA)

theorem T.callWith_K {f : Value} {first : List Value} {args : List (Bool × Sem Value)} {kws : List (Option Str × Sem Value)} {Q : Post Value} (O : c.Ok K n) (hk : keepIn K f = true) (hplain : (args.any (·.1) || kws.any (·.1.isNone)) = false)
    (h : T prog w c (evalArgs f true args kws) (fun a g ρ M => T prog w c (call f (first ++ a.pos) a.kw) Q g ρ M) g ρ M) : T prog w c (callWith pos f first args kws) Q g ρ M :=
  T.callWith_of hplain (fun _ _ _ _ hA => keeps_K hk _ (hA.wd O).X) h
theorem T.callWith_B {id : String} {first : List Value} {args : List (Bool × Sem Value)} {kws : List (Option Str × Sem Value)} {Q : Post Value} (hplain : (args.any (·.1) || kws.any (·.1.isNone)) = false)
    (h : T prog w c (evalArgs (.builtin id) true args kws) (fun a g ρ M => T prog w c (call (.builtin id) (first ++ a.pos) a.kw) Q g ρ M) g ρ M) : T prog w c (callWith pos (.builtin id) first args kws) Q g ρ M :=
  T.callWith_of hplain (fun _ _ _ _ _ => ⟨.machine, .inr (.inl rfl), Looks.of_pure rfl⟩) h
theorem T.callWith_Ty {id : String} {first : List Value} {args : List (Bool × Sem Value)} {kws : List (Option Str × Sem Value)} {Q : Post Value} (hplain : (args.any (·.1) || kws.any (·.1.isNone)) = false)
    (h : T prog w c (evalArgs (.type id) true args kws) (fun a g ρ M => T prog w c (call (.type id) (first ++ a.pos) a.kw) Q g ρ M) g ρ M) : T prog w c (callWith pos (.type id) first args kws) Q g ρ M :=
  T.callWith_of hplain (fun _ _ _ _ _ => ⟨.machine, .inr (.inl rfl), Looks.of_pure rfl⟩) h

theorem T.evalArgs_plain {f : Value} {l : List (Bool × Sem Value)} {Q : Post Args} (hl : l.any (·.1) = false) (h : T prog w c (spliced l) (fun vs g ρ M => Q ⟨vs, []⟩ g ρ M) g ρ M) : T prog w c (evalArgs f true l []) Q g ρ M := by
  cases l with
  | nil =>
    unfold evalArgs
    show T prog w c (spliced [] >>= _) Q g ρ M
    refine T.bind (T.mono h fun vs g ρ M q => T.bind (T.pure (T.holding ?_)))
    exact T.bind (T.pure (T.bind (T.pure (T.pure q))))
  | cons p r =>
    obtain ⟨b, x⟩ := p
    have : b = false := by
      rw [List.any_cons, Bool.or_eq_false_iff] at hl
      exact hl.1
    subst this
    exact T.evalArgs_cons h
section
variable {args : List Expr} {Q : Post Value}
theorem T.cw0K {f : Value} (O : c.Ok K n) (hk : keepIn K f = true) (hp : (backTo pos (starEach args c.env)).any (·.1) = false) (h : T prog w c (spliced (backTo pos (starEach args c.env))) (fun vs g ρ M => T prog w c (call f vs []) Q g ρ M) g ρ M) :
    T prog w c (callWith pos f [] (backTo pos (starEach args c.env)) (backToKw pos (keywordEach [] c.env))) Q g ρ M := T.callWith_K O hk (by rw [hp]; rfl) (T.evalArgs_plain hp h)
theorem T.cw1K {f x : Value} (O : c.Ok K n) (hk : keepIn K f = true) (hp : (backTo pos (starEach args c.env)).any (·.1) = false) (h : T prog w c (spliced (backTo pos (starEach args c.env))) (fun vs g ρ M => T prog w c (call f (x :: vs) []) Q g ρ M) g ρ M) :
    T prog w c (callWith pos f [x] (backTo pos (starEach args c.env)) (backToKw pos (keywordEach [] c.env))) Q g ρ M := T.callWith_K O hk (by rw [hp]; rfl) (T.evalArgs_plain hp h)
theorem T.cw0B {f : String} (hp : (backTo pos (starEach args c.env)).any (·.1) = false) (h : T prog w c (spliced (backTo pos (starEach args c.env))) (fun vs g ρ M => T prog w c (call (.builtin f) vs []) Q g ρ M) g ρ M) :
    T prog w c (callWith pos (.builtin f) [] (backTo pos (starEach args c.env)) (backToKw pos (keywordEach [] c.env))) Q g ρ M := T.callWith_B (by rw [hp]; rfl) (T.evalArgs_plain hp h)
theorem T.cw1B {f : String} {x : Value} (hp : (backTo pos (starEach args c.env)).any (·.1) = false) (h : T prog w c (spliced (backTo pos (starEach args c.env))) (fun vs g ρ M => T prog w c (call (.builtin f) (x :: vs) []) Q g ρ M) g ρ M) :
    T prog w c (callWith pos (.builtin f) [x] (backTo pos (starEach args c.env)) (backToKw pos (keywordEach [] c.env))) Q g ρ M := T.callWith_B (by rw [hp]; rfl) (T.evalArgs_plain hp h)
theorem T.cw0T {f : String} (hp : (backTo pos (starEach args c.env)).any (·.1) = false) (h : T prog w c (spliced (backTo pos (starEach args c.env))) (fun vs g ρ M => T prog w c (call (.type f) vs []) Q g ρ M) g ρ M) :
    T prog w c (callWith pos (.type f) [] (backTo pos (starEach args c.env)) (backToKw pos (keywordEach [] c.env))) Q g ρ M := T.callWith_Ty (by rw [hp]; rfl) (T.evalArgs_plain hp h)
end
theorem T.call_name {id : Str} {p : Pos} {args : List Expr} {kws : List Keyword} {Q : Post Value} (h : T prog w c (eval (.Name id p) c.env) (fun f g ρ M => T prog w c (callWith pos f [] (backTo pos (starEach args c.env)) (backToKw pos (keywordEach kws c.env))) Q g ρ M) g ρ M) :
    T prog w c (eval (.Call (.Name id p) args kws pos) c.env) Q g ρ M := by
  rw [arm_eval_Call_Name']
  exact T.bind h
theorem T.call_attr {o : Expr} {name : Str} {args : List Expr} {kws : List Keyword} {pl : Sem Bool} {Q : Post Value}
    (he : eval (.Call (.Attribute o name apos) args kws pos) c.env = (do
      let ov ← eval o c.env
      PySem.standAt apos.atName
      let (f, first) ← PySem.holding [ov] (getMethod ov name pl)
      callWith pos f first (backTo pos (starEach args c.env)) (backToKw pos (keywordEach kws c.env))))
    (h : T prog w c (eval o c.env) (fun ov g ρ M => T prog w c (getMethod ov name pl) (fun fx g ρ M => T prog w c (callWith pos fx.1 fx.2 (backTo pos (starEach args c.env)) (backToKw pos (keywordEach kws c.env))) Q g ρ M) g ρ M) g ρ M) :
    T prog w c (eval (.Call (.Attribute o name apos) args kws pos) c.env) Q g ρ M := by
  rw [he]
  exact T.bind (T.mono h fun ov g ρ M q => T.bind (T.standAt (T.bind (T.holding (T.mono q fun fx g ρ M q => q)))))
theorem T.attribute {value : Expr} {attr : Str} {Q : Post Value} (he : attributeBase value attr c.env (eval value c.env) = eval value c.env)
    (h : T prog w c (eval value c.env) (fun o g ρ M => T prog w c (getAttr o attr true) Q g ρ M) g ρ M) : T prog w c (eval (.Attribute value attr pos) c.env) Q g ρ M := by
  show T prog w c (do
    let o ← attributeBase value attr c.env (eval value c.env)
    PySem.standAt pos.atName
    let r ← PySem.holding [o] (getAttr o attr true)
    letTemporaryGo value o r
    Pure.pure r) Q g ρ M
  rw [he]
  exact T.bind (T.mono h fun o g ρ M q => T.bind (T.standAt (T.bind (T.holding (T.mono q fun r g ρ M q => T.bind (T.letTemp (T.pure q)))))))
theorem T.subscript {value slice : Expr} {Q : Post Value} (h : T prog w c (eval value c.env) (fun o g ρ M => T prog w c (eval slice c.env) (fun i g ρ M => T prog w c (subscriptTail value slice o i) Q g ρ M) g ρ M) g ρ M) :
    T prog w c (eval (.Subscript value slice pos) c.env) Q g ρ M := by
  show T prog w c (do
    let o ← eval value c.env
    let i ← PySem.holding [o] (eval slice c.env)
    PySem.standAt pos
    let r ← subscripted slice (← getitemInPython o) o i
    letTemporaryGo value o r
    Pure.pure r) Q g ρ M
  refine T.bind (T.mono h fun o g ρ M q => T.bind (T.holding (T.mono q fun i g ρ M q => T.bind (T.standAt ?_))))
  exact q

-- stores
theorem exec_Assign1 (t value : Expr) (pos : Pos) (env : Env) : exec (.Assign [t] value pos) env = (PySem.standAt pos >>= fun _ => swapsWith value (some t) pos.line env >>= fun b =>
    if b = true then evalThenUse value env (fun v => assignAll v ((assignEach [t] env).map (·.2))) >>= fun _ => Pure.pure Flow.next
    else eval value env >>= fun v => swappedStores [t] value env >>= fun sw => assignStores env v sw ((assignEach [t] env).map (·.2))) := rfl
theorem T.assign1 {t e : Expr} {Q : Post Flow} (hs : ∀ env, swapsWith e (some t) pos.line env = Pure.pure false) (hw : ∀ env, swappedStores [t] e env = Pure.pure none) (ht : (assignEach [t] c.env).map (·.2) = [assign t c.env])
    (h : T prog w c (eval e c.env) (fun v g ρ M => T prog w c (assign t c.env v) (fun _ g ρ M => Q .next g ρ M) g ρ M) g ρ M) : T prog w c (exec (.Assign [t] e pos) c.env) Q g ρ M := by
  rw [exec_Assign1, hs, hw, ht]
  refine T.bind (T.standAt (T.bind (T.pure ?_)))
  rw [if_neg Bool.false_ne_true]
  exact T.bind (T.mono h fun v g ρ M q => T.bind (T.pure (T.bind (T.mono q fun _ g ρ M q => T.pure q))))
theorem T.assign_name {x : Str} {p : Pos} {e : Expr} {Q : Post Flow} (hs : ∀ env, swapsWith e (some (.Name x p)) pos.line env = Pure.pure false)
    (hw : ∀ env, swappedStores [.Name x p] e env = Pure.pure none) (h : T prog w c (eval e c.env) (fun v g ρ M => T prog w c (storeName c.env x v) (fun _ g ρ M => Q .next g ρ M) g ρ M) g ρ M) : T prog w c (exec (.Assign [.Name x p] e pos) c.env) Q g ρ M :=
  T.assign1 hs hw rfl (T.mono h fun v g ρ M q => by
    rw [PySem.assign_Name]
    unfold bindName
    exact T.bind (T.standAt (T.bind (T.holding (T.point (T.bind (T.mono q fun _ g ρ M q => T.point q)))))))
theorem assign_Attr (o : Expr) (attr : Str) (p : Pos) (env : Env) (v : Value) : assign (.Attribute o attr p) env v = (do
    let ov ← PySem.holding [v] (eval o env)
    PySem.standAt p.atName
    PySem.holding [v, ov] (setAttr ov attr v)
    PySem.release [v, ov] []) := rfl
theorem T.assign_attr {o : Expr} {attr : Str} {p : Pos} {e : Expr} {Q : Post Flow} (hs : ∀ env, swapsWith e (some (.Attribute o attr p)) pos.line env = Pure.pure false)
    (hw : ∀ env, swappedStores [.Attribute o attr p] e env = Pure.pure none)
    (h : T prog w c (eval e c.env) (fun v g ρ M => T prog w c (eval o c.env) (fun ov g ρ M => T prog w c (setAttr ov attr v) (fun _ g ρ M => Q .next g ρ M) g ρ M) g ρ M) g ρ M) : T prog w c (exec (.Assign [.Attribute o attr p] e pos) c.env) Q g ρ M :=
  T.assign1 hs hw rfl (T.mono h fun v g ρ M q => by
    rw [assign_Attr]
    exact T.bind (T.holding (T.mono q fun ov g ρ M q => T.bind (T.standAt (T.bind (T.holding (T.mono q fun _ g ρ M q => T.release q)))))))
theorem assign_Sub (o i : Expr) (p : Pos) (env : Env) (v : Value) : assign (.Subscript o i p) env v = (do
    let ov ← PySem.holding [v] (eval o env)
    let iv ← PySem.holding [v, ov] (eval i env)
    PySem.standAt p
    PySem.holding [v, ov, iv] (setItem ov iv v)
    PySem.release (match i with | .Slice _ _ none _ => [iv, v, ov] | _ => [v, ov, iv]) []) := rfl
theorem T.assign_sub {o i : Expr} {p : Pos} {e : Expr} {Q : Post Flow} (hs : ∀ env, swapsWith e (some (.Subscript o i p)) pos.line env = Pure.pure false)
    (hw : ∀ env, swappedStores [.Subscript o i p] e env = Pure.pure none)
    (h : T prog w c (eval e c.env) (fun v g ρ M => T prog w c (eval o c.env) (fun ov g ρ M => T prog w c (eval i c.env) (fun iv g ρ M => T prog w c (setItem ov iv v) (fun _ g ρ M => Q .next g ρ M) g ρ M) g ρ M) g ρ M) g ρ M) :
    T prog w c (exec (.Assign [.Subscript o i p] e pos) c.env) Q g ρ M :=
  T.assign1 hs hw rfl (T.mono h fun v g ρ M q => by
    rw [assign_Sub]
    exact T.bind (T.holding (T.mono q fun ov g ρ M q => T.bind (T.holding (T.mono q fun iv g ρ M q => T.bind (T.standAt (T.bind (T.holding (T.mono q fun _ g ρ M q => T.release q)))))))))
end
end Mine

namespace Mine

def setG (g : G) (a : Addr) (m : MO) : G := fun b => if b = a then some m else g b
theorem Le.setG {g : G} {a : Addr} {m : MO} (h : g a = none) : Le g (setG g a m) := fun b m' e => by
  unfold Mine.setG
  split
  · rename_i q; rw [q, h] at e; cases e
  · exact e
theorem setG_self {g : G} {a : Addr} {m : MO} : setG g a m a = some m := if_pos rfl

def putKv : List (Str × Value) → Str → Value → List (Str × Value)
  | [], k, v => [(k, v)]
  | (k', v') :: r, k, v => if k' = k then (k', v) :: r else (k', v') :: putKv r k v

theorem SdEs.length {P : Params} {es : List DictEntry} {kv : List (Str × Value)} (h : SdEs P es kv) : es.length = kv.length := by
  induction h with
  | nil => rfl
  | cons _ ih => rw [List.length_cons, List.length_cons, ih]
theorem SdEs.noRef {P : Params} {es : List DictEntry} {kv : List (Str × Value)} (h : SdEs P es kv) : es.any (·.refKey) = false := by
  induction h with
  | nil => rfl
  | cons _ ih => rw [List.any_cons, ih]; rfl
theorem SdEs.find {P : Params} {es : List DictEntry} {kv : List (Str × Value)} (h : SdEs P es kv) (x : Str) : (es.find? (·.key.isStr x)).map (·.val) = kv.lookup x := by
  induction h with
  | nil => rfl
  | @cons k t v es kv _ ih =>
    rw [List.find?_cons, List.lookup_cons]
    have hk : (Value.str k t).isStr x = (k == x) := rfl
    rw [hk]
    by_cases q : k = x
    · subst q; simp
    · rw [beq_eq_false_iff_ne.mpr q, beq_eq_false_iff_ne.mpr (Ne.symm q)]; exact ih
theorem SdEs.getL {P : Params} {es : List DictEntry} {kv : List (Str × Value)} (h : SdEs P es kv) (x : Str) : getL x es = some (kv.lookup x) := by
  unfold PySem.W.getL
  rw [← h.find x]
  cases es.find? (·.key.isStr x) with
  | none => rw [h.noRef]; rfl
  | some e => rfl
theorem SdEs.put {P : Params} {es : List DictEntry} {kv : List (Str × Value)} (h : SdEs P es kv) (x : Str) (t : Tok) (v : Value) : SdEs P (putL x (PyData.keyHash P x) (.str x t) v es) (putKv kv x v) := by
  induction h with
  | nil => exact .cons .nil
  | @cons k t' v' es kv h' ih =>
    unfold putL putKv
    show SdEs P (if (k == x) = true then _ else _) _
    by_cases q : k = x
    · subst q; simp only [beq_self_eq_true, if_true]; exact .cons h'
    · rw [if_neg (by simpa using q), if_neg q]; exact .cons ih

theorem putKv_length : ∀ (kv : List (Str × Value)) (k : Str) (v : Value), (putKv kv k v).length ≤ kv.length + 1
  | [], _, _ => Nat.le_refl _
  | (k', v') :: r, k, v => by
    unfold putKv
    split
    · exact Nat.le_succ _
    · exact Nat.succ_le_succ (putKv_length r k v)
def Inst (g : G) (x C : Addr) (kv : List (Str × Value)) : Prop := ∃ d, g x = some (.inst C d) ∧ g d = some (.sd kv)
theorem Inst.mono {g g' : G} {x C : Addr} {kv : List (Str × Value)} (h : Inst g x C kv) (l : Le g g') : Inst g' x C kv := let ⟨d, a, b⟩ := h; ⟨d, l _ _ a, l _ _ b⟩
def Lst (g : G) (a : Addr) (vs : List Value) : Prop := g a = some (.list vs)
def Tup (g : G) (a : Addr) (vs : List Value) : Prop := g a = some (.tup vs)
theorem Lst.mono {g g' : G} {x : Addr} {vs : List Value} (h : Lst g x vs) (l : Le g g') : Lst g' x vs := l _ _ h
theorem Tup.mono {g g' : G} {x : Addr} {vs : List Value} (h : Tup g x vs) (l : Le g g') : Tup g' x vs := l _ _ h

theorem Inst.at {P : Params} {g : G} {x C : Addr} {kv : List (Str × Value)} {h : Heap} (I : Inst g x C kv) (sb : Sub P g h) : ∃ d es n, SdEs P es kv ∧ h.get? d = some (dictOf es n) ∧ InstAt h x (instObj C d) C (some (dictOf es n)) := by
  obtain ⟨d, a, b⟩ := I
  obtain ⟨_, hx, rfl⟩ := sb _ _ a
  obtain ⟨_, hd, es, n, rfl, he⟩ := sb _ _ b
  exact ⟨d, es, n, he, hd, hx, rfl, rfl, hd⟩

/-- an attribute of this name is read from the instance's own dict -/
def attrOk (K : Frag) (C : Addr) (name : Str) : Bool := match clsIn K C, findIn K (.ref C) name with
  | some cd, some attr => cd.hasDict && (match attr with
      | none => true
      | some a => match specialIn K a "__get__" with
        | some none => true
        | some (some _) => takesIn K a == some false
        | none => false) && findIn K (.ref C) "__getattribute__" == some (some (.builtin "object.__getattribute__"))
  | _, _ => false
theorem findObj_own {K : Frag} {C : Addr} {name : Str} {od : Obj} {v : Value} (h : attrOk K C name = true) (hv : lookIn name od = some (some v)) :
    findObj K C (some od) name = some (.value v) ∧ findIn K (.ref C) "__getattribute__" = some (some (.builtin "object.__getattribute__")) := by
  unfold attrOk at h
  split at h
  · rename_i cd attr hc ha
    simp only [Bool.and_eq_true, beq_iff_eq] at h
    obtain ⟨⟨h1, h2⟩, h3⟩ := h
    refine ⟨?_, h3⟩
    unfold findObj
    rw [hc, Option.bind_some, ha, Option.bind_some]
    have own : PySem.W.ownOf cd (some od) name = some (some v) := by unfold PySem.W.ownOf; rw [h1]; exact hv
    cases attr with
    | none => simp [own]
    | some a =>
      dsimp only at h2 ⊢
      split at h2
      · rename_i q; rw [q]; simp [own]
      · rename_i q
        have q2 : takesIn K a = some false := by simpa using h2
        rw [q]; simp [q2, own]
      · cases h2
  · cases h
def methOk (K : Frag) (C : Addr) (name : Str) (f : Addr) : Bool :=
  findIn K (.ref C) "__getattribute__" == some (some (.builtin "object.__getattribute__")) && findIn K (.ref C) "__getattr__" == some none && findIn K (.ref C) name == some (some (.ref f)) && typeIn K (.ref f) == some (.type "function")

section
variable {prog : Program} {w : World} {α β : Type} {c : Cx} {g : G} {ρ : Str → Option Value} {M : Mem} {K : Frag} {n : Nat} {pos apos : Pos}

theorem T.attr {x C : Addr} {kv : List (Str × Value)} {name : Str} {v : Value} {ex : Bool} {Q : Post Value} (O : c.Ok K n) (I : Inst g x C kv) (hp : attrOk K C name = true) (hv : kv.lookup name = some v) (hh : handedIn v = true) (h : Q v g ρ M) :
    T prog w c (getAttr (.ref x) name ex) Q g ρ M := T.tok fun s hA R k => by
  obtain ⟨d, es, n, he, _, IA⟩ := I.at hA.know
  obtain ⟨f1, f2⟩ := findObj_own (od := dictOf es n) hp (by rw [lookIn_dict, he.getL, hv])
  exact get_value (hA.wd O).X IA f2 f1 hh (k _ _ h)
theorem T.method {x C f : Addr} {kv : List (Str × Value)} {name : Str} {pl : Sem Bool} {Q : Post (Value × List Value)} (O : c.Ok K n) (I : Inst g x C kv) (hm : methOk K C name f = true) (hv : kv.lookup name = none) (h : Q (.ref f, [.ref x]) g ρ M) :
    T prog w c (getMethod (.ref x) name pl) Q g ρ M := T.tok fun s hA R k => by
  obtain ⟨d, es, n, he, _, IA⟩ := I.at hA.know
  unfold methOk at hm
  simp only [Bool.and_eq_true, beq_iff_eq] at hm
  obtain ⟨⟨⟨h1, h2⟩, h3⟩, h4⟩ := hm
  exact method_fn (hA.wd O).X IA h1 h2 h3 h4 (by show (lookIn name (dictOf es n)).map _ = _; rw [lookIn_dict, he.getL, hv]; rfl) (k (.ref f, [.ref x]) s.toks h)

theorem bridge {h : Heap} {L : Addr} (X : List Addr) : ∃ I : List (Addr × Obj), (∀ a o, h.get? a = some o → a ≠ L → a ∉ X → (a, o) ∈ I) ∧ ∀ p ∈ I, h.get? p.1 = some p.2 ∧ p.1 ≠ L ∧ p.1 ∉ X := by
  refine ⟨(List.range h.objs.size).filterMap fun a => if a = L ∨ a ∈ X then none else (h.get? a).map (a, ·), fun a o e h1 h2 => ?_, fun p hp => ?_⟩
  · refine List.mem_filterMap.mpr ⟨a, List.mem_range.mpr (Heap.lt_size e), ?_⟩
    rw [if_neg (fun q => q.elim h1 h2), e]; rfl
  · obtain ⟨a, _, e⟩ := List.mem_filterMap.mp hp
    split at e
    · cases e
    · rename_i q
      obtain ⟨o, ho, rfl⟩ := Option.map_eq_some_iff.mp e
      exact ⟨ho, fun z => q (.inl z), fun z => q (.inr z)⟩
theorem get_empty (b : Addr) : ({} : Heap).get? b = none := by simp [Heap.get?]

theorem Act.at {P : Params} {h : Heap} {a : Addr} {m : MO} (A : Act P c g ρ M h) (hm : (a, m) ∈ M) : ∃ o, h.get? a = some o ∧ m.rep P o := A.mem _ hm

/-- one mutable object is turned -/
theorem Act.turn {P : Params} {h h' : Heap} {pre post : Mem} {d : Addr} {m₀ m₁ : MO} (A : Act P c g ρ (pre ++ (d, m₀) :: post) h) (O : c.Ok K n) (hk : ∀ a o, a ≠ d → a ≠ c.env.locals → h.get? a = some o → h'.get? a = some o)
    (hn : ∃ m, h'.Ns c.env.locals m ∧ ∀ x, c.env.kindOf x = some .local → m x = ρ x) (hr : ∃ o, h'.get? d = some o ∧ m₁.rep P o) : Act P c g ρ (pre ++ (d, m₁) :: post) h' := by
  have hpL : ∀ p ∈ pre ++ (d, m₀) :: post, p.1 ≠ c.env.locals := fun p hp q => (List.nodup_append.mp A.nodup).2.2 _ O.loc p.1 (List.mem_map_of_mem hp) q.symm
  have hmap : (pre ++ (d, m₁) :: post).map (·.1) = (pre ++ (d, m₀) :: post).map (·.1) := by simp
  have hd : d ∈ c.own ++ (pre ++ (d, m₀) :: post).map (·.1) := List.mem_append_right _ (by simp)
  have hf := A.fresh d hd
  have hown : ∀ a ∈ c.own, a ≠ d := fun a ha q => (List.nodup_append.mp A.nodup).2.2 a ha d (by simp) q
  have h0 : ∀ a o, c.h₀.get? a = some o → a ≠ d := fun a o e q => by rw [q, hf.1] at e; cases e
  have hfL := A.fresh c.env.locals (List.mem_append_left _ O.loc)
  have hL : ∀ a o, c.h₀.get? a = some o → a ≠ c.env.locals := fun a o e q => by rw [q, hfL.1] at e; cases e
  refine ⟨fun a o e => hk a o (h0 a o e) (hL a o e) (A.keep a o e), fun a m e => ?_, A.old, hn, fun x a e => ?_, fun p hp => ?_, by rw [hmap]; exact A.fresh, by rw [hmap]; exact A.nodup, fun a ha => ?_⟩
  · obtain ⟨o, ho, hr⟩ := A.know a m e
    exact ⟨o, hk a o (fun q => by rw [q, hf.2] at e; cases e) (fun q => by rw [q, hfL.2] at e; cases e) ho, hr⟩
  · obtain ⟨o, ho, hd'⟩ := A.cell x a e
    refine ⟨o, hk a o ?_ (O.cells x a e).1 ho, hd'⟩
    rcases O.cellIn x a e with q | ⟨o', q⟩
    · exact hown a q
    · exact h0 a o' q
  · have hnd := (List.nodup_append.mp A.nodup).2.1
    rw [List.map_append, List.map_cons] at hnd
    obtain ⟨n1, n2, n3⟩ := List.nodup_append.mp hnd
    rcases List.mem_append.mp hp with hp | hp
    · obtain ⟨o, ho, hr'⟩ := A.mem p (List.mem_append_left _ hp)
      exact ⟨o, hk _ _ (fun q => n3 p.1 (List.mem_map_of_mem hp) d (.head _) q) (hpL p (List.mem_append_left _ hp)) ho, hr'⟩
    · rcases List.mem_cons.mp hp with rfl | hp
      · exact hr
      · obtain ⟨o, ho, hr'⟩ := A.mem p (List.mem_append_right _ (.tail _ hp))
        exact ⟨o, hk _ _ (fun q => (List.nodup_cons.mp n2).1 (by rw [← q]; exact List.mem_map_of_mem (f := (·.1)) hp)) (hpL p (List.mem_append_right _ (.tail _ hp))) ho, hr'⟩
  · by_cases q : a = c.env.locals
    · obtain ⟨_, ⟨o, _, _, ho, _⟩, _⟩ := hn
      exact ⟨o, q ▸ ho⟩
    · obtain ⟨o, ho⟩ := A.live a ha
      exact ⟨o, hk a o (hown a ha) q ho⟩
/-- a new object -/
theorem Act.new {P : Params} {h h' : Heap} {a : Addr} {m : MO} (A : Act P c g ρ M h) (hk : Ext h h') (hn : h.get? a = none) (hr : ∃ o, h'.get? a = some o ∧ m.rep P o) : Act P c g ρ ((a, m) :: M) h' := by
  have hg : g a = none := by
    cases q : g a with
    | none => rfl
    | some m => obtain ⟨o, ho, _⟩ := A.know a m q; rw [hn] at ho; cases ho
  have h0 : c.h₀.get? a = none := by
    cases q : c.h₀.get? a with
    | none => rfl
    | some o => have := A.keep a o q; rw [hn] at this; cases this
  refine ⟨A.keep.trans hk, A.know.ext hk, A.old, let ⟨m, x, y⟩ := A.ns; ⟨m, x.keeps hk, y⟩, fun x b e => (A.cell x b e).keeps hk, fun p hp => ?_, fun b hb => ?_, ?_, fun b hb => let ⟨o, ho⟩ := A.live b hb; ⟨o, hk _ _ ho⟩⟩
  · rcases List.mem_cons.mp hp with rfl | hp
    · exact hr
    · obtain ⟨o, ho, hr⟩ := A.mem p hp; exact ⟨o, hk _ _ ho, hr⟩
  · rcases List.mem_append.mp hb with hb | hb
    · exact A.fresh b (List.mem_append_left _ hb)
    · rcases List.mem_cons.mp hb with rfl | hb
      · exact ⟨h0, hg⟩
      · exact A.fresh b (List.mem_append_right _ hb)
  · have al : ∀ b ∈ c.own ++ M.map (·.1), b ≠ a := fun b hb q => by
      rcases List.mem_append.mp hb with hb | hb
      · obtain ⟨o, ho⟩ := A.live b hb
        rw [q, hn] at ho; cases ho
      · obtain ⟨p, hp, rfl⟩ := List.mem_map.mp hb
        obtain ⟨o, ho, _⟩ := A.mem p hp
        rw [q, hn] at ho; cases ho
    obtain ⟨n1, n2, n3⟩ := List.nodup_append.mp A.nodup
    refine List.nodup_append.mpr ⟨n1, List.nodup_cons.mpr ⟨fun hm => al a (List.mem_append_right _ hm) rfl, n2⟩, fun x hx y hy q => ?_⟩
    rcases List.mem_cons.mp hy with rfl | hy
    · exact al x (List.mem_append_left _ hx) q
    · exact n3 x hx y hy q
/-- a mutable object is laid aside for good -/
theorem Act.freeze {P : Params} {h : Heap} {pre post : Mem} {a : Addr} {m : MO} (A : Act P c g ρ (pre ++ (a, m) :: post) h) : Act P c (setG g a m) ρ (pre ++ post) h := by
  have ha := A.fresh a (List.mem_append_right _ (by simp))
  have hnd := A.nodup
  rw [List.map_append, List.map_cons] at hnd
  refine ⟨A.keep, fun b m' e => ?_, fun b m' e => ?_, A.ns, A.cell, fun p hp => A.mem p ?_, fun b hb => ?_, ?_, A.live⟩
  · unfold setG at e
    split at e
    · rename_i q; subst q; cases e; exact A.mem (b, m) (by simp)
    · exact A.know b m' e
  · unfold setG at e
    split at e
    · rename_i q; subst q; exact .inr ha.1
    · exact A.old b m' e
  · rcases List.mem_append.mp hp with hp | hp
    · exact List.mem_append_left _ hp
    · exact List.mem_append_right _ (.tail _ hp)
  · have hb' : b ∈ c.own ++ (pre ++ (a, m) :: post).map (·.1) := by
      simp only [List.map_append, List.mem_append, List.map_cons, List.mem_cons] at hb ⊢
      rcases hb with hb | hb | hb
      · exact .inl hb
      · exact .inr (.inl hb)
      · exact .inr (.inr (.inr hb))
    refine ⟨(A.fresh b hb').1, ?_⟩
    unfold setG
    rw [if_neg ?_]
    · exact (A.fresh b hb').2
    · intro q
      subst q
      obtain ⟨n1, n2, n3⟩ := List.nodup_append.mp hnd
      obtain ⟨m1, m2, m3⟩ := List.nodup_append.mp n2
      simp only [List.map_append, List.mem_append] at hb
      rcases hb with hb | hb | hb
      · exact n3 b hb b (by simp) rfl
      · exact m3 b hb b (.head _) rfl
      · exact (List.nodup_cons.mp m2).1 hb
  · rw [List.map_append]
    obtain ⟨n1, n2, n3⟩ := List.nodup_append.mp hnd
    obtain ⟨m1, m2, m3⟩ := List.nodup_append.mp n2
    refine List.nodup_append.mpr ⟨n1, List.nodup_append.mpr ⟨m1, (List.nodup_cons.mp m2).2, fun x hx y hy => m3 x hx y (.tail _ hy)⟩, fun x hx y hy => n3 x hx y ?_⟩
    rcases List.mem_append.mp hy with hy | hy
    · exact List.mem_append_left _ hy
    · exact List.mem_append_right _ (.tail _ hy)
theorem T.freeze {pre post : Mem} {a : Addr} {m : MO} {t : Sem α} {Q : Post α} (h : g a = none → T prog w c t Q (setG g a m) ρ (pre ++ post)) : T prog w c t Q g ρ (pre ++ (a, m) :: post) := fun s hA => by
  have ha := (hA.fresh a (List.mem_append_right _ (by simp))).2
  exact wpAny_mono (h ha s hA.freeze) (fun _ _ ⟨g', ρ', M', a', b, l, q⟩ => ⟨g', ρ', M', a', b, (Le.setG ha).trans l, q⟩) fun _ _ e => e
theorem T.freeze0 {post : Mem} {a : Addr} {m : MO} {t : Sem α} {Q : Post α} (h : g a = none → T prog w c t Q (setG g a m) ρ post) : T prog w c t Q g ρ ((a, m) :: post) := T.freeze (pre := []) h

def stOk (K : Frag) (C : Addr) (name : Str) : Bool := plainOver K C && takerIn K C name == some none && (clsIn K C).any (·.hasDict) && findIn K (.ref C) "__setattr__" == some (some (.builtin "object.__setattr__"))

theorem T.setAttr {x C d : Addr} {pre post : Mem} {kv : List (Str × Value)} {name : Str} {v : Value} {Q : Post Unit} (O : c.Ok K n) (hx : g x = some (.inst C d)) (hst : stOk K C name = true) (hz : kv.length < 900)
    (h : Q () g ρ (pre ++ (d, .sd (putKv kv name v)) :: post)) : T prog w c (setAttr (.ref x) name v) Q g ρ (pre ++ (d, .sd kv) :: post) := fun s hA => by
  unfold stOk at hst
  simp only [Bool.and_eq_true, beq_iff_eq] at hst
  obtain ⟨⟨⟨h1, h2⟩, h3⟩, h4⟩ := hst
  obtain ⟨_, ho, rfl⟩ := hA.know _ _ hx
  obtain ⟨_, hd, es, k, rfl, he⟩ := hA.mem (d, .sd kv) (by simp)
  obtain ⟨m, hm, e⟩ := hA.ns
  have X := (hA.wd O).X
  have IA : InstAt s.heap x (instObj C d) C (some (dictOf es k)) := ⟨ho, rfl, rfl, hd⟩
  obtain ⟨I, i1, i2⟩ := bridge (h := s.heap) (L := c.env.locals) [d]
  have hLd : d ≠ c.env.locals := fun q => (List.nodup_append.mp hA.nodup).2.2 _ O.loc d (by simp) q.symm
  have F : Fr {} c.env.locals s.heap m := ⟨hm, (fun b o e => by rw [get_empty] at e; cases e), Nat.zero_le _⟩
  have N : News {} c.env.locals s.heap ([] ++ (d, dictOf es k) :: I) := fun p hp => by
    rcases List.mem_cons.mp hp with rfl | hp
    · exact ⟨hd, hLd, get_empty _⟩
    · exact ⟨(i2 p hp).1, (i2 p hp).2.1, get_empty _⟩
  refine set_plain X IA h4 ?_
  refine osa_dict (s := { s with toks := s.toks + 1 }) (K := K) F N X IA rfl h1 h2 h3 (by rw [lookIn_dict, he.getL]; rfl) (fun _ hp => nomatch hp) (fun p hp q => (i2 p hp).2.2 (by rw [q]; exact .head _)) (putName_dict ..) rfl
    (by have l1 := (he.put name (s.toks + 1) v).length; have l2 : (putKv kv name v).length ≤ kv.length + 1 := putKv_length kv name v; dsimp only; omega) fun h' F' N' => ?_
  refine ⟨g, ρ, _, hA.turn (m₁ := .sd (putKv kv name v)) O (fun a o hne q e => (N' (a, o) (.tail _ (i1 a o e q (by simpa using hne)))).1) ⟨m, F'.ns, e⟩ ?_, ⟨rfl, rfl, rfl⟩, .refl g, h⟩
  exact ⟨_, (N' (d, _) (.head _)).1, _, _, rfl, he.put name _ v⟩
theorem T.setAttr0 {x C d : Addr} {post : Mem} {kv kv' : List (Str × Value)} {name : Str} {v : Value} {Q : Post Unit} (O : c.Ok K n) (hx : g x = some (.inst C d)) (hst : stOk K C name = true) (hz : decide (kv.length < 900) = true) (hp : putKv kv name v = kv')
    (h : Q () g ρ ((d, .sd kv') :: post)) : T prog w c (PySem.setAttr (.ref x) name v) Q g ρ ((d, .sd kv) :: post) := by
  subst hp
  exact T.setAttr (pre := []) O hx hst (by simpa using hz) h
theorem putKv_nil {k : Str} {v : Value} : putKv [] k v = [(k, v)] := rfl
theorem putKv_same {k : Str} {v v' : Value} {r : List (Str × Value)} : putKv ((k, v') :: r) k v = (k, v) :: r := by simp [putKv]
theorem putKv_ne {k k' : Str} {v v' : Value} {r r' : List (Str × Value)} (h : (k' == k) = false) (e : putKv r k v = r') : putKv ((k', v') :: r) k v = (k', v') :: r' := by
  unfold putKv
  rw [if_neg (by intro q; subst q; simp at h), e]
end
end Mine

namespace Mine

section
variable {prog : Program} {w : World} {α β : Type} {c : Cx} {g : G} {ρ : Str → Option Value} {M : Mem} {K : Frag} {n : Nat} {pos apos : Pos}

-- pure trees
theorem none_of_ext {h h' : Heap} {a : Addr} (x : Ext h h') (e : h'.get? a = none) : h.get? a = none := by
  cases z : h.get? a with
  | none => rfl
  | some o => rw [x a o z] at e; cases e
theorem Pu.pure {a : α} {Q : α → G → Prop} (h : Q a g) : Pu prog w K n (Pure.pure a) Q g := fun A s _ _ sb => wpAny_pure ⟨Ext.refl _, .refl s, g, .refl g, sb, fun _ _ e => .inl e, h⟩
theorem Pu.bind {m : Sem α} {f : α → Sem β} {Q : β → G → Prop} (h : Pu prog w K n m (fun a g' => Pu prog w K n (f a) Q g') g) : Pu prog w K n (m >>= f) Q g := fun A s r wd sb =>
  wpAny_bind (wpAny_mono (h A s r wd sb) (fun a s' ⟨x, y, g', l, sb', nw, q⟩ => wpAny_mono (q A s' r (wd.ext x) sb') (fun b s'' ⟨x', y', g'', l', sb'', nw', q'⟩ =>
    ⟨x.trans x', y.trans y', g'', l.trans l', sb'', (fun a m e => (nw' a m e).elim (nw a m) fun e => .inr (none_of_ext x e)), q'⟩) fun _ _ e => e) fun _ _ e => e)
theorem Pu.looks {t : Sem α} {r : α} {Q : α → G → Prop} (l : ∀ h, Wd K h → Sub w.params g h → Looks (model prog w) h t r) (h : Q r g) : Pu prog w K n t Q g := fun _ s _ wd sb => (l _ wd sb).here ⟨Ext.refl _, .refl s, g, .refl g, sb, fun _ _ e => .inl e, h⟩
/-- a tree that leaves the heap as it is -/
theorem Pu.tok {t : Sem α} {Q : α → G → Prop} (h : ∀ A s, Room A n → Wd K s.heap → Sub w.params g s.heap → ∀ R : α → Shared → Prop, (∀ r tk, Q r g → R r { s with toks := tk }) → wpAny (model prog w) A t R (fun _ _ => False) s) : Pu prog w K n t Q g :=
  fun A s r wd sb => h A s r wd sb _ fun _ _ q => ⟨Ext.refl _, ⟨rfl, rfl, rfl⟩, g, .refl g, sb, fun _ _ e => .inl e, q⟩
theorem Pu.of_room {t : Sem α} {Q : α → G → Prop} {m : Nat} (h : Pu prog w K n t Q g) (hm : n ≤ m) : Pu prog w K m t Q g := h.mono hm fun _ _ _ q => q
theorem T.pu_same {t : Sem α} {r : α} {Q : Post α} {m : Nat} (O : c.Ok K n) (hp : Pu prog w K m t (fun r' g' => r' = r ∧ g' = g) g) (hm : m ≤ n) (h : Q r g ρ M) : T prog w c t Q g ρ M :=
  T.pu O hp hm fun r' g' _ ⟨a, b⟩ => by subst a b; exact h

/-- a new object made by one push, frozen at once -/
theorem T.push {t : Sem α} {Q : Post α} {m : MO} {o : Obj} {f : Addr → α} (hr : m.rep w.params o) (hf : o.isFreed = false)
    (ht : ∀ s, Act w.params c g ρ M s.heap → ∀ R : α → Shared → Prop, (∀ (h' : Heap) tk, Ext s.heap h' → R (f h'.objs.size) { s with heap := h'.push o, toks := tk }) → wpAny (model prog w) c.A t R (fun _ _ => False) s)
    (h : ∀ a, g a = none → Q (f a) (setG g a m) ρ M) : T prog w c t Q g ρ M := fun s hA => by
  refine ht s hA _ fun h' tk x => ?_
  have A' : Act w.params c g ρ M h' := by
    refine ⟨hA.keep.trans x, hA.know.ext x, hA.old, let ⟨m, a, b⟩ := hA.ns; ⟨m, a.keeps x, b⟩, fun y a e => (hA.cell y a e).keeps x, fun p hp => let ⟨o, a, b⟩ := hA.mem p hp; ⟨o, x _ _ a, b⟩, hA.fresh, hA.nodup, fun a ha => let ⟨o, b⟩ := hA.live a ha; ⟨o, x _ _ b⟩⟩
  have hn : h'.get? h'.objs.size = none := by
    cases q : h'.get? h'.objs.size with
    | none => rfl
    | some o => exact absurd (Heap.lt_size q) (Nat.lt_irrefl _)
  have A2 := A'.new (m := m) (fun b o e => Heap.get?_push_of_some _ e) hn ⟨o, Heap.get?_push_size _ hf, hr⟩
  have hg := (A2.fresh h'.objs.size (List.mem_append_right _ (.head _))).2
  exact ⟨_, _, _, Act.freeze (pre := []) A2, ⟨rfl, rfl, rfl⟩, Le.setG hg, h _ hg⟩
/-- a new object made by one push, still mutable -/
theorem T.pushM {t : Sem α} {Q : Post α} {m : MO} {o : Obj} {f : Addr → α} (hr : m.rep w.params o) (hf : o.isFreed = false)
    (ht : ∀ s, Act w.params c g ρ M s.heap → ∀ R : α → Shared → Prop, (∀ (h' : Heap) tk, Ext s.heap h' → R (f h'.objs.size) { s with heap := h'.push o, toks := tk }) → wpAny (model prog w) c.A t R (fun _ _ => False) s)
    (h : ∀ a, Q (f a) g ρ ((a, m) :: M)) : T prog w c t Q g ρ M := fun s hA => by
  refine ht s hA _ fun h' tk x => ?_
  have A' : Act w.params c g ρ M h' := by
    refine ⟨hA.keep.trans x, hA.know.ext x, hA.old, let ⟨m, a, b⟩ := hA.ns; ⟨m, a.keeps x, b⟩, fun y a e => (hA.cell y a e).keeps x, fun p hp => let ⟨o, a, b⟩ := hA.mem p hp; ⟨o, x _ _ a, b⟩, hA.fresh, hA.nodup, fun a ha => let ⟨o, b⟩ := hA.live a ha; ⟨o, x _ _ b⟩⟩
  have hn : h'.get? h'.objs.size = none := by
    cases q : h'.get? h'.objs.size with
    | none => rfl
    | some o => exact absurd (Heap.lt_size q) (Nat.lt_irrefl _)
  exact ⟨_, _, _, A'.new (m := m) (fun b o e => Heap.get?_push_of_some _ e) hn ⟨o, Heap.get?_push_size _ hf, hr⟩, ⟨rfl, rfl, rfl⟩, .refl _, h _⟩

theorem T.newList {vs : List Value} {Q : Post Value} (hz : vs.length ≤ 1000) (h : ∀ a, Q (.ref a) g ρ ((a, .list vs) :: M)) : T prog w c (PySem.newList vs) Q g ρ M :=
  T.pushM (m := .list vs) (o := { cls := .type "list", data := .seq vs.toArray }) (f := .ref) ⟨0, rfl⟩ rfl (fun s _ R k => wpAny_newObj_type (k s.heap s.toks (Ext.refl _)) (by show vs.toArray.size ≤ sizeLine; rw [List.size_toArray, sizeLine_eq]; omega)) h
theorem T.newListF {vs : List Value} {Q : Post Value} (hz : vs.length ≤ 1000) (h : ∀ a, g a = none → Q (.ref a) (setG g a (.list vs)) ρ M) : T prog w c (PySem.newList vs) Q g ρ M :=
  T.push (m := .list vs) (o := { cls := .type "list", data := .seq vs.toArray }) (f := .ref) ⟨0, rfl⟩ rfl (fun s _ R k => wpAny_newObj_type (k s.heap s.toks (Ext.refl _)) (by show vs.toArray.size ≤ sizeLine; rw [List.size_toArray, sizeLine_eq]; omega)) h
theorem T.newTuple {vs : List Value} {Q : Post Value} (hz : vs.length ≤ 1000) (h : ∀ a, g a = none → Q (.ref a) (setG g a (.tup vs)) ρ M) : T prog w c (PySem.newTuple vs) Q g ρ M :=
  T.push (m := .tup vs) (o := { cls := .type "tuple", data := .seq vs.toArray }) (f := .ref) rfl rfl (fun s _ R k => wpAny_newObj_type (k s.heap s.toks (Ext.refl _)) (by show vs.toArray.size ≤ sizeLine; rw [List.size_toArray, sizeLine_eq]; omega)) h

/-- a list: frozen, or among the mutable -/
def SrcL (g : G) (M : Mem) (a : Addr) (vs : List Value) : Prop := g a = some (.list vs) ∨ (a, .list vs) ∈ M
theorem SrcL.at {P : Params} {h : Heap} {a : Addr} {vs : List Value} (S : SrcL g M a vs) (A : Act P c g ρ M h) : ∃ k, IsL h a vs.toArray k := by
  rcases S with e | e
  · obtain ⟨_, ho, k, rfl⟩ := A.know _ _ e; exact ⟨k, ho⟩
  · obtain ⟨_, ho, k, rfl⟩ := A.mem _ e; exact ⟨k, ho⟩
theorem Tup.at {P : Params} {h : Heap} {a : Addr} {vs : List Value} (S : Tup g a vs) (A : Act P c g ρ M h) : IsT h a vs.toArray 0 := by
  obtain ⟨_, ho, rfl⟩ := A.know _ _ S; exact ho

theorem T.lenL {a : Addr} {vs : List Value} {Q : Post Value} (S : SrcL g M a vs) (hz : vs.length ≤ 1000) (h : ∀ t, Q (.int vs.length t) g ρ M) : T prog w c (call (.builtin "len") [.ref a]) Q g ρ M := T.tok fun s hA R k => by
  obtain ⟨_, hl⟩ := S.at hA
  exact call_len_list hl.isList (by rw [List.size_toArray]; omega) (k _ _ (by rw [List.size_toArray]; exact h _))
theorem T.lenT {a : Addr} {vs : List Value} {Q : Post Value} (S : Tup g a vs) (hz : vs.length ≤ 1000) (h : ∀ t, Q (.int vs.length t) g ρ M) : T prog w c (call (.builtin "len") [.ref a]) Q g ρ M := T.tok fun s hA R k =>
  P.len_tuple (S.at hA) (by rw [List.size_toArray]; omega) (k _ _ (by rw [List.size_toArray]; exact h _))
theorem T.truthyL {a : Addr} {vs : List Value} {Q : Post Bool} (S : SrcL g M a vs) (hz : vs.length ≤ 1000) (h : Q (!vs.isEmpty) g ρ M) : T prog w c (truthy (.ref a)) Q g ρ M := T.tok fun s hA R k => by
  obtain ⟨_, hl⟩ := S.at hA
  exact wpAny_truthy_list hl.isList (by rw [List.size_toArray]; omega) (k _ _ (by rw [List.isEmpty_toArray]; exact h))
theorem T.truthyT {a : Addr} {vs : List Value} {Q : Post Bool} (S : Tup g a vs) (hz : vs.length ≤ 1000) (h : Q (!vs.isEmpty) g ρ M) : T prog w c (truthy (.ref a)) Q g ρ M := T.tok fun s hA R k =>
  truthy_tuple ⟨_, S.at hA, rfl, 0, rfl⟩ (by rw [List.size_toArray]; omega) (k _ _ (by rw [List.isEmpty_toArray]; exact h))
theorem T.truthyI {i : Int} {t : Tok} {Q : Post Bool} (h : Q (i != 0) g ρ M) : T prog w c (truthy (.int i t)) Q g ρ M := T.tok fun s _ _ k => truthy_int (k _ s.toks h)

-- items
theorem T.itemL {value slice : Expr} {a : Addr} {vs : List Value} {k : Int} {u : Tok} {v : Value} {Q : Post Value} (S : SrcL g M a vs) (h0 : 0 ≤ k) (hfit : k < 2 ^ 63) (hx : vs[k.toNat]? = some v)
    (hs : subscripted slice false (.ref a) (.int k u) = PySem.operate [.ref a, .int k u] (getItem (.ref a) (.int k u))) (h : Q v g ρ M) : T prog w c (subscriptTail value slice (.ref a) (.int k u)) Q g ρ M := T.tok fun s hA R kk => by
  obtain ⟨_, hl⟩ := S.at hA
  exact tail_any hl.isList.typeIs slot_list_getitem.lookup (wpAny_getItem_list hl.isList h0 hfit (by simpa using hx) (kk _ s.toks h)) hs
theorem T.itemLneg {value slice : Expr} {a : Addr} {vs : List Value} {k : Int} {u : Tok} {v : Value} {Q : Post Value} (S : SrcL g M a vs) (h0 : k < 0) (h1 : -(vs.length : Int) ≤ k) (hfit : -(2 ^ 63) ≤ k) (hx : vs[(k + vs.length).toNat]? = some v)
    (hs : subscripted slice false (.ref a) (.int k u) = PySem.operate [.ref a, .int k u] (getItem (.ref a) (.int k u))) (h : Q v g ρ M) : T prog w c (subscriptTail value slice (.ref a) (.int k u)) Q g ρ M := T.tok fun s hA R kk => by
  obtain ⟨_, hl⟩ := S.at hA
  exact tail_any hl.isList.typeIs slot_list_getitem.lookup (wpAny_getItem_list_neg hl.isList h0 (by simpa using h1) hfit (by simpa using hx) (kk _ s.toks h)) hs
theorem T.itemT {value slice : Expr} {a : Addr} {vs : List Value} {k : Int} {u : Tok} {v : Value} {Q : Post Value} (S : Tup g a vs) (h0 : 0 ≤ k) (hfit : k < 2 ^ 63) (hx : vs[k.toNat]? = some v)
    (hs : subscripted slice false (.ref a) (.int k u) = PySem.operate [.ref a, .int k u] (getItem (.ref a) (.int k u))) (h : Q v g ρ M) : T prog w c (subscriptTail value slice (.ref a) (.int k u)) Q g ρ M := T.tok fun s hA R kk => by
  have ht := S.at hA
  have hlt : k.toNat < vs.length := by
    rcases Nat.lt_or_ge k.toNat vs.length with q | q
    · exact q
    · rw [List.getElem?_eq_none q] at hx; cases hx
  refine tail_any (T := "tuple") ⟨_, ht, rfl⟩ F.slot_tuple_getitem.lookup (P.getItem_tuple (k := k.toNat) ht (by omega) hfit ?_ (by simpa using hx) (kk _ s.toks h)) hs
  have hk : ¬ k < 0 := by omega
  have h2 : k < (vs.length : Int) := by omega
  unfold seqIndex?
  simp only [List.size_toArray, if_neg hk]
  rw [decide_eq_true h0, decide_eq_true h2]
  rfl

-- whole numbers
theorem T.addI {a b : Int} {t u : Tok} {Q : Post Value} (h : ∀ t, Q (.int (a + b) t) g ρ M) : T prog w c (binaryOp .Add (.int a t) (.int b u)) Q g ρ M := T.tok fun _ _ _ k => add_int (k _ _ (h _))
theorem T.mulI {a b : Int} {t u : Tok} {Q : Post Value} (hm : IntMulOk a b) (h : ∀ t, Q (.int (a * b) t) g ρ M) : T prog w c (binaryOp .Mult (.int a t) (.int b u)) Q g ρ M := T.tok fun _ _ _ k => mul_int (k _ _ (h _)) hm
theorem T.modI {a b : Int} {t u : Tok} {Q : Post Value} (hb : b ≠ 0) (h : ∀ t, Q (.int (a.fmod b) t) g ρ M) : T prog w c (binaryOp .Mod (.int a t) (.int b u)) Q g ρ M := T.tok fun _ _ _ k => mod_int hb (k _ _ (h _))
theorem T.divI {a b : Int} {t u : Tok} {Q : Post Value} (hb : b ≠ 0) (hp : Builtin.divisionGoesByPylong a b = false) (h : ∀ t, Q (.int (a.fdiv b) t) g ρ M) : T prog w c (binaryOp .FloorDiv (.int a t) (.int b u)) Q g ρ M := T.tok fun _ _ _ k => floordiv_int hb (k _ _ (h _)) (.inl hp)
theorem T.subI {a b : Int} {t u : Tok} {Q : Post Value} (h : ∀ t, Q (.int (a - b) t) g ρ M) : T prog w c (binaryOp .Sub (.int a t) (.int b u)) Q g ρ M := T.tok fun _ _ _ k => sub_int (k _ _ (h _))
theorem T.xorI {a b : Int} {t u : Tok} {Q : Post Value} (h : ∀ t, Q (.int (Builtin.bitXor a b) t) g ρ M) : T prog w c (binaryOp .BitXor (.int a t) (.int b u)) Q g ρ M := T.tok fun _ _ _ k => xor_int (k _ _ (h _))
theorem T.shlI {a b : Int} {t u : Tok} {Q : Post Value} (h0 : 0 ≤ b) (h1 : b ≤ 1000000) (h2 : a.natAbs < 2 ^ 64) (h : ∀ t, Q (.int (a * 2 ^ b.toNat) t) g ρ M) : T prog w c (binaryOp .LShift (.int a t) (.int b u)) Q g ρ M := T.tok fun _ _ _ k => lshift_int_small h0 h1 h2 (k _ _ (h _))
theorem T.eqI {a b : Int} {t u : Tok} {Q : Post Value} (h : Q (.bool (a == b)) g ρ M) : T prog w c (compareOp .Eq (.int a t) (.int b u)) Q g ρ M := T.tok fun s _ _ k => eq_int (k _ s.toks h)
theorem T.neI {a b : Int} {t u : Tok} {Q : Post Value} (h : Q (.bool (a != b)) g ρ M) : T prog w c (compareOp .NotEq (.int a t) (.int b u)) Q g ρ M := T.tok fun s _ _ k => ne_int (k _ s.toks h)
theorem T.ltI {a b : Int} {t u : Tok} {Q : Post Value} (h : Q (.bool (decide (a < b))) g ρ M) : T prog w c (compareOp .Lt (.int a t) (.int b u)) Q g ρ M := T.tok fun s _ _ k => lt_int (k _ s.toks h)
theorem T.gtI {a b : Int} {t u : Tok} {Q : Post Value} (h : Q (.bool (decide (b < a))) g ρ M) : T prog w c (compareOp .Gt (.int a t) (.int b u)) Q g ρ M := T.tok fun s _ _ k => gt_int (k _ s.toks h)
theorem T.geI {a b : Int} {t u : Tok} {Q : Post Value} (h : Q (.bool (decide (b ≤ a))) g ρ M) : T prog w c (compareOp .GtE (.int a t) (.int b u)) Q g ρ M := T.tok fun s _ _ k => ge_int (k _ s.toks h)
theorem T.eqS {x y : Str} {t u : Tok} {Q : Post Value} (h : Q (.bool (x == y)) g ρ M) : T prog w c (compareOp .Eq (.str x t) (.str y u)) Q g ρ M := T.tok fun s _ _ k => P.eq_str (k _ s.toks (by
  have e : (x.cps.toList == y.cps.toList) = (x == y) := by
    by_cases q : x = y
    · subst q; simp
    · rw [beq_eq_false_iff_ne.mpr q, beq_eq_false_iff_ne]
      intro z; exact q (by cases x; cases y; congr; exact Array.ext' z)
  rw [e]; exact h))

-- one and the same
theorem T.isRef {x y : Addr} {mx my : MO} {Q : Post Value} (hx : g x = some mx) (hy : g y = some my) (hn : ∀ vs, mx ≠ .tup vs) (hr : ∀ o, mx ≠ .raw o) (h : Q (.bool (decide (x = y))) g ρ M) : T prog w c (compareOp .Is (.ref x) (.ref y)) Q g ρ M := T.tok fun s hA R k => by
  by_cases q : x = y
  · subst q
    exact wpAny_is_ref_self (k _ s.toks (by simpa using h))
  · obtain ⟨ox, hox, rx⟩ := hA.know _ _ hx
    obtain ⟨oy, hoy, _⟩ := hA.know _ _ hy
    refine wpAny_is_ref_other q hox hoy ?_ (k _ s.toks (by simpa [q] using h))
    cases mx with
    | list => obtain ⟨n, rfl⟩ := rx; exact (by decide : Value.type "list" ≠ .type "tuple")
    | tup vs => exact absurd rfl (hn vs)
    | inst => rw [show ox = _ from rx]; exact fun e => by cases e
    | sd => obtain ⟨_, _, rfl, _⟩ := rx; exact (by decide : Value.type "dict" ≠ .type "tuple")
    | raw o => exact absurd rfl (hr o)
    | map f n => obtain ⟨_, _, _, rfl, _⟩ := rx; exact (by decide : Value.type "dict" ≠ .type "tuple")
    | vd xs => obtain ⟨_, rfl⟩ := rx; exact (by decide : Value.type "dict" ≠ .type "tuple")

-- isinstance
def isiOk (K : Frag) (D : Addr) : Bool := plainGet K D "__class__" && hasDictIn K D && findIn K (.ref D) "__class__" == some (some (.builtin "object.__class__")) && mroIn K D (.type "object") == some true
def isiTop (K : Frag) : Bool := specialIn K (.builtin "object.__class__") "__get__" == some (some (.builtin "getset_descriptor.__get__")) && takesIn K (.builtin "object.__class__") == some true
theorem T.isinst {x D C : Addr} {kv : List (Str × Value)} {b : Bool} {Q : Post Value} (O : c.Ok K n) (I : Inst g x D kv) (hD : isiOk K D = true) (hT : isiTop K = true) (e : kitOne K (.ref D) (.ref C) = some b) (h : Q (.bool b) g ρ M) :
    T prog w c (call (.builtin "isinstance") [.ref x, .ref C]) Q g ρ M := T.tok fun s hA R k => by
  obtain ⟨d, es, j, he, hd, IA⟩ := I.at hA.know
  unfold isiOk at hD
  unfold isiTop at hT
  simp only [Bool.and_eq_true, beq_iff_eq] at hD hT
  obtain ⟨⟨⟨h1, h2⟩, h3⟩, h4⟩ := hD
  exact kia_one (kitx_own (ox := instObj D d) (od := dictOf es j) h1 h2 h3 hT.1 hT.2 h4) (hA.wd O).X IA e (fun q => by cases q) fun tk => k _ _ h

-- lists that are turned
theorem T.methodL {a : Addr} {vs : List Value} {name : Str} {id : String} {pl : Sem Bool} {Q : Post (Value × List Value)} (S : SrcL g M a vs) (slot : Slot "list" name id) (hty : typeOf (.builtin id) = Pure.pure (.type "method_descriptor")) (h : Q (.builtin id, [.ref a]) g ρ M) :
    T prog w c (getMethod (.ref a) name pl) Q g ρ M := T.tok fun s hA R k => by
  obtain ⟨_, hl⟩ := S.at hA
  exact getMethod_builtin hl.isList.typeIs F.plainAttrs_list slot hty (fun b e => by cases e; exact ⟨_, hl, rfl⟩) (k _ s.toks h)
theorem Act.upd {P : Params} {s : Shared} {pre post : Mem} {d : Addr} {m₀ m₁ : MO} {f : Obj → Obj} {o : Obj} (A : Act P c g ρ (pre ++ (d, m₀) :: post) s.heap) (O : c.Ok K n) (ho : s.heap.get? d = some o) (hf : (f o).isFreed = false) (hr : m₁.rep P (f o)) :
    Act P c g ρ (pre ++ (d, m₁) :: post) (s.heap.update d f) := by
  refine A.turn O (fun a o' ha _ e => (Heap.get?_update_ne _ _ _ _ ha).trans e) ?_ ⟨_, Heap.get?_update_self _ ho hf, hr⟩
  obtain ⟨m, ⟨oL, es, ep, hL, r⟩, e⟩ := A.ns
  refine ⟨m, ⟨oL, es, ep, (Heap.get?_update_ne _ _ _ _ fun q => ?_).trans hL, r⟩, e⟩
  exact (List.nodup_append.mp A.nodup).2.2 _ O.loc d (by simp) q
theorem seq_upd {P : Params} {vs us : List Value} {j : Nat} {f : Array Value → Array Value} (hf : f vs.toArray = us.toArray) : (MO.list us).rep P (Obj.mapSeq f { cls := .type "list", data := .seq vs.toArray j }) :=
  ⟨if us.toArray.size == vs.toArray.size then j else j + 1, by rw [← hf]; rfl⟩
theorem T.appendL {a : Addr} {pre post : Mem} {vs : List Value} {v : Value} {Q : Post Value} (O : c.Ok K n) (hz : vs.length ≤ 1000) (h : Q .none g ρ (pre ++ (a, .list (vs ++ [v])) :: post)) :
    T prog w c (call (.builtin "list.append") [.ref a, v]) Q g ρ (pre ++ (a, .list vs) :: post) := fun s hA => by
  obtain ⟨_, hl, j, rfl⟩ := hA.mem (a, .list vs) (by simp)
  exact call_meets F.slot_list_append ⟨_, hl, rfl⟩ F.entry_list_append (F.args_list_append_2 _ _) (list_append a vs.toArray j v (by rw [List.size_toArray, sizeLine_eq]; omega))
    ⟨hl, ⟨g, ρ, _, hA.upd O hl rfl (seq_upd (by simp)), ⟨rfl, rfl, rfl⟩, .refl g, h⟩⟩
theorem T.extendL {a b : Addr} {pre post : Mem} {vs us : List Value} {Q : Post Value} (O : c.Ok K n) (S : SrcL g (pre ++ post) b us) (hz : vs.length + us.length ≤ 1000) (h : Q .none g ρ (pre ++ (a, .list (vs ++ us)) :: post)) :
    T prog w c (call (.builtin "list.extend") [.ref a, .ref b]) Q g ρ (pre ++ (a, .list vs) :: post) := fun s hA => by
  obtain ⟨_, hl, j, rfl⟩ := hA.mem (a, .list vs) (by simp)
  have S' : SrcL g (pre ++ (a, .list vs) :: post) b us := S.imp id fun hm => by
    rcases List.mem_append.mp hm with hm | hm
    · exact List.mem_append_left _ hm
    · exact List.mem_append_right _ (.tail _ hm)
  obtain ⟨j2, hb⟩ := S'.at hA
  exact call_meets F.slot_list_extend ⟨_, hl, rfl⟩ F.entry_list_extend (F.args_list_extend_2 _ _) (AutoSeq1.list_extend_list_list_0 a vs.toArray j b us.toArray j2
      (by simp only [List.size_toArray, Bool.and_eq_true, not_and]; intro _; unfold Builtin.List.listTooLong; have := sizeLine_eq; simp; omega) (by rw [List.size_toArray, sizeLine_eq]; omega) (by have := sizeLine_eq; simp only [List.size_toArray]; omega))
    ⟨hl, hb, ⟨g, ρ, _, hA.upd O hl rfl (seq_upd (by simp)), ⟨rfl, rfl, rfl⟩, .refl g, h⟩⟩
theorem T.popL {a : Addr} {pre post : Mem} {vs : List Value} {v : Value} {Q : Post Value} (O : c.Ok K n) (hz : vs.length ≤ 1000) (h : Q v g ρ (pre ++ (a, .list vs) :: post)) :
    T prog w c (call (.builtin "list.pop") [.ref a]) Q g ρ (pre ++ (a, .list (vs ++ [v])) :: post) := fun s hA => by
  obtain ⟨_, hl, j, rfl⟩ := hA.mem (a, .list (vs ++ [v])) (by simp)
  exact call_meets F.slot_list_pop ⟨_, hl, rfl⟩ F.entry_list_pop (F.args_list_pop_1 _) (MeetsSeq.list_pop_last a (vs ++ [v]).toArray j v (by simp) (by rw [List.size_toArray, sizeLine_eq, List.length_append, List.length_singleton]; omega))
    ⟨hl, ⟨g, ρ, _, hA.upd O hl rfl (seq_upd (by simp [Array.eraseIdxIfInBounds, List.eraseIdx_append_of_length_le])), ⟨rfl, rfl, rfl⟩, .refl g, h⟩⟩
theorem T.reverseL {a : Addr} {pre post : Mem} {vs : List Value} {Q : Post Value} (O : c.Ok K n) (hz : vs.length ≤ 1000) (h : Q .none g ρ (pre ++ (a, .list vs.reverse) :: post)) :
    T prog w c (call (.builtin "list.reverse") [.ref a]) Q g ρ (pre ++ (a, .list vs) :: post) := fun s hA => by
  obtain ⟨_, hl, j, rfl⟩ := hA.mem (a, .list vs) (by simp)
  exact call_meets F.slot_list_reverse ⟨_, hl, rfl⟩ F.entry_list_reverse (F.args_list_reverse_1 _) (AutoSeq1.list_reverse_list_0 a vs.toArray j (by rw [List.size_toArray, sizeLine_eq]; omega))
    ⟨hl, ⟨g, ρ, _, hA.upd O hl rfl (seq_upd (by simp)), ⟨rfl, rfl, rfl⟩, .refl g, h⟩⟩
/-- tuple(a list) -/
theorem T.tupleOf {a : Addr} {vs : List Value} {Q : Post Value} (S : SrcL g M a vs) (hz : vs.length ≤ 1000) (h : ∀ b, g b = none → Q (.ref b) (setG g b (.tup vs)) ρ M) : T prog w c (call (.type "tuple") [.ref a]) Q g ρ M :=
  T.push (m := .tup vs) (o := { cls := .type "tuple", data := .seq vs.toArray }) (f := .ref) rfl rfl (fun s hA R k => by
    obtain ⟨_, hl⟩ := S.at hA
    exact call_tuple_list hl.isList (fun h' x => k h' s.toks x) (by rw [List.size_toArray, sizeLine_eq]; omega)) h
theorem T.tupleSame {a : Addr} {vs : List Value} {Q : Post Value} (S : Tup g a vs) (h : Q (.ref a) g ρ M) : T prog w c (call (.type "tuple") [.ref a]) Q g ρ M := T.tok fun s hA R k =>
  call_tuple_same ⟨_, S.at hA, rfl, 0, rfl⟩ (k _ s.toks h)
/-- list + list -/
theorem T.addL {a b : Addr} {vs us : List Value} {Q : Post Value} (S : SrcL g M a vs) (S' : SrcL g M b us) (hz : vs.length + us.length ≤ 1000) (h : ∀ b, g b = none → Q (.ref b) (setG g b (.list (vs ++ us))) ρ M) : T prog w c (binaryOp .Add (.ref a) (.ref b)) Q g ρ M :=
  T.push (m := .list (vs ++ us)) (o := { cls := .type "list", data := .seq (vs ++ us).toArray }) (f := .ref) ⟨0, rfl⟩ rfl (fun s hA R k => by
    obtain ⟨_, hl⟩ := S.at hA
    obtain ⟨_, hl'⟩ := S'.at hA
    exact P.add_list hl hl' (by have := k s.heap s.toks (Ext.refl _); simpa using this) (by have := sizeLine_eq; simp only [List.size_toArray]; omega)) h
end
end Mine

namespace Mine

section
variable {prog : Program} {w : World} {α β : Type} {c : Cx} {g : G} {ρ : Str → Option Value} {M : Mem} {K : Frag} {n : Nat} {pos apos : Pos}

theorem Room.make {A : Around} (r : Room A (n + 1)) (C : Addr) (vs : List Value) (kw : List (Str × Value)) : Room (A.under (.builtin "type.__call__" ⟨.ref C :: vs, kw⟩)) n :=
  ⟨by have := r.depth; rw [depth_under_kw]; omega, by have := r.units; show A.units + 1 + 8 * n < _; omega, r.handled⟩

/-- an own class is called: its __init__ is entered with the new object's dict as what may be turned -/
theorem Pu.make {C fI : Addr} {fd : FuncData} {body : List Stmt} {oc : Value} {od : Option Addr} {osl : Array (Option Value)} {args : List Value} {kw : List (Str × Value)} {binds : Addr → List (Str × Value)} {Q : Value → G → Prop}
    (hm : makesIn K C = true) (hi : findIn K (.ref C) "__init__" = some (some (.ref fI))) (hf : typeIn K (.ref fI) = some (.type "function"))
    (hK : K.lookup fI = some ⟨oc, od, .func fd, osl⟩) (D : DefOk K fd) (hb : fd.body = .stmts body) (hbind : ∀ s x, K.In s.heap → BindsTo s fd ⟨.ref x :: args, kw⟩ (binds x))
    (hkind : ∀ x, ((binds x).all fun y => fd.scope.names.lookup y.1 == some .local || fd.scope.names.lookup y.1 == some .cell) = true)
    (h : ∀ (x d : Addr) (c : Cx), c.Ok K n → c.Own → c.env.scope.names = fd.scope.names → g x = none → g d = none → T prog w c (execs body c.env) (fun fl g' _ M' => retOf fl = .none ∧ ∃ kv, M' = [(d, .sd kv)] ∧
      ∀ g'', Le g' g'' → Inst g'' x C kv → Q (.ref x) g'') (setG g x (.inst C d)) (ofBinds (binds x)) [(d, .sd [])]) :
    Pu prog w K (n + 2) (call (.ref C) args kw) Q g := fun A s r wd sb => by
  obtain ⟨hh, gens, dr, t, os⟩ := s
  dsimp only at wd sb
  have X : K.In hh := wd.X
  have e1 : Ext hh ((hh.push emptyDict).push (instObj C hh.objs.size)) := fun b o e => Heap.get?_push_of_some _ (Heap.get?_push_of_some _ e)
  have nd : hh.get? hh.objs.size = none := by
    cases q : hh.get? hh.objs.size with
    | none => rfl
    | some o => exact absurd (Heap.lt_size q) (Nat.lt_irrefl _)
  have nx : hh.get? (hh.objs.size + 1) = none := by
    cases q : hh.get? (hh.objs.size + 1) with
    | none => rfl
    | some o => exact absurd (Heap.lt_size q) (Nat.not_lt.mpr (Nat.le_succ _))
  have gn : ∀ a, hh.get? a = none → g a = none := fun a ha => by
    cases q : g a with
    | none => rfl
    | some m => obtain ⟨o, ho, _⟩ := sb a m q; rw [ha] at ho; cases ho
  have hx : ((hh.push emptyDict).push (instObj C hh.objs.size)).get? (hh.objs.size + 1) = some (instObj C hh.objs.size) := by heap_get
  have hd : ((hh.push emptyDict).push (instObj C hh.objs.size)).get? hh.objs.size = some (dictOf [] 0) := Heap.get?_push_of_some _ (Heap.get?_push_size _ rfl)
  refine wpAny_call (make_core (makes_of X hm) (looks_findIn X hi) (fun self => bind_fn X self hf) (.inl rfl) ?_)
  refine codeAny_mono (enter (n := n) (R := fun v g' M' => v = .none ∧ ∃ kv, M' = [(hh.objs.size, .sd kv)] ∧ ∀ g'', Le g' g'' → Inst g'' (hh.objs.size + 1) C kv → Q (.ref (hh.objs.size + 1)) g'')
    (g := setG g (hh.objs.size + 1) (.inst C hh.objs.size)) (ge := g) (h₀ := hh) (M₀ := [(hh.objs.size, .sd [])]) (r.make C args kw) wd e1 ?_ ?_ ?_ ?_ ?_ hK D hb (hbind _ _ (X.keeps e1)) (hkind _) fun c O W e _ _ => h _ _ c O W e (gn _ nx) (gn _ nd)) fun r s' hr => ?_
  · intro a m e
    unfold setG at e
    split at e
    · rename_i q; subst q; cases e; exact ⟨_, hx, rfl⟩
    · obtain ⟨o, ho, hr⟩ := sb a m e; exact ⟨o, e1 _ _ ho, hr⟩
  · intro a m e
    unfold setG at e
    split at e
    · rename_i q; subst q; exact .inr nx
    · exact .inl e
  · intro p hp
    rw [List.mem_singleton.mp hp]
    exact ⟨_, hd, [], 0, rfl, .nil⟩
  · intro a ha
    rw [List.mem_singleton.mp ha]
    refine ⟨nd, ?_⟩
    unfold setG
    rw [if_neg (Nat.ne_of_lt (Nat.lt_succ_self _))]
    exact gn _ nd
  · exact List.nodup_cons.mpr ⟨(fun h => nomatch h), List.nodup_nil⟩
  · obtain ⟨v, g', M', rfl, o, rfl, kv, rfl, q⟩ := hr
    refine ⟨rfl, ?_⟩
    obtain ⟨od, hod, hrep⟩ := o.mem _ (.head _)
    have fr := o.fresh hh.objs.size (.head _)
    have l1 : Le g' (setG g' hh.objs.size (.sd kv)) := Le.setG fr.2
    have lg : Le g g' := (Le.setG (gn _ nx)).trans o.le
    refine ⟨o.ext, o.rest, _, lg.trans l1, fun a m e => ?_, fun a m e => ?_, q _ l1 ⟨hh.objs.size, l1 _ _ (o.le _ _ setG_self), setG_self⟩⟩
    · unfold setG at e
      split at e
      · rename_i z; subst z; cases e; exact ⟨od, hod, hrep⟩
      · exact o.know a m e
    · unfold setG at e
      split at e
      · rename_i z; subst z; exact .inr nd
      · exact o.old a m e

/-- an own class without an __init__ -/
theorem Pu.rule {tag : String} {Q : Unit → G → Prop} (h : Q () g) : Pu prog w K n (PySem.rule tag) Q g := Pu.tok fun A s _ _ _ R k => wpAny_rule (k _ s.toks h)
theorem Pu.isSame {x y C D : Addr} {kv kv' : List (Str × Value)} {Q : Bool → G → Prop} (I : Inst g x C kv) (J : Inst g y D kv') (h : Q (decide (x = y)) g) : Pu prog w K n (isSame (.ref x) (.ref y)) Q g := Pu.tok fun A s _ wd sb R k => by
  obtain ⟨_, _, _, _, _, Ix⟩ := I.at sb
  obtain ⟨_, _, _, _, _, Iy⟩ := J.at sb
  by_cases e : x = y
  · subst e
    exact wpAny_isSame_ref_self (k _ s.toks (by simpa using h))
  · exact wpAny_isSame_ref_other e Ix.at_ Iy.at_ (fun q => by cases q) (k _ s.toks (by simpa [e] using h))
theorem Pu.tryEq {x C f : Addr} {kv : List (Str × Value)} {b : Value} {Q : Option Value → G → Prop} (I : Inst g x C kv) (hs : findIn K (.ref C) "__eq__" = some (some (.ref f))) (hf : isFn K (.ref f) = true)
    (h : Pu prog w K n (call (.ref f) [.ref x, b]) (fun r g' => Q (if r = .notImplemented then none else some r) g') g) : Pu prog w K n (tryCompare (.ref x) "__eq__" b) Q g := fun A s r wd sb => by
  obtain ⟨d, es, j, he, hd, IA⟩ := I.at sb
  unfold tryCompare
  refine wpAny_bind (ifBound_K wd.X IA hs hf (wpAny_mono (h A s r wd sb) (fun v s' ⟨a, b, g', c, d, e, q⟩ => ?_) fun _ _ e => e))
  cases v <;> exact wpAny_pure ⟨a, b, g', c, d, e, q⟩
def eqFirst (K : Frag) (C D f : Addr) : Bool := (C == D || subIn K (.ref D) (.ref C) == some false) && findIn K (.ref C) "__eq__" == some (some (.ref f)) && isFn K (.ref f)
theorem Pu.eqInst {x y C D f f' : Addr} {kv kv' : List (Str × Value)} {Q : Value → G → Prop} (I : Inst g x C kv) (J : Inst g y D kv') (hf : eqFirst K C D f = true) (hf' : findIn K (.ref D) "__eq__" = some (some (.ref f'))) (hff : isFn K (.ref f') = true)
    (h : Pu prog w K (n + 1) (call (.ref f) [.ref x, .ref y]) (fun r g' => match r with
      | .notImplemented => Pu prog w K (n + 1) (call (.ref f') [.ref y, .ref x]) (fun r g'' => match r with | .notImplemented => Q (.bool (decide (x = y))) g'' | v => Q v g'') g'
      | v => Q v g') g) : Pu prog w K (n + 1) (compareOp .Eq (.ref x) (.ref y)) Q g := fun A s r wd sb => by
  unfold eqFirst at hf
  simp only [Bool.and_eq_true, beq_iff_eq, Bool.or_eq_true] at hf
  obtain ⟨⟨h1, h2⟩, h3⟩ := hf
  obtain ⟨d, es, j, he, hd, Ix⟩ := I.at sb
  obtain ⟨d', es', j', he', hd', Iy⟩ := J.at sb
  have X := wd.X
  show wpAny _ _ (richCompare .Eq (.ref x) (.ref y)) _ _ _
  have tail : wpAny (model prog w) A (do
      if let some v ← tryCompare (.ref x) "__eq__" (.ref y) then return v
      if !false then
        if let some v ← tryCompare (.ref y) "__eq__" (.ref x) then return v
      PySem.rule "compare.eq-identity"
      return Value.bool (← PySem.isSame (.ref x) (.ref y))) (fun r s' => Ext s.heap s'.heap ∧ Rest s s' ∧
        ∃ g', Le g g' ∧ Sub w.params g' s'.heap ∧ (∀ a m, g' a = some m → g a = some m ∨ s.heap.get? a = none) ∧ Q r g') (fun _ _ => False) s := by
    have z : Pu prog w K (n + 1) (do
      if let some v ← tryCompare (.ref x) "__eq__" (.ref y) then return v
      if !false then
        if let some v ← tryCompare (.ref y) "__eq__" (.ref x) then return v
      PySem.rule "compare.eq-identity"
      return Value.bool (← PySem.isSame (.ref x) (.ref y))) Q g := by
      refine Pu.bind (Pu.tryEq I h2 h3 (h.mono (Nat.le_refl _) fun r g' l q => ?_))
      by_cases hr : r = .notImplemented
      · subst hr
        rw [if_pos rfl]
        refine Pu.bind (Pu.tryEq (J.mono l) hf' hff (q.mono (Nat.le_refl _) fun r g'' l' q' => ?_))
        by_cases hr : r = .notImplemented
        · subst hr
          rw [if_pos rfl]
          exact Pu.bind (Pu.rule (Pu.bind (Pu.isSame (I.mono (l.trans l')) (J.mono (l.trans l')) (Pu.pure q'))))
        · rw [if_neg hr]
          refine Pu.pure ?_
          cases r <;> first | exact q' | exact absurd rfl hr
      · rw [if_neg hr]
        refine Pu.pure ?_
        cases r <;> first | exact q | exact absurd rfl hr
    exact z A s r wd sb
  unfold richCompare
  simp only [oneThing_ref]
  refine wpAny_holding (wpAny_bind (wpAny_cRoomFor (by have := r.units; omega) ?_))
  refine wpAny_bind (Ix.type.here (wpAny_bind (Iy.type.here ?_)))
  split
  · rename_i q
    rcases h1 with h1 | h1
    · subst h1; simp at q
    · refine wpAny_bind ((looks_subIn X h1).here ?_)
      exact tail
  · exact wpAny_bind (wpAny_pure tail)
end
end Mine

namespace Mine

theorem get_freed (h : Heap) (a : Addr) : (h.update a fun _ => { cls := .none, data := .freed }).get? a = none := by
  obtain ⟨objs, l⟩ := h
  simp only [Heap.update, Heap.get?, Array.getElem?_modify, if_true]
  cases objs[a]? <;> rfl
def hide (h : Heap) : List Addr → Heap
  | [] => h
  | a :: l => hide (h.update a fun _ => { cls := .none, data := .freed }) l
theorem get_hide : ∀ (l : List Addr) (h : Heap) (b : Addr), (hide h l).get? b = if b ∈ l then none else h.get? b
  | [], h, b => by simp [hide]
  | a :: l, h, b => by
    show (hide (h.update a _) l).get? b = _
    rw [get_hide l]
    by_cases q : b ∈ l
    · rw [if_pos q, if_pos (.tail _ q)]
    · rw [if_neg q]
      by_cases z : b = a
      · subst z; rw [if_pos (.head _)]; exact get_freed h b
      · rw [if_neg (by simp [z, q])]; exact Heap.get?_update_other h _ (Ne.symm z)
theorem hide_ext {h₀ h : Heap} {l : List Addr} (x : Ext h₀ h) (hl : ∀ a ∈ l, h₀.get? a = none) : Ext h₀ (hide h l) := fun a o e => by
  rw [get_hide, if_neg (fun q => by rw [hl a q] at e; cases e)]; exact x a o e
theorem ext_hide {h : Heap} {l : List Addr} : Ext (hide h l) h := fun a o e => by
  rw [get_hide] at e
  split at e
  · cases e
  · exact e

section
variable {prog : Program} {w : World} {α β : Type} {c : Cx} {g g' : G} {ρ ρ' : Str → Option Value} {M M' : Mem} {K : Frag} {n : Nat} {pos apos : Pos} {P : Params} {h h' : Heap}

/-- the context seen from the state that is reached -/
def Cx.re (c : Cx) (h : Heap) (M : Mem) (g : G) : Cx := { c with h₀ := hide h (c.own ++ M.map (·.1)), ge := g }
theorem Act.re_ext (A : Act P c g ρ M h) : Ext c.h₀ (c.re h M g).h₀ := hide_ext A.keep fun a ha => (A.fresh a ha).1
theorem Act.reOk (A : Act P c g ρ M h) (O : c.Ok K n) : (c.re h M g).Ok K n :=
  ⟨O.room, O.wd.ext A.re_ext, O.kind, O.globals, O.builtins, O.loc, O.cells, O.cellOf, O.freeOf, O.locOf, fun x a e => (O.cellIn x a e).imp id fun ⟨o, ho⟩ => ⟨o, A.re_ext _ _ ho⟩⟩
theorem Act.re (A : Act P c g ρ M h) : Act P (c.re h M g) g ρ M h :=
  ⟨ext_hide, A.know, fun _ _ e => .inl e, A.ns, A.cell, A.mem, fun a ha => ⟨by show (hide _ _).get? a = none; rw [get_hide]; exact if_pos ha, (A.fresh a ha).2⟩, A.nodup, A.live⟩
theorem Act.unre (A : Act P c g ρ M h) (A' : Act P (c.re h M g) g' ρ' M' h') : Act P c g' ρ' M' h' := by
  have x := A.re_ext
  refine ⟨x.trans A'.keep, A'.know, fun a m e => ?_, A'.ns, A'.cell, A'.mem, fun a ha => ⟨none_of_ext x (A'.fresh a ha).1, (A'.fresh a ha).2⟩, A'.nodup, A'.live⟩
  rcases A'.old a m e with e | e
  · exact A.old a m e
  · exact .inr (none_of_ext x e)
/-- what stands outside is kept -/
structure Kept (c : Cx) (g : G) (M : Mem) (h : Heap) (b : Addr) (o : Obj) : Prop where
  get : h.get? b = some o
  out : b ∉ c.own ++ M.map (·.1)
theorem Kept.re {b : Addr} {o : Obj} (k : Kept c g M h b o) : (c.re h M g).h₀.get? b = some o := by
  show (hide _ _).get? b = _
  rw [get_hide, if_neg k.out]; exact k.get
theorem Kept.after {b : Addr} {o : Obj} (k : Kept c g M h b o) (A' : Act P (c.re h M g) g' ρ' M' h') : Kept c g' M' h' b o :=
  ⟨A'.keep _ _ k.re, fun q => by have := (A'.fresh b q).1; rw [k.re] at this; cases this⟩
theorem Kept.noneAfter {b : Addr} {o : Obj} (k : Kept c g M h b o) (hg : g b = none) (A' : Act P (c.re h M g) g' ρ' M' h') : g' b = none := by
  cases q : g' b with
  | none => rfl
  | some m =>
    rcases A'.old b m q with e | e
    · exact absurd (show g b = some m from e) (by rw [hg]; exact fun e => nomatch e)
    · rw [k.re] at e; cases e
/-- objects that none knows of are turned -/
theorem Act.outside {wr : List Addr} (A : Act P c g ρ M h) (O : c.Ok K n) (hk : ∀ b o, b ∉ wr → h.get? b = some o → h'.get? b = some o) (hw : ∀ b ∈ wr, c.h₀.get? b = none ∧ g b = none ∧ b ∉ c.own ++ M.map (·.1)) : Act P c g ρ M h' := by
  have k1 : ∀ b o, (c.h₀.get? b = some o ∨ (∃ m, g b = some m) ∨ b ∈ c.own ++ M.map (·.1)) → ∀ o, h.get? b = some o → h'.get? b = some o := fun b o hb o' e => hk b o' (fun q => by
    rcases hb with hb | ⟨m, hb⟩ | hb
    · rw [(hw b q).1] at hb; cases hb
    · rw [(hw b q).2.1] at hb; cases hb
    · exact (hw b q).2.2 hb) e
  refine ⟨fun b o e => k1 b o (.inl e) o (A.keep b o e), fun b m e => ?_, A.old, ?_, fun x b e => ?_, fun p hp => ?_, A.fresh, A.nodup, fun b hb => ?_⟩
  · obtain ⟨o, ho, hr⟩ := A.know b m e
    exact ⟨o, k1 b o (.inr (.inl ⟨m, e⟩)) o ho, hr⟩
  · obtain ⟨m, hm, e⟩ := A.ns
    exact ⟨m, hm.at' fun o ho => k1 _ o (.inr (.inr (List.mem_append_left _ O.loc))) o ho, e⟩
  · obtain ⟨o, ho, hd⟩ := A.cell x b e
    refine ⟨o, ?_, hd⟩
    rcases O.cellIn x b e with q | ⟨o', q⟩
    · exact k1 b o (.inr (.inr (List.mem_append_left _ q))) o ho
    · exact k1 b o' (.inl q) o ho
  · obtain ⟨o, ho, hr⟩ := A.mem p hp
    exact ⟨o, k1 _ o (.inr (.inr (List.mem_append_right _ (List.mem_map_of_mem hp)))) o ho, hr⟩
  · obtain ⟨o, ho⟩ := A.live b hb
    exact ⟨o, k1 b o (.inr (.inr (List.mem_append_left _ hb))) o ho⟩

/-- what is walked over -/
structure Itr (prog : Program) (w : World) (A : Around) (target : Expr) (I : Addr) (fp wr : List Addr) (m : Nat) (P : Nat → Value → Heap → Prop) (St : Nat → Heap → Prop) : Prop where
  sub : ∀ b ∈ wr, b ∈ fp
  frame : ∀ i h h', St i h → (∀ b ∈ fp, ∀ o, h.get? b = some o → h'.get? b = some o) → St i h'
  live : ∀ i h, St i h → ∀ b ∈ fp, ∃ o, h.get? b = some o
  turn : ∀ i s, i < m → St i s.heap → wpAny (model prog w) A (pyNext (.ref I)) (fun r s₁ => ∃ v, r = some v ∧ wpAny (model prog w) A (letOwnedTupleGo target (.ref I) v) (fun _ s₂ => St (i + 1) s₂.heap ∧ Rest s s₂ ∧
    (∀ b o, b ∉ wr → s.heap.get? b = some o → s₂.heap.get? b = some o) ∧ ∀ h', (∀ T o, s.heap.get? T = none → s₂.heap.get? T = some o → h'.get? T = some o) → P i v h') (fun _ _ => False) s₁) (fun _ _ => False) s
  done : ∀ s, St m s.heap → wpAny (model prog w) A (pyNext (.ref I)) (fun r s₁ => r = none ∧ Rest s s₁ ∧ ∀ b o, b ∉ wr → s.heap.get? b = some o → s₁.heap.get? b = some o) (fun _ _ => False) s
  self : ∀ i s, St i s.heap → wpAny (model prog w) A (pyIter (.ref I)) (fun r s₁ => r = .ref I ∧ s₁ = s) (fun _ _ => False) s

theorem Itr.ofWalks {A : Around} {target : Expr} {I : Addr} {fp wr : List Addr} {m : Nat} {P : Nat → Value → Prop} {St : Nat → Heap → Prop} (W : Walks prog w A I fp wr m P St) (hl : ∀ i h, St i h → ∀ b ∈ fp, ∃ o, h.get? b = some o)
    (hgo : ∀ i v (s : Shared) (Q : Unit → Shared → Prop) (E : Value → Shared → Prop), St i s.heap → Q () s → wpAny (model prog w) A (letOwnedTupleGo target (.ref I) v) Q E s) : Itr prog w A target I fp wr m (fun i v _ => P i v) St where
  sub := W.sub
  frame := W.frame
  live := hl
  turn := fun i s hi st => W.item i s _ _ hi st fun v h' tk hP st' hk => ⟨v, rfl, hgo (i + 1) v _ _ _ st' ⟨st', ⟨rfl, rfl, rfl⟩, hk, fun _ _ => hP⟩⟩
  done := fun s st => W.done s _ _ st fun h' tk hk => ⟨rfl, ⟨rfl, rfl, rfl⟩, hk⟩
  self := fun i s st => W.self i s _ _ st ⟨rfl, rfl⟩
theorem Itr.ofWalksT {A : Around} {elts : List Expr} {k : Nat} {I : Addr} {fp wr : List Addr} {m : Nat} {Pt : Nat → Array Value → Prop} {St : Nat → Heap → Prop} {Mid : Nat → Addr → Heap → Prop} (W : WalksT prog w A I fp wr m Pt St Mid) (hl : ∀ i h, St i h → ∀ b ∈ fp, ∃ o, h.get? b = some o) :
    Itr prog w A (.Tuple elts k pos) I fp wr m (fun i v h => ∃ T vals, v = .ref T ∧ Pt i vals ∧ h.IsTuple T vals) St where
  sub := W.sub
  frame := W.frame
  live := hl
  turn := fun i s hi st => W.item i s _ _ hi st fun T vals h' tk hP hn hT hm hk => ⟨.ref T, rfl, W.go elts k pos i T _ _ _ hm fun h2 st2 hk2 =>
    ⟨st2, ⟨rfl, rfl, rfl⟩, fun b o hb e => hk2 b o hb (hk b o hb e), fun h3 x => ⟨T, vals, rfl, hP, hT.at fun o e => x T o (by
      cases q : s.heap.get? T with
      | none => rfl
      | some o => exact absurd (Heap.lt_size q) (Nat.not_lt.mpr hn)) (hk2 T o (W.apart i T _ hm) e)⟩⟩⟩
  done := fun s st => W.done s _ _ st fun h' tk hk => ⟨rfl, ⟨rfl, rfl, rfl⟩, hk⟩
  self := fun i s st => W.self i s _ _ st ⟨rfl, rfl⟩

/-- a value over which is walked: pyIter makes an iterator of it, out of what none else knows -/
def Seqs (prog : Program) (w : World) (c : Cx) (target : Expr) (xv : Value) (g : G) (ρ : Str → Option Value) (M : Mem) (k : Nat → (Nat → Value → Heap → Prop) → Mem → Prop) : Prop :=
  ∃ m P M', k m P M' ∧ ∀ s, Act w.params c g ρ M s.heap → wpAny (model prog w) c.A (pyIter xv) (fun it s' => ∃ I fp wr St, it = .ref I ∧ Itr prog w c.A target I fp wr m P St ∧ St 0 s'.heap ∧ Act w.params c g ρ M' s'.heap ∧ Rest s s' ∧
    (∀ b ∈ wr, c.h₀.get? b = none ∧ g b = none) ∧ ∀ b ∈ fp, b ∉ c.own ++ M'.map (·.1)) (fun _ _ => False) s
theorem Seqs.mono {target : Expr} {xv : Value} {k k' : Nat → (Nat → Value → Heap → Prop) → Mem → Prop} (h : Seqs prog w c target xv g ρ M k) (hk : ∀ m P M', k m P M' → k' m P M') : Seqs prog w c target xv g ρ M k' :=
  let ⟨m, P, M', a, b⟩ := h; ⟨m, P, M', hk _ _ _ a, b⟩

/-- one turn's state of a walk -/
structure Walking (prog : Program) (w : World) (c : Cx) (St : Nat → Heap → Prop) (fp wr : List Addr) (Inv : Nat → G → (Str → Option Value) → Mem → Prop) (g₀ : G) (s₀ : Shared) (m i : Nat) (s : Shared) : Prop where
  hi : i ≤ m
  st : St i s.heap
  rest : Rest s₀ s
  act : ∃ g ρ M, Act w.params c g ρ M s.heap ∧ Le g₀ g ∧ Inv i g ρ M ∧ (∀ b ∈ wr, c.h₀.get? b = none ∧ g b = none) ∧ ∀ b ∈ fp, b ∉ c.own ++ M.map (·.1)

theorem fresh_new {h : Heap} {b : Addr} (A : Act P c g ρ M h) (hb : h.get? b = none) : c.h₀.get? b = none ∧ g b = none ∧ b ∉ c.own ++ M.map (·.1) := by
  refine ⟨none_of_ext A.keep hb, ?_, fun q => ?_⟩
  · cases q : g b with
    | none => rfl
    | some m => obtain ⟨o, ho, _⟩ := A.know b m q; rw [hb] at ho; cases ho
  · rcases List.mem_append.mp q with q | q
    · obtain ⟨o, ho⟩ := A.live b q; rw [hb] at ho; cases ho
    · obtain ⟨p, hp, rfl⟩ := List.mem_map.mp q
      obtain ⟨o, ho, _⟩ := A.mem p hp; rw [hb] at ho; cases ho

/-- for: each turn is done in a context that stands where the turn begins -/
theorem T.for_ {target iter : Expr} {body : List Stmt} {l : List (Str × NameKind)} {Q : Post Flow} (O : c.Ok K n) (W : c.Own) (hS : c.env.scope.names = l) (hs : ∀ x, foldedSetIterable iter c.env x = Pure.pure x)
    (h : T prog w c (eval iter c.env) (fun xv g ρ M => Seqs prog w c target xv g ρ M fun m P M' => ∃ Inv : Nat → G → (Str → Option Value) → Mem → Prop, Inv 0 g ρ M' ∧
      (∀ c' : Cx, c'.Ok K n → c'.Own → c'.env.scope.names = l → ∀ i v g' ρ M, i < m → P i v c'.h₀ → Le g g' → Inv i g' ρ M → T prog w c' (assign target c'.env v) (fun _ g ρ M => T prog w c' (execs body c'.env) (fun fl g ρ M => match fl with
        | .next => Inv (i + 1) g ρ M | .cont => Inv (i + 1) g ρ M | .ret v => Q (.ret v) g ρ M | .brk => Q .next g ρ M) g ρ M) g' ρ M) ∧
      ∀ g' ρ M, Le g g' → Inv m g' ρ M → Q .next g' ρ M) g ρ M) :
    T prog w c (exec (.For target iter body [] pos) c.env) Q g ρ M := fun s hA => by
  refine wpAny_For (wpAny_mono (h s hA) (fun xv s₁ ⟨g₁, ρ₁, M₁, A₁, r₁, l₁, m, P, M', ⟨Inv, h0, step, fin⟩, hseq⟩ => ?_) fun _ _ e => e.elim) hs
  refine wpAny_mono (hseq s₁ A₁) (fun it s₂ ⟨I, fp, wr, St, e, W', st, A₂, r₂, hwr, hfp⟩ => ?_) fun _ _ e => e.elim
  subst e
  refine codeAny_mono (codeAny_forLoop_any (R := fun r s' => ∃ f, r = .ok f ∧ ∃ g' ρ' M', Act w.params c g' ρ' M' s'.heap ∧ Rest s₂ s' ∧ Le g₁ g' ∧ Q f g' ρ' M')
    (fun k s' => ∃ i, k = m + 1 - i ∧ Walking prog w c St fp wr Inv g₁ s₂ m i s') ?_ (m + 1) ⟨0, rfl, Nat.zero_le _, st, .refl _, g₁, ρ₁, M', A₂, .refl _, h0, hwr, hfp⟩) fun r s' ⟨f, e, g', ρ', M', A', rr, ll, q⟩ => ?_
  · rintro k s₃ ⟨i, rfl, hi, st₃, rs₃, g₃, ρ₃, M₃, A₃, l₃, inv, hwr₃, hfp₃⟩
    have hw : ∀ b ∈ wr, c.h₀.get? b = none ∧ g₃ b = none ∧ b ∉ c.own ++ M₃.map (·.1) := fun b hb => ⟨(hwr₃ b hb).1, (hwr₃ b hb).2, hfp₃ b (W'.sub b hb)⟩
    by_cases hlt : i < m
    · refine wpAny_mono (W'.turn i s₃ hlt st₃) (fun r s₄ ⟨v, e, hg⟩ => ?_) fun _ _ e => e.elim
      subst e
      refine wpAny_mono hg (fun _ s₅ ⟨st₅, r₅, hk₅, hP₅⟩ => ?_) fun _ _ e => e.elim
      have A₅ : Act w.params c g₃ ρ₃ M₃ s₅.heap := A₃.outside O hk₅ hw
      have kf : ∀ b ∈ fp, ∃ o, Kept c g₃ M₃ s₅.heap b o := fun b hb => let ⟨o, ho⟩ := W'.live _ _ st₅ b hb; ⟨o, ho, hfp₃ b hb⟩
      have hPre : P i v (c.re s₅.heap M₃ g₃).h₀ := hP₅ _ fun T o hn e => (⟨e, (fresh_new A₃ hn).2.2⟩ : Kept c g₃ M₃ s₅.heap T o).re
      have key := step (c.re s₅.heap M₃ g₃) (A₅.reOk O) W hS i v g₃ ρ₃ M₃ hlt hPre l₃ inv s₅ A₅.re
      refine wpAny_mono key (fun _ s₆ ⟨g₆, ρ₆, M₆, A₆, r₆, l₆, t⟩ => ?_) fun _ _ e => e.elim
      refine wpAny_mono (t s₆ A₆) (fun fl s₇ ⟨g₇, ρ₇, M₇, A₇, r₇, l₇, q⟩ => ?_) fun _ _ e => e.elim
      have B := A₅.unre A₇
      have rs : Rest s₂ s₇ := ((rs₃.trans r₅).trans r₆).trans r₇
      have ll : Le g₁ g₇ := l₃.trans (l₆.trans l₇)
      have again : Inv (i + 1) g₇ ρ₇ M₇ → ∃ j, j < m + 1 - i ∧ ∃ i, j = m + 1 - i ∧ Walking prog w c St fp wr Inv g₁ s₂ m i s₇ := fun q =>
        ⟨m + 1 - (i + 1), by omega, i + 1, rfl, hlt, W'.frame _ _ _ st₅ (fun b hb o e => by
          obtain ⟨o', k⟩ := kf b hb
          rw [k.get] at e; cases e
          exact (k.after A₇).get), rs, g₇, ρ₇, M₇, B, ll, q, fun b hb => ⟨(hwr₃ b hb).1, (kf b (W'.sub b hb)).elim fun o k => k.noneAfter (hwr₃ b hb).2 A₇⟩, fun b hb => (kf b hb).elim fun o k => (k.after A₇).out⟩
      cases fl with
      | next => exact again q
      | cont => exact again q
      | brk => exact ⟨_, rfl, g₇, ρ₇, M₇, B, rs, ll, q⟩
      | ret v => exact ⟨_, rfl, g₇, ρ₇, M₇, B, rs, ll, q⟩
    · have hin : i = m := by omega
      subst hin
      refine wpAny_mono (W'.done s₃ st₃) (fun r s₄ ⟨e, r₄, hk⟩ => ?_) fun _ _ e => e.elim
      subst e
      exact wpAny_execs_nil ⟨_, rfl, g₃, ρ₃, M₃, A₃.outside O hk hw, rs₃.trans r₄, l₃, fin g₃ ρ₃ M₃ l₃ inv⟩
  · subst e
    exact ⟨g', ρ', M', A', (r₁.trans r₂).trans rr, l₁.trans ll, q⟩
end
end Mine

namespace Mine

def relab (l names : List (Str × NameKind)) : List (Str × NameKind) := names.map fun p => if (p.2 == .free && l.lookup p.1 == some .cell) then (p.1, .cell) else (p.1, p.2)
theorem relab_lookup {l : List (Str × NameKind)} {x : Str} {k : NameKind} : ∀ {names : List (Str × NameKind)}, (relab l names).lookup x = some k → ∃ k', names.lookup x = some k' ∧ (k = k' ∨ (k' = .free ∧ k = .cell))
  | [], h => by cases h
  | (y, k₀) :: r, h => by
    have ih := @relab_lookup l x k r
    have e : relab l ((y, k₀) :: r) = (if (k₀ == .free && l.lookup y == some .cell) then (y, NameKind.cell) else (y, k₀)) :: relab l r := rfl
    rw [e] at h
    cases q : x == y with
    | true =>
      refine ⟨k₀, by rw [List.lookup_cons, q], ?_⟩
      split at h
      · rename_i z
        rw [List.lookup_cons, q] at h
        simp only [Bool.and_eq_true, beq_iff_eq] at z
        exact .inr ⟨z.1, (Option.some.inj h).symm⟩
      · rw [List.lookup_cons, q] at h
        exact .inl (Option.some.inj h).symm
    | false =>
      rw [List.lookup_cons, q]
      split at h <;> (rw [List.lookup_cons, q] at h; exact ih h)

theorem closure_go {env : Env} (f : Str × NameKind → List (Str × Addr) → Sem (ForInStep (List (Str × Addr)))) (hf : ∀ x k acc, f (x, k) acc = if (k == NameKind.free) = true then (do let a ← cellOf env x; pure (.yield ((x, a) :: acc))) else pure (.yield acc)) :
    ∀ (names : List (Str × NameKind)) (acc : List (Str × Addr)), (∀ x, (x, NameKind.free) ∈ names → ∃ a, env.cells.lookup x = some a) →
      ∃ cl, forIn names acc f = (pure cl : Sem _) ∧ (∀ x a, (x, a) ∈ cl → (x, a) ∈ acc ∨ ((x, NameKind.free) ∈ names ∧ env.cells.lookup x = some a)) ∧ ∀ x, ((x, NameKind.free) ∈ names ∨ ∃ a, (x, a) ∈ acc) → ∃ a, (x, a) ∈ cl
  | [], acc, _ => ⟨acc, by simp, fun _ _ h => .inl h, fun x h => h.elim (fun h => nomatch h) id⟩
  | (y, k) :: r, acc, h => by
    rw [List.forIn_cons, hf]
    by_cases hk : k = .free
    · subst hk
      obtain ⟨a, ha⟩ := h y (.head _)
      obtain ⟨cl, e, h1, h2⟩ := closure_go f hf r ((y, a) :: acc) fun x hx => h x (.tail _ hx)
      refine ⟨cl, ?_, fun x b hb => ?_, fun x hx => h2 x ?_⟩
      · rw [if_pos (by decide), cellOf, ha]
        exact e
      · rcases h1 x b hb with q | q
        · rcases List.mem_cons.mp q with q | q
          · cases q; exact .inr ⟨.head _, ha⟩
          · exact .inl q
        · exact .inr ⟨.tail _ q.1, q.2⟩
      · rcases hx with hx | ⟨b, hb⟩
        · rcases List.mem_cons.mp hx with q | q
          · cases q; exact .inr ⟨a, .head _⟩
          · exact .inl q
        · exact .inr ⟨b, .tail _ hb⟩
    · obtain ⟨cl, e, h1, h2⟩ := closure_go f hf r acc fun x hx => h x (.tail _ hx)
      refine ⟨cl, ?_, fun x b hb => (h1 x b hb).imp id fun q => ⟨.tail _ q.1, q.2⟩, fun x hx => h2 x ?_⟩
      · rw [if_neg (by simpa using hk)]
        exact e
      · refine hx.imp (fun hx => ?_) id
        rcases List.mem_cons.mp hx with q | q
        · cases q; exact absurd rfl hk
        · exact q
theorem closure_of {scope : Scope} {env : Env} (h : ∀ x, (x, NameKind.free) ∈ scope.names → ∃ a, env.cells.lookup x = some a) :
    ∃ cl, closureFor scope env = pure cl ∧ (∀ x a, cl.lookup x = some a → (x, NameKind.free) ∈ scope.names ∧ env.cells.lookup x = some a) ∧ ∀ x, (x, NameKind.free) ∈ scope.names → ∃ a, cl.lookup x = some a := by
  obtain ⟨cl, e, h1, h2⟩ := closure_go (env := env) (fun (p : Str × NameKind) acc => if (p.2 == NameKind.free) = true then (do let a ← cellOf env p.1; pure (.yield ((p.1, a) :: acc))) else pure (.yield acc)) (fun x k acc => rfl) scope.names [] h
  refine ⟨cl, ?_, fun x a ha => (h1 x a (mem_of_lookup ha)).elim (fun q => nomatch q) id, fun x hx => ?_⟩
  · have e' : closureFor scope env = (forIn scope.names [] fun (p : Str × NameKind) acc => if (p.2 == NameKind.free) = true then (do let a ← cellOf env p.1; pure (.yield ((p.1, a) :: acc))) else pure (.yield acc)) >>= fun r => pure r := by
      rfl
    rw [e', e]; rfl
  · obtain ⟨a, ha⟩ := h2 x (.inl hx)
    cases q : cl.lookup x with
    | some b => exact ⟨b, rfl⟩
    | none =>
      exfalso
      have : ∀ (l : List (Str × Addr)), (x, a) ∈ l → l.lookup x ≠ none := by
        intro l
        induction l with
        | nil => intro h; cases h
        | cons p r ih =>
          intro h
          obtain ⟨y, b⟩ := p
          rw [List.lookup_cons]
          cases z : x == y with
          | true => exact fun e => nomatch e
          | false =>
            rcases List.mem_cons.mp h with h | h
            · cases h; simp at z
            · exact ih h
      exact this cl ha q

def compOk (sc : Scope) : Bool := sc.kind == .function && (sc.names.all fun p => decide (p.2 ≠ .cell)) && decide (sc.names.map (·.1)).Nodup
def tests (ifs : List Expr) (env : Env) : Sem Bool := forIn ifs true fun c r => if r = true then do let ok ← isTrue c env (eval c env); pure (ForInStep.yield ok) else pure (ForInStep.yield r)

section
variable {prog : Program} {w : World} {α β : Type} {c : Cx} {g g' : G} {ρ ρ' : Str → Option Value} {M M' : Mem} {K : Frag} {n : Nat} {pos apos : Pos} {P : Params} {h h' : Heap} {l : List (Str × NameKind)}

theorem relabel_names (O : c.Ok K n) (hS : c.env.scope.names = l) (sc : Scope) : (relabel sc c.env).names = relab l sc.names := by
  unfold relabel relab
  simp only
  refine List.map_congr_left fun p _ => ?_
  obtain ⟨x, k⟩ := p
  have e1 : (c.env.scope.kind == ScopeKind.function) = true := by rw [O.kind]; rfl
  have e2 : c.env.kindOf x = l.lookup x := by rw [Env.kindOf, hS]
  simp only [e1, e2, Bool.and_true]

theorem T.tests_nil {Q : Post Bool} (h : Q true g ρ M) : T prog w c (tests [] c.env) Q g ρ M := T.pure h
theorem T.tests_one {e : Expr} {Q : Post Bool} (h : T prog w c (isTrue e c.env (eval e c.env)) Q g ρ M) : T prog w c (tests [e] c.env) Q g ρ M := fun s hA => wpAny_tests_one (h s hA)

def Cx.comp (c : Cx) (sc : Scope) (cl : List (Str × Addr)) (C : Addr) (h : Heap) (wr : List Addr) (M : Mem) (g : G) : Cx := ⟨c.A, compEnvC sc cl C c.env, [C], hide h (C :: wr ++ M.map (·.1)), g⟩
def cutR (l : List (Str × NameKind)) (ρ : Str → Option Value) : Str → Option Value := fun x => if (l.lookup x == some .local) = true then none else ρ x

structure CompIn (K : Frag) (n : Nat) (c : Cx) (sc : Scope) (cl : List (Str × Addr)) (C : Addr) (h : Heap) (wr : List Addr) (g : G) (M : Mem) (l : List (Str × NameKind)) : Prop where
  ok : c.Ok K n
  names : c.env.scope.names = l
  co : compOk sc = true
  cl1 : ∀ x a, cl.lookup x = some a → (x, NameKind.free) ∈ sc.names ∧ c.env.cells.lookup x = some a
  cl2 : ∀ x, (x, NameKind.free) ∈ sc.names → ∃ a, cl.lookup x = some a
  wr : ∀ b ∈ wr, c.h₀.get? b = none ∧ g b = none ∧ b ∉ c.own ++ M.map (·.1)
  C0 : c.h₀.get? C = none ∧ g C = none ∧ C ∉ c.own ++ M.map (·.1)
  ns : h.Ns C (fun _ => none)

section
variable {sc : Scope} {cl : List (Str × Addr)} {C : Addr} {wr : List Addr}
theorem CompIn.keep (I : CompIn K n c sc cl C h wr g M l) (A : Act P c g ρ M h) {b : Addr} {o : Obj} (e : h.get? b = some o) (hb : b ≠ C) (h2 : b ∉ wr) (h3 : b ∉ M.map (·.1)) : (c.comp sc cl C h wr M g).h₀.get? b = some o := by
  show (hide _ _).get? b = _
  rw [get_hide, if_neg ?_]
  · exact e
  · intro q
    rcases List.mem_append.mp q with q | q
    · rcases List.mem_cons.mp q with q | q
      · exact hb q
      · exact h2 q
    · exact h3 q
theorem CompIn.ext (I : CompIn K n c sc cl C h wr g M l) (A : Act P c g ρ M h) : Ext c.h₀ (c.comp sc cl C h wr M g).h₀ := fun b o e =>
  I.keep A (A.keep b o e) (fun q => by rw [q, I.C0.1] at e; cases e) (fun q => by rw [(I.wr b q).1] at e; cases e) fun q => by rw [(A.fresh b (List.mem_append_right _ q)).1] at e; cases e
theorem CompIn.own (I : CompIn K n c sc cl C h wr g M l) (A : Act P c g ρ M h) {a : Addr} (ha : a ∈ c.own) : ∃ o, h.get? a = some o ∧ (c.comp sc cl C h wr M g).h₀.get? a = some o := by
  obtain ⟨o, ho⟩ := A.live a ha
  exact ⟨o, ho, I.keep A ho (fun q => I.C0.2.2 (q ▸ List.mem_append_left _ ha)) (fun q => (I.wr a q).2.2 (List.mem_append_left _ ha)) fun q => (List.nodup_append.mp A.nodup).2.2 a ha a q rfl⟩
theorem CompIn.cell (I : CompIn K n c sc cl C h wr g M l) (A : Act P c g ρ M h) {x : Str} {a : Addr} (e : c.env.cells.lookup x = some a) : ∃ o, h.get? a = some o ∧ (c.comp sc cl C h wr M g).h₀.get? a = some o := by
  rcases I.ok.cellIn x a e with q | ⟨o, q⟩
  · exact I.own A q
  · exact ⟨o, A.keep a o q, I.ext A a o q⟩
theorem CompIn.kinds (I : CompIn K n c sc cl C h wr g M l) : (c.comp sc cl C h wr M g).env.scope.names = relab l sc.names := relabel_names I.ok I.names sc
theorem CompIn.nd (I : CompIn K n c sc cl C h wr g M l) : sc.kind = .function ∧ (∀ y ∈ sc.names, y.2 ≠ .cell) ∧ (sc.names.map (·.1)).Nodup := by
  have := I.co
  unfold compOk at this
  simp only [Bool.and_eq_true, beq_iff_eq, List.all_eq_true, decide_eq_true_eq] at this
  exact ⟨this.1.1, this.1.2, this.2⟩
theorem CompIn.freeIn (I : CompIn K n c sc cl C h wr g M l) {x : Str} {k : NameKind} (e : (c.comp sc cl C h wr M g).env.kindOf x = some k) : ∃ k', (x, k') ∈ sc.names ∧ (k = k' ∨ (k' = .free ∧ k = .cell)) := by
  rw [Env.kindOf, I.kinds] at e
  obtain ⟨k', a, b⟩ := relab_lookup e
  exact ⟨k', mem_of_lookup a, b⟩
theorem CompIn.Ok (I : CompIn K n c sc cl C h wr g M l) (A : Act P c g ρ M h) : (c.comp sc cl C h wr M g).Ok K n where
  room := I.ok.room
  wd := I.ok.wd.ext (I.ext A)
  kind := I.nd.1
  globals := I.ok.globals
  builtins := I.ok.builtins
  loc := .head _
  cells := fun x a e => by
    have ea := (I.cl1 x a e).2
    refine ⟨fun q => ?_, fun y b e' hy => ?_⟩
    · have q' : a = C := q
      rcases I.ok.cellIn x a ea with z | ⟨o, z⟩
      · exact I.C0.2.2 (q' ▸ List.mem_append_left _ z)
      · rw [q', I.C0.1] at z; cases z
    · exact (I.ok.cells x a ea).2 y b (I.cl1 y b e').2 hy
  cellOf := fun x e => by
    obtain ⟨k', hm, hk⟩ := I.freeIn e
    rcases hk with rfl | ⟨rfl, _⟩
    · exact absurd rfl (I.nd.2.1 _ hm)
    · exact I.cl2 x hm
  freeOf := fun x e => by
    obtain ⟨k', hm, hk⟩ := I.freeIn e
    rcases hk with rfl | ⟨_, hk⟩
    · exact I.cl2 x hm
    · cases hk
  locOf := fun x e => by
    obtain ⟨k', hm, hk⟩ := I.freeIn e
    rcases hk with rfl | ⟨_, hk⟩
    · cases q : cl.lookup x with
      | none => exact q
      | some a =>
        have := (I.cl1 x a q).1
        have e1 := kind_mem I.nd.2.2 hm
        have e2 := kind_mem I.nd.2.2 this
        rw [e1] at e2; cases e2
    · cases hk
  cellIn := fun x a e => .inr (let ⟨o, _, z⟩ := I.cell A (I.cl1 x a e).2; ⟨o, z⟩)
theorem CompIn.act (I : CompIn K n c sc cl C h wr g M l) (A : Act P c g ρ M h) : Act P (c.comp sc cl C h wr M g) g (cutR (relab l sc.names) ρ) M h where
  keep := ext_hide
  know := A.know
  old := fun _ _ e => .inl e
  ns := ⟨_, I.ns, fun x e => by
    have e' : (relab l sc.names).lookup x = some .local := by rw [← I.kinds]; exact e
    unfold cutR
    rw [e']; rfl⟩
  cell := fun x a e => by
    have := A.cell x a (I.cl1 x a e).2
    unfold cutR
    rw [if_neg ?_]
    · exact this
    · intro q
      have e' : (c.comp sc cl C h wr M g).env.kindOf x = some .local := by rw [Env.kindOf, I.kinds]; simpa using q
      have := (I.Ok A).locOf x e'
      rw [show (c.comp sc cl C h wr M g).env.cells.lookup x = some a from e] at this; cases this
  mem := A.mem
  fresh := fun a ha => by
    refine ⟨?_, ?_⟩
    · show (hide _ _).get? a = none
      rw [get_hide, if_pos ?_]
      rcases List.mem_append.mp ha with q | q
      · rw [List.mem_singleton.mp q]; exact .head _
      · exact List.mem_append_right _ q
    · rcases List.mem_append.mp ha with q | q
      · rw [List.mem_singleton.mp q]; exact I.C0.2.1
      · exact (A.fresh a (List.mem_append_right _ q)).2
  nodup := List.nodup_cons.mpr ⟨fun q => I.C0.2.2 (List.mem_append_right _ q), (List.nodup_append.mp A.nodup).2.1⟩
  live := fun a ha => by
    rw [List.mem_singleton.mp ha]
    obtain ⟨o, _, _, ho, _⟩ := I.ns
    exact ⟨o, ho⟩
theorem CompIn.back (I : CompIn K n c sc cl C h wr g M l) (A : Act P c g ρ M h) (A' : Act P (c.comp sc cl C h wr M g) g' ρ' M' h') : Act P c g' ρ M' h' where
  keep := (I.ext A).trans A'.keep
  know := A'.know
  old := fun a m e => by
    rcases A'.old a m e with e | e
    · exact A.old a m e
    · exact .inr (none_of_ext (I.ext A) e)
  ns := by
    obtain ⟨m, hm, e⟩ := A.ns
    refine ⟨m, hm.at' fun o ho => ?_, e⟩
    obtain ⟨o', ho', z⟩ := I.own A I.ok.loc
    rw [ho] at ho'; cases ho'
    exact A'.keep _ _ z
  cell := fun x a e => by
    obtain ⟨o, ho, hd⟩ := A.cell x a e
    obtain ⟨o', ho', z⟩ := I.cell A e
    rw [ho] at ho'; cases ho'
    exact ⟨o, A'.keep _ _ z, hd⟩
  mem := A'.mem
  fresh := fun a ha => by
    rcases List.mem_append.mp ha with q | q
    · refine ⟨(A.fresh a (List.mem_append_left _ q)).1, ?_⟩
      obtain ⟨o, _, z⟩ := I.own A q
      cases y : g' a with
      | none => rfl
      | some m =>
        rcases A'.old a m y with e | e
        · rw [show (c.comp sc cl C h wr M g).ge a = g a from rfl, (A.fresh a (List.mem_append_left _ q)).2] at e; cases e
        · rw [z] at e; cases e
    · have := A'.fresh a (List.mem_append_right _ q)
      exact ⟨none_of_ext (I.ext A) this.1, this.2⟩
  nodup := by
    refine List.nodup_append.mpr ⟨(List.nodup_append.mp A.nodup).1, (List.nodup_append.mp A'.nodup).2.1, fun a ha b hb q => ?_⟩
    obtain ⟨o, _, z⟩ := I.own A ha
    have := (A'.fresh b (List.mem_append_right _ hb)).1
    rw [← q, z] at this; cases this
  live := fun a ha => let ⟨o, _, z⟩ := I.own A ha; ⟨o, A'.keep _ _ z⟩
/-- names that are no variable of the comprehension keep their value -/
theorem CompIn.recut (I : CompIn K n c sc cl C h wr g M l) (A : Act P c g ρ M h) (A' : Act P (c.comp sc cl C h wr M g) g' ρ' M' h') :
    Act P (c.comp sc cl C h wr M g) g' (fun x => if ((relab l sc.names).lookup x == some .local) = true then ρ' x else ρ x) M' h' where
  keep := A'.keep
  know := A'.know
  old := A'.old
  ns := by
    obtain ⟨m, hm, e⟩ := A'.ns
    refine ⟨m, hm, fun x hx => ?_⟩
    have : (relab l sc.names).lookup x = some .local := by rw [← I.kinds]; exact hx
    rw [this]
    exact e x hx
  cell := fun x a e => by
    have := (I.back A A').cell x a (I.cl1 x a e).2
    rw [if_neg ?_]
    · exact this
    · intro q
      have e' : (c.comp sc cl C h wr M g).env.kindOf x = some .local := by rw [Env.kindOf, I.kinds]; simpa using q
      have := (I.Ok A).locOf x e'
      rw [show (c.comp sc cl C h wr M g).env.cells.lookup x = some a from e] at this; cases this
  mem := A'.mem
  fresh := A'.fresh
  nodup := A'.nodup
  live := A'.live
end
end
end Mine

namespace Mine

section
variable {prog : Program} {w : World} {A : Around} {R : Result → Shared → Prop} {s : Shared}

def isComp : Expr → Bool | .ListComp .. => true | .DictComp .. => true | _ => false
theorem codeAny_compStartG {e : Expr} {gc : Comprehension} {it acc : Value} {env : Env} (he : isComp e = true) (hcl : clausesOf e = [gc]) (ha : gc.is_async = 0) (h0 : codeAny (model prog w) A (.compLoop e 0 it acc env) R s)
    (h : wpAny (model prog w) A (pyIter it) (fun it' s' => codeAny (model prog w) A (.compLoop e 0 it' acc env) R s') (fun _ _ => False) s) :
    codeAny (model prog w) A (.compStart e 0 it acc env) R s := by
  refine codeAny_of_tree ?_
  have hd : (model prog w).den (.compStart e 0 it acc env) = (compStart e 0 it acc env).onRaise (fun x => do noteFrame x env; standAt theWindowsPlace) := by cases e <;> first | rfl | cases he
  have hu : A.under (.compStart e 0 it acc env) = A := by cases e <;> first | rfl | cases he
  rw [hd, hu]
  refine wpAny_notedAt ?_
  unfold compStart
  rw [hcl]
  have e1 : ((([gc] : List Comprehension)[0]?).elim false (·.is_async != 0)) = false := by show (gc.is_async != 0) = false; rw [ha]; rfl
  rw [e1]
  show wpAny _ A (ask >>= _) _ _ s
  refine wpAny_bind (wpAny_askSetting (wpAny_ite ?_))
  split
  · exact wpAny_pure (And.intro rfl h0)
  · refine wpAny_bind (wpAny_rule ?_)
    show wpAny _ _ (standAt gc.iter.pos >>= _) _ _ s
    exact wpAny_bind (wpAny_standAt (wpAny_bind (wpAny_mono h (fun it' s' h' => wpAny_pure (And.intro rfl h')) fun _ _ x => x.elim)))

theorem codeAny_compLoopG {e target iter : Expr} {ifs : List Expr} {emit : Sem Unit} {it acc : Value} {env : Env}
    (he : isComp e = true) (hturn : compTurn e 0 it acc env = (standAt iter.pos >>= fun _ => pyNext it >>= fun r => match r with
      | none => pure (.done .next)
      | some v => letOwnedTupleGo target it v >>= fun _ => assign target env v >>= fun _ => tests ifs env >>= fun ok => (if ok = true then emit else pure ()) >>= fun _ => again (.compLoop e 0 it acc env)))
    (I : Nat → Shared → Prop)
    (turn : ∀ n s, I n s → wpAny (model prog w) A (pyNext it) (fun r s₁ => match r with
      | none => R (.ok .next) s₁
      | some v => wpAny (model prog w) A (letOwnedTupleGo target it v) (fun _ s₁' => wpAny (model prog w) A (assign target env v) (fun _ s₂ => wpAny (model prog w) A (tests ifs env) (fun ok s₃ =>
            if ok = true then wpAny (model prog w) A emit (fun _ s₅ => ∃ m, m < n ∧ I m s₅) (fun _ _ => False) s₃ else ∃ m, m < n ∧ I m s₃) (fun _ _ => False) s₂) (fun _ _ => False) s₁') (fun _ _ => False) s₁) (fun _ _ => False) s)
    (n : Nat) (h : I n s) : codeAny (model prog w) A (.compLoop e 0 it acc env) R s := by
  refine codeAny_loop rfl I (fun n s hI => ?_) n h
  have hd : (model prog w).den (.compLoop e 0 it acc env) = (compTurn e 0 it acc env).onRaise (fun x => do noteFrame x env; theTreesLotGoes x) := by cases e <;> first | rfl | cases he
  have hu : A.under (.compLoop e 0 it acc env) = A := by cases e <;> first | rfl | cases he
  rw [hd, hu]
  refine wpAny_noted ?_
  rw [hturn]
  refine wpAny_bind (wpAny_standAt (wpAny_bind (wpAny_mono (turn n s hI) (fun r s₁ h₁ => ?_) fun _ _ h' => h'.elim)))
  cases r with
  | none => exact wpAny_pure h₁
  | some v =>
    refine wpAny_bind (wpAny_mono h₁ (fun _ s₁' h₁' => ?_) fun _ _ h' => h'.elim)
    refine wpAny_bind (wpAny_mono h₁' (fun _ s₂ h₂ => wpAny_bind (wpAny_mono h₂ (fun ok s₃ h₃ => ?_) fun _ _ h' => h'.elim)) fun _ _ h' => h'.elim)
    cases ok with
    | false => exact wpAny_bind (wpAny_pure (wpAny_pure ⟨rfl, h₃⟩))
    | true => exact wpAny_bind (wpAny_mono h₃ (fun _ s₅ h₅ => wpAny_pure ⟨rfl, h₅⟩) fun _ _ h' => h'.elim)
end

section
variable {prog : Program} {w : World} {α β : Type} {c : Cx} {g g' : G} {ρ ρ' : Str → Option Value} {M M' : Mem} {K : Frag} {n : Nat} {pos apos : Pos} {P : Params} {h h' : Heap} {l : List (Str × NameKind)}

theorem Act.ext (A : Act P c g ρ M h) (x : Ext h h') : Act P c g ρ M h' :=
  ⟨A.keep.trans x, A.know.ext x, A.old, let ⟨m, a, b⟩ := A.ns; ⟨m, a.keeps x, b⟩, fun y a e => (A.cell y a e).keeps x, fun p hp => let ⟨o, a, b⟩ := A.mem p hp; ⟨o, x _ _ a, b⟩, A.fresh, A.nodup, fun a ha => let ⟨o, b⟩ := A.live a ha; ⟨o, x _ _ b⟩⟩

def freeOk (l names : List (Str × NameKind)) : Bool := names.all fun p => p.2 != .free || (l.lookup p.1 == some .cell || l.lookup p.1 == some .free)

def UseK (prog : Program) (w : World) (K : Frag) (n : Nat) (l : List (Str × NameKind)) (use : Option (Env → Value → Sem Unit)) (Q : Post Value) (D : Addr) (g : G) (ρ : Str → Option Value) (M : Mem) : Prop := match use with
  | none => Q (.ref D) g ρ M
  | some u => ∀ c' : Cx, c'.Ok K n → c'.Own → c'.env.scope.names = l → T prog w c' (u c'.env (.ref D)) (fun _ g ρ M => Q .none g ρ M) g ρ M
theorem T.compU {e target iter : Expr} {ifs : List Expr} {sc : Scope} {emit : Value → Env → Sem Unit} {newAcc : Sem Value} {use : Option (Env → Value → Sem Unit)} {m₀ : MO} {PD : Addr → Prop} {Q : Post Value}
    (O : c.Ok K n) (hW : use.isSome = true → c.Own) (hS : c.env.scope.names = l) (he : isComp e = true) (hcl : clausesOf e = [⟨target, iter, ifs, 0⟩])
    (hturn : ∀ it D env, compTurn e 0 it (.ref D) env = (PySem.standAt iter.pos >>= fun _ => pyNext it >>= fun r => match r with
      | none => Pure.pure (.done .next)
      | some v => letOwnedTupleGo target it v >>= fun _ => assign target env v >>= fun _ => tests ifs env >>= fun ok => (if ok = true then emit (.ref D) env else Pure.pure ()) >>= fun _ => again (.compLoop e 0 it (.ref D) env)))
    (hsc : compOk sc = true) (hfr : freeOk l sc.names = true) (hs : ∀ x, foldedSetIterable iter c.env x = Pure.pure x)
    (hnew : ∀ (c : Cx) (Q : Post Value) g ρ M, c.Ok K n → (∀ D, PD D → Q (.ref D) g ρ ((D, m₀) :: M)) → T prog w c newAcc Q g ρ M)
    (h : T prog w c (eval iter c.env) (fun xv g ρ M => Seqs prog w c target xv g ρ M fun m P M' => ∀ D, PD D → ∃ Inv : Nat → G → Mem → Prop, Inv 0 g ((D, m₀) :: M') ∧
      (∀ c' : Cx, c'.Ok K n → c'.env.scope.names = relab l sc.names → ∀ i v g' ρ' M, i < m → P i v c'.h₀ → Le g g' → (∀ x, ((relab l sc.names).lookup x == some .local) = false → ρ' x = ρ x) → Inv i g' M →
        T prog w c' (assign target c'.env v) (fun _ g ρ M => T prog w c' (tests ifs c'.env) (fun b g ρ M => IfK b (T prog w c' (emit (.ref D) c'.env) (fun _ g ρ M => Inv (i + 1) g M) g ρ M) (Inv (i + 1) g M)) g ρ M) g' ρ' M) ∧
      ∀ g' M, Le g g' → Inv m g' M → UseK prog w K n l use Q D g' ρ M) g ρ M) :
    T prog w c (comprehension e sc c.env pos newAcc false (eval iter c.env) (use.map fun u => u c.env)) Q g ρ M := fun s hA => by
  have hfree : ∀ x, (x, NameKind.free) ∈ sc.names → ∃ a, c.env.cells.lookup x = some a := fun x hx => by
    have := List.all_eq_true.mp hfr _ hx
    simp only [bne_self_eq_false, Bool.false_or, Bool.or_eq_true, beq_iff_eq] at this
    rcases this with q | q
    · exact O.cellOf x (kind_of hS q)
    · exact O.freeOf x (kind_of hS q)
  obtain ⟨cl, hclos, cl1, cl2⟩ := closure_of (scope := sc) (env := c.env) hfree
  have hsc' := hsc
  unfold compOk at hsc'
  simp only [Bool.and_eq_true, beq_iff_eq, List.all_eq_true, decide_eq_true_eq] at hsc'
  obtain ⟨⟨hkind, hcell⟩, hnd⟩ := hsc'
  refine wpAny_comprehension_free hcl hs hclos hkind (fun x hx e => kind_mem hnd (by rw [← e]; exact hx)) (wpAny_mono (h s hA) (fun xv s₁ ⟨g₁, ρ₁, M₁, A₁, r₁, l₁, m, P, M', hk, hseq⟩ => ?_) fun _ _ e => e.elim)
  refine wpAny_mono (hseq s₁ A₁) (fun it s₂ ⟨I, fp, wr, St, e', W', st, A₂, r₂, hwr, hfp⟩ => ?_) fun _ _ e => e.elim
  subst e'
  have kf₂ : ∀ b ∈ fp, ∃ o, Kept c g₁ M' s₂.heap b o := fun b hb => let ⟨o, ho⟩ := W'.live _ _ st b hb; ⟨o, ho, hfp b hb⟩
  have key := hnew (c.re s₂.heap M' g₁) (fun r g ρ M => ∃ D, r = .ref D ∧ g = g₁ ∧ ρ = ρ₁ ∧ M = (D, m₀) :: M' ∧ PD D) g₁ ρ₁ M' (A₂.reOk O) (fun D hD => ⟨D, rfl, rfl, rfl, rfl, hD⟩) s₂ A₂.re
  refine wpAny_mono key (fun acc s₃ ⟨g₃, ρ₃, M₃, A₃, r₃, l₃, D, e1, e2, e3, e4, hPD⟩ => ?_) fun _ _ e => e.elim
  subst e1; subst e2; subst e3; subst e4
  have B₃ := A₂.unre A₃
  have kf₃ : ∀ b ∈ fp, ∃ o, Kept c g₃ ((D, m₀) :: M') s₃.heap b o ∧ s₂.heap.get? b = some o := fun b hb => let ⟨o, k⟩ := kf₂ b hb; ⟨o, k.after A₃, k.get⟩
  have hwr₃ : ∀ b ∈ wr, c.h₀.get? b = none ∧ g₃ b = none ∧ b ∉ c.own ++ ((D, m₀) :: M').map (·.1) := fun b hb => ⟨(hwr b hb).1, (hwr b hb).2, (kf₃ b (W'.sub b hb)).elim fun o k => k.1.out⟩
  refine wpAny_newFunctionEnv hcell (fun x hx => nomatch hx) (fun h₁ hns hsb => ?_) hkind
  have hC : s₃.heap.get? s₃.heap.objs.size = none := by
    cases q : s₃.heap.get? s₃.heap.objs.size with
    | none => rfl
    | some o => exact absurd (Heap.lt_size q) (Nat.lt_irrefl _)
  have x₁ : Ext s₃.heap h₁ := fun b o e => (hsb.2 b fun q => by rw [q, hC] at e; cases e).trans (Heap.get?_push_of_some _ e)
  have B₄ : Act w.params c g₃ ρ₃ ((D, m₀) :: M') h₁ := B₃.ext x₁
  have CI : CompIn K n c sc cl s₃.heap.objs.size h₁ wr g₃ ((D, m₀) :: M') l := ⟨O, hS, hsc, cl1, cl2, hwr₃, fresh_new B₃ hC, hns⟩
  generalize s₃.heap.objs.size = C at CI hC
  show codeAny (model prog w) c.A (.compStart e 0 (.ref I) (.ref D) (compEnvC sc cl C c.env)) (compPost (model prog w) c.A (fun _ _ => False) (use.map fun u => u c.env) _ (.ref D) C) _
  obtain ⟨Inv, h0, step, fin⟩ := hk D hPD
  have nofp : ∀ b ∈ fp, b ∉ [C] ++ ((D, m₀) :: M').map (·.1) := fun b hb q => by
    obtain ⟨o, k, _⟩ := kf₃ b hb
    rcases List.mem_append.mp q with q | q
    · have := k.get; rw [List.mem_singleton.mp q, hC] at this; cases this
    · exact k.out (List.mem_append_right _ q)
  have nowr : ∀ b ∈ wr, (c.comp sc cl C h₁ wr ((D, m₀) :: M') g₃).h₀.get? b = none := fun b hb => by
    show (hide _ _).get? b = none
    rw [get_hide, if_pos (List.mem_append_left _ (.tail _ hb))]
  have A₄ := CI.act B₄
  have O₄ := CI.Ok B₄
  have loop : codeAny (model prog w) c.A (.compLoop e 0 (.ref I) (.ref D) (compEnvC sc cl C c.env)) (compPost (model prog w) c.A (fun _ _ => False) (use.map fun u => u c.env) (fun r s' => ∃ g' ρ' M', Act w.params c g' ρ' M' s'.heap ∧ Rest s s' ∧ Le g g' ∧ Q r g' ρ' M') (.ref D) C)
      ({ s₃ with heap := h₁, toks := s₃.toks + ([] : List (Str × Value)).length } : Shared) := by
    refine codeAny_compLoopG he (hturn (.ref I) D _)
      (fun k s' => ∃ i, k = m + 1 - i ∧ Walking prog w (c.comp sc cl C h₁ wr ((D, m₀) :: M') g₃) St fp wr (fun i g ρ M => (∀ x, ((relab l sc.names).lookup x == some .local) = false → ρ x = ρ₃ x) ∧ Inv i g M) g₃ s₂ m i s') ?_ (m + 1)
      ⟨0, rfl, Nat.zero_le _, W'.frame _ _ _ st (fun b hb o e => by obtain ⟨o', k, e'⟩ := kf₃ b hb; rw [e'] at e; cases e; exact x₁ _ _ k.get), ⟨r₃.1, r₃.2.1, r₃.2.2⟩, g₃, _, _, A₄, .refl _, ⟨fun x hx => by unfold cutR; rw [if_neg (by rw [hx]; exact Bool.false_ne_true)], h0⟩, fun b hb => ⟨nowr b hb, (hwr₃ b hb).2.1⟩, nofp⟩
    rintro k s₅ ⟨i, rfl, hi, st₅, rs₅, g₅, ρ₅, M₅, A₅, l₅, ⟨hρ, inv⟩, hwr₅, hfp₅⟩
    have hw : ∀ b ∈ wr, (c.comp sc cl C h₁ wr ((D, m₀) :: M') g₃).h₀.get? b = none ∧ g₅ b = none ∧ b ∉ (c.comp sc cl C h₁ wr ((D, m₀) :: M') g₃).own ++ M₅.map (·.1) := fun b hb => ⟨(hwr₅ b hb).1, (hwr₅ b hb).2, hfp₅ b (W'.sub b hb)⟩
    by_cases hlt : i < m
    · refine wpAny_mono (W'.turn i s₅ hlt st₅) (fun r s₆ ⟨v, e, hg⟩ => ?_) fun _ _ e => e.elim
      subst e
      refine wpAny_mono hg (fun _ s₇ ⟨st₇, r₇, hk₇, hP₇⟩ => ?_) fun _ _ e => e.elim
      have A₇ := A₅.outside O₄ hk₇ hw
      have kf : ∀ b ∈ fp, ∃ o, Kept (c.comp sc cl C h₁ wr ((D, m₀) :: M') g₃) g₅ M₅ s₇.heap b o := fun b hb => let ⟨o, ho⟩ := W'.live _ _ st₇ b hb; ⟨o, ho, hfp₅ b hb⟩
      have hPre : P i v ((c.comp sc cl C h₁ wr ((D, m₀) :: M') g₃).re s₇.heap M₅ g₅).h₀ := hP₇ _ fun T o hn e => (⟨e, (fresh_new A₅ hn).2.2⟩ : Kept (c.comp sc cl C h₁ wr ((D, m₀) :: M') g₃) g₅ M₅ s₇.heap T o).re
      have again : ∀ (s₈ : Shared) g₈ ρ₈ M₈, Act w.params ((c.comp sc cl C h₁ wr ((D, m₀) :: M') g₃).re s₇.heap M₅ g₅) g₈ ρ₈ M₈ s₈.heap → Rest s₇ s₈ → Le g₅ g₈ → Inv (i + 1) g₈ M₈ →
          ∃ j, j < m + 1 - i ∧ ∃ i, j = m + 1 - i ∧ Walking prog w (c.comp sc cl C h₁ wr ((D, m₀) :: M') g₃) St fp wr (fun i g ρ M => (∀ x, ((relab l sc.names).lookup x == some .local) = false → ρ x = ρ₃ x) ∧ Inv i g M) g₃ s₂ m i s₈ := fun s₈ g₈ ρ₈ M₈ A₈ r₈ l₈ q =>
        ⟨m + 1 - (i + 1), by omega, i + 1, rfl, hlt, W'.frame _ _ _ st₇ (fun b hb o e => by
          obtain ⟨o', k⟩ := kf b hb
          rw [k.get] at e; cases e
          exact (k.after A₈).get), (rs₅.trans r₇).trans r₈, g₈, _, M₈, CI.recut B₄ (A₇.unre A₈), l₅.trans l₈, ⟨fun x hx => by rw [if_neg (by rw [hx]; exact Bool.false_ne_true)], q⟩, fun b hb => ⟨(hwr₅ b hb).1, (kf b (W'.sub b hb)).elim fun o k => k.noneAfter (hwr₅ b hb).2 A₈⟩, fun b hb => (kf b hb).elim fun o k => (k.after A₈).out⟩
      have key := step ((c.comp sc cl C h₁ wr ((D, m₀) :: M') g₃).re s₇.heap M₅ g₅) (A₇.reOk O₄) CI.kinds i v g₅ ρ₅ M₅ hlt hPre l₅ hρ inv s₇ A₇.re
      refine wpAny_mono key (fun _ s₈ ⟨g₈, ρ₈, M₈, A₈, r₈, l₈, t⟩ => ?_) fun _ _ e => e.elim
      refine wpAny_mono (t s₈ A₈) (fun ok s₉ ⟨g₉, ρ₉, M₉, A₉, r₉, l₉, q⟩ => ?_) fun _ _ e => e.elim
      cases ok with
      | false => exact again s₉ g₉ ρ₉ M₉ A₉ (r₈.trans r₉) (l₈.trans l₉) (q.2 rfl)
      | true => exact wpAny_mono (q.1 rfl s₉ A₉) (fun _ s' ⟨g', ρ', M', a, b, cc, q⟩ => again s' g' ρ' M' a ((r₈.trans r₉).trans b) ((l₈.trans l₉).trans cc) q) fun _ _ e => e.elim
    · have hin : i = m := by omega
      subst hin
      refine wpAny_mono (W'.done s₅ st₅) (fun r s₆ ⟨e, r₆, hk₆⟩ => ?_) fun _ _ e => e.elim
      subst e
      have A₆ := A₅.outside O₄ hk₆ hw
      have B₆ := CI.back B₄ A₆
      obtain ⟨mC, hmC, _⟩ := A₆.ns
      have rs : Rest s s₆ := ((r₁.trans r₂).trans rs₅).trans r₆
      have ll : Le g g₅ := l₁.trans l₅
      have hCo := A₆.fresh C (.head _)
      have hCout : C ∉ c.own ++ M₅.map (·.1) := fun q => by
        rcases List.mem_append.mp q with q | q
        · exact CI.C0.2.2 (List.mem_append_left _ q)
        · exact (List.nodup_cons.mp A₆.nodup).1 q
      have kC : ∀ {h₇ h₈ : Heap} {gg ρρ MM}, Act w.params c gg ρρ MM h₇ → gg C = none → C ∉ c.own ++ MM.map (·.1) → Heap.SameBut C h₇ h₈ → Act w.params c gg ρρ MM h₈ := fun a1 a2 a3 a4 =>
        a1.outside (wr := [C]) O (fun b o hb e => (a4.2 b (by simpa using hb)).trans e) fun b hb => by rw [List.mem_singleton.mp hb]; exact ⟨CI.C0.1, a2, a3⟩
      have fin' := fin g₅ M₅ l₅ inv
      cases use with
      | none => exact ⟨mC, hmC, fun h₇ hs₇ => ⟨g₅, ρ₃, M₅, kC B₆ hCo.2 hCout hs₇, rs, ll, fin'⟩⟩
      | some u =>
        obtain ⟨oC, esC, epC, hoC, restC⟩ := hmC
        have kk : Kept c g₅ M₅ s₆.heap C oC := ⟨hoC, hCout⟩
        refine wpAny_mono (fin' (c.re s₆.heap M₅ g₅) (B₆.reOk O) (hW rfl) hS s₆ B₆.re) (fun _ s₈ ⟨g₈, ρ₈, M₈, A₈, r₈, l₈, q⟩ => ?_) fun _ _ e => e.elim
        have k8 := kk.after A₈
        exact ⟨mC, ⟨oC, esC, epC, k8.get, restC⟩, fun h₉ hs₉ => ⟨g₈, ρ₈, M₈, kC (B₆.unre A₈) (kk.noneAfter hCo.2 A₈) k8.out hs₉, rs.trans r₈, ll.trans l₈, q⟩⟩
  refine codeAny_compStartG he hcl rfl loop (wpAny_mono (W'.self 0 _ ?_) (fun it' s' ⟨e1, e2⟩ => by subst e1; subst e2; exact loop) fun _ _ e => e.elim)
  exact W'.frame _ _ _ st (fun b hb o e => by obtain ⟨o', k, e'⟩ := kf₃ b hb; rw [e'] at e; cases e; exact x₁ _ _ k.get)
end
end Mine

namespace Mine

section
variable {prog : Program} {w : World} {α β : Type} {c : Cx} {g g' : G} {ρ ρ' : Str → Option Value} {M M' : Mem} {K : Frag} {n : Nat} {pos apos : Pos} {P : Params} {h h' : Heap} {l : List (Str × NameKind)}

theorem Act.adopt {a : Addr} {m : MO} (A : Act P c g ρ M h) (hr : ∃ o, h.get? a = some o ∧ m.rep P o) (ha : c.h₀.get? a = none ∧ g a = none ∧ a ∉ c.own ++ M.map (·.1)) : Act P c g ρ ((a, m) :: M) h := by
  refine ⟨A.keep, A.know, A.old, A.ns, A.cell, fun p hp => ?_, fun b hb => ?_, ?_, A.live⟩
  · rcases List.mem_cons.mp hp with rfl | hp
    · exact hr
    · exact A.mem p hp
  · rcases List.mem_append.mp hb with hb | hb
    · exact A.fresh b (List.mem_append_left _ hb)
    · rcases List.mem_cons.mp hb with rfl | hb
      · exact ⟨ha.1, ha.2.1⟩
      · exact A.fresh b (List.mem_append_right _ hb)
  · obtain ⟨n1, n2, n3⟩ := List.nodup_append.mp A.nodup
    refine List.nodup_append.mpr ⟨n1, List.nodup_cons.mpr ⟨fun q => ha.2.2 (List.mem_append_right _ q), n2⟩, fun x hx y hy q => ?_⟩
    rcases List.mem_cons.mp hy with rfl | hy
    · exact ha.2.2 (List.mem_append_left _ (q ▸ hx))
    · exact n3 x hx y hy q
theorem Act.drop {p : Addr × MO} (A : Act P c g ρ (p :: M) h) : Act P c g ρ M h := by
  obtain ⟨n1, n2, n3⟩ := List.nodup_append.mp A.nodup
  refine ⟨A.keep, A.know, A.old, A.ns, A.cell, fun q hq => A.mem q (.tail _ hq), fun b hb => A.fresh b ?_, List.nodup_append.mpr ⟨n1, (List.nodup_cons.mp n2).2, fun x hx y hy q => n3 x hx y (.tail _ hy) q⟩, A.live⟩
  rcases List.mem_append.mp hb with hb | hb
  · exact List.mem_append_left _ hb
  · exact List.mem_append_right _ (.tail _ hb)
theorem Act.head_out {p : Addr × MO} (A : Act P c g ρ (p :: M) h) : c.h₀.get? p.1 = none ∧ g p.1 = none ∧ p.1 ∉ c.own ++ M.map (·.1) := by
  obtain ⟨n1, n2, n3⟩ := List.nodup_append.mp A.nodup
  have := A.fresh p.1 (List.mem_append_right _ (.head _))
  refine ⟨this.1, this.2, fun q => ?_⟩
  rcases List.mem_append.mp q with q | q
  · exact n3 _ q _ (.head _) rfl
  · exact (List.nodup_cons.mp n2).1 q
theorem Act.known_out {a : Addr} {m : MO} (A : Act P c g ρ M h) (e : g a = some m) : a ∉ c.own ++ M.map (·.1) := fun q => by
  rw [(A.fresh a q).2] at e; cases e
/-- an object that is left alone for good -/
theorem T.drop {p : Addr × MO} {t : Sem α} {Q : Post α} (hh : T prog w c t Q g ρ M) : T prog w c t Q g ρ (p :: M) := fun s hA => hh s hA.drop

-- comprehensions over one clause, nothing known of the new list but to the comprehension
theorem compTurn_L {elt target iter : Expr} {ifs : List Expr} {sc : Scope} {p : Pos} (it : Value) (D : Addr) (env : Env) :
    compTurn (.ListComp elt [⟨target, iter, ifs, 0⟩] sc p) 0 it (.ref D) env = (standAt iter.pos >>= fun _ => pyNext it >>= fun r => match r with
      | none => pure (.done .next)
      | some v => letOwnedTupleGo target it v >>= fun _ => assign target env v >>= fun _ => tests ifs env >>= fun ok => (if ok = true then (eval elt env >>= fun x => call (.builtin "list.append") [.ref D, x] >>= fun _ => pure ()) else pure ()) >>= fun _ => again (.compLoop (.ListComp elt [⟨target, iter, ifs, 0⟩] sc p) 0 it (.ref D) env)) := by
  rw [compTurn_list]
  refine bind_congr fun _ => bind_congr fun r => ?_
  cases r with
  | none => rfl
  | some v =>
    refine bind_congr fun _ => bind_congr fun _ => ?_
    refine bind_congr (x := tests ifs env) fun ok => ?_
    cases ok
    · exact (pure_bind (m := Sem) _ _).symm
    · rfl
theorem compTurn_D {kx vx target iter : Expr} {ifs : List Expr} {sc : Scope} {p : Pos} (it : Value) (D : Addr) (env : Env) :
    compTurn (.DictComp kx vx [⟨target, iter, ifs, 0⟩] sc p) 0 it (.ref D) env = (standAt iter.pos >>= fun _ => pyNext it >>= fun r => match r with
      | none => pure (.done .next)
      | some v => letOwnedTupleGo target it v >>= fun _ => assign target env v >>= fun _ => tests ifs env >>= fun ok => (if ok = true then (eval kx env >>= fun k => holding [k] (eval vx env) >>= fun v => standAt { kx.pos with endLine := vx.pos.endLine, endCol := vx.pos.endCol } >>= fun _ => holding [k, v] (dictSet D k v)) else pure ()) >>= fun _ => again (.compLoop (.DictComp kx vx [⟨target, iter, ifs, 0⟩] sc p) 0 it (.ref D) env)) := by
  rw [compTurn_dict]
  refine bind_congr fun _ => bind_congr fun r => ?_
  cases r with
  | none => rfl
  | some v =>
    refine bind_congr fun _ => bind_congr fun _ => ?_
    refine bind_congr (x := tests ifs env) fun ok => ?_
    cases ok
    · exact (pure_bind (m := Sem) _ _).symm
    · rfl

/-- what a list comprehension has to show, once its first iterable stands -/
def LcK (prog : Program) (w : World) (K : Frag) (n : Nat) (l : List (Str × NameKind)) (sc : Scope) (target elt : Expr) (ifs : List Expr) (g : G) (ρ : Str → Option Value) (m : Nat) (P : Nat → Value → Heap → Prop) (M' : Mem)
    (fin : Addr → List Value → G → Mem → Prop) : Prop := m ≤ 1000 ∧ ∀ D, ∃ Inv : Nat → List Value → G → Mem → Prop, Inv 0 [] g M' ∧
  (∀ c' : Cx, c'.Ok K n → c'.env.scope.names = relab l sc.names → ∀ i v g' ρ' acc M, i < m → P i v c'.h₀ → Le g g' → (∀ x, ((relab l sc.names).lookup x == some .local) = false → ρ' x = ρ x) → Inv i acc g' M →
    T prog w c' (assign target c'.env v) (fun _ g ρ M₁ => T prog w c' (tests ifs c'.env) (fun b g ρ M₁ => IfK b (T prog w c' (eval elt c'.env) (fun y g ρ M₁ => ∃ M', M₁ = (D, .list acc) :: M' ∧ Inv (i + 1) (acc ++ [y]) g M') g ρ M₁) (∃ M', M₁ = (D, .list acc) :: M' ∧ Inv (i + 1) acc g M')) g ρ M₁) g' ρ' ((D, .list acc) :: M)) ∧
  ∀ acc g' M, Le g g' → Inv m acc g' M → fin D acc g' M

theorem T.lcU {elt target iter : Expr} {ifs : List Expr} {sc : Scope} {p : Pos} {use : Option (Env → Value → Sem Unit)} {Q : Post Value} (O : c.Ok K n) (hW : use.isSome = true → c.Own) (hS : c.env.scope.names = l)
    (hsc : compOk sc = true) (hfr : freeOk l sc.names = true) (hs : ∀ x, foldedSetIterable iter c.env x = Pure.pure x)
    (h : T prog w c (eval iter c.env) (fun xv g ρ M => Seqs prog w c target xv g ρ M fun m P M' => LcK prog w K n l sc target elt ifs g ρ m P M' fun D acc g' M => UseK prog w K n l use Q D g' ρ ((D, .list acc) :: M)) g ρ M) :
    T prog w c (comprehension (.ListComp elt [⟨target, iter, ifs, 0⟩] sc p) sc c.env pos (PySem.newList []) false (eval iter c.env) (use.map fun u => u c.env)) Q g ρ M := by
  refine T.compU (PD := fun _ => True) (m₀ := .list []) (emit := fun a env => eval elt env >>= fun x => call (.builtin "list.append") [a, x] >>= fun _ => Pure.pure ()) O hW hS rfl rfl (fun it D env => compTurn_L it D env) hsc hfr hs (fun c Q g ρ M _ hQ => T.newList (Nat.zero_le _) fun D => hQ D trivial) ?_
  refine T.mono h fun xv g ρ M hq => hq.mono fun m P M' ⟨hm, hk⟩ D _ => ?_
  obtain ⟨Inv, h0, step, fin⟩ := hk D
  refine ⟨fun i g MM => ∃ acc M, MM = (D, .list acc) :: M ∧ acc.length ≤ i ∧ Inv i acc g M, ⟨[], M', rfl, Nat.zero_le _, h0⟩, ?_, ?_⟩
  · rintro c' O' hS' i v g' ρ' MM hi hP hl ha ⟨acc, M, rfl, hz, inv⟩
    refine T.mono (step c' O' hS' i v g' ρ' acc M hi hP hl ha inv) fun _ g ρ M₁ q => T.mono q fun b g ρ M₁ q => ⟨fun e => ?_, fun e => ?_⟩
    · refine T.bind (T.mono (q.1 e) fun y g ρ M₁ ⟨M₂, e1, inv⟩ => ?_)
      subst e1
      refine T.bind (T.appendL (pre := []) O' (by omega) (T.pure ⟨acc ++ [y], M₂, rfl, by simp; omega, inv⟩))
    · obtain ⟨M₂, e1, inv⟩ := q.2 e
      exact ⟨acc, M₂, e1, by omega, inv⟩
  · rintro g' MM hl ⟨acc, M, rfl, _, inv⟩
    exact fin acc g' M hl inv
theorem T.lc {elt target iter : Expr} {ifs : List Expr} {sc : Scope} {p : Pos} {Q : Post Value} (O : c.Ok K n) (hS : c.env.scope.names = l)
    (hsc : compOk sc = true) (hfr : freeOk l sc.names = true) (hs : ∀ x, foldedSetIterable iter c.env x = Pure.pure x)
    (h : T prog w c (eval iter c.env) (fun xv g ρ M => Seqs prog w c target xv g ρ M fun m P M' => LcK prog w K n l sc target elt ifs g ρ m P M' fun D acc g' M => Q (.ref D) g' ρ ((D, .list acc) :: M)) g ρ M) :
    T prog w c (eval (.ListComp elt [⟨target, iter, ifs, 0⟩] sc p) c.env) Q g ρ M := by
  rw [eval_ListComp]
  exact T.lcU (use := none) O (fun e => nomatch e) hS hsc hfr hs h

def swB (l : List (Str × NameKind)) (x : Str) (p vp : Pos) (sc : Scope) : Bool := (l.lookup x == some .local) && p.line == vp.line && !(sc.names.any fun (n, k) => n == x && (k == .local || k == .cell))
theorem swaps_lc {elt : Expr} {gens : List Comprehension} {sc : Scope} {p vp : Pos} {x : Str} {line : Nat} (O : c.Ok K n) (hS : c.env.scope.names = l) : swapsWith (.ListComp elt gens sc vp) (some (.Name x p)) line c.env = pure (swB l x p vp sc) := by
  have e1 : c.env.blockKind = .function := by unfold Env.blockKind; rw [O.kind]; rfl
  have e2 : c.env.kindOf x = l.lookup x := by rw [Env.kindOf, hS]
  unfold swapsWith swB
  simp only [e1, e2]
  rfl
theorem swaps_dc {kx vx : Expr} {gens : List Comprehension} {sc : Scope} {p vp : Pos} {x : Str} {line : Nat} (O : c.Ok K n) (hS : c.env.scope.names = l) : swapsWith (.DictComp kx vx gens sc vp) (some (.Name x p)) line c.env = pure (swB l x p vp sc) := by
  have e1 : c.env.blockKind = .function := by unfold Env.blockKind; rw [O.kind]; rfl
  have e2 : c.env.kindOf x = l.lookup x := by rw [Env.kindOf, hS]
  unfold swapsWith swB
  simp only [e1, e2]
  rfl
theorem T.assign_stored {x : Str} {p : Pos} {v : Value} {Q : Post Unit} (h : T prog w c (storeName c.env x v) Q g ρ M) : T prog w c (assign (.Name x p) c.env v) Q g ρ M := by
  rw [PySem.assign_Name]
  unfold bindName
  exact T.bind (T.standAt (T.bind (T.holding (T.point (T.bind (T.mono h fun _ g ρ M q => T.point q))))))
/-- x = [..] where the value comes by the plain road -/
theorem T.assign_lc0 {elt : Expr} {gens : List Comprehension} {sc : Scope} {p vp : Pos} {x : Str} {Q : Post Flow} (O : c.Ok K n) (hS : c.env.scope.names = l) (hb : swB l x p vp sc = false)
    (h : T prog w c (eval (.ListComp elt gens sc vp) c.env) (fun v g ρ M => T prog w c (storeName c.env x v) (fun _ g ρ M => Q .next g ρ M) g ρ M) g ρ M) : T prog w c (exec (.Assign [.Name x p] (.ListComp elt gens sc vp) pos) c.env) Q g ρ M := by
  rw [exec_Assign1, swaps_lc O hS, hb]
  refine T.bind (T.standAt (T.bind (T.pure ?_)))
  rw [if_neg Bool.false_ne_true]
  exact T.bind (T.mono h fun v g ρ M q => T.bind (T.pure (T.bind (T.mono (T.assign_stored q) fun _ g ρ M q => T.pure q))))
theorem T.assign_dc0 {kx vx : Expr} {gens : List Comprehension} {sc : Scope} {p vp : Pos} {x : Str} {Q : Post Flow} (O : c.Ok K n) (hS : c.env.scope.names = l) (hb : swB l x p vp sc = false)
    (h : T prog w c (eval (.DictComp kx vx gens sc vp) c.env) (fun v g ρ M => T prog w c (storeName c.env x v) (fun _ g ρ M => Q .next g ρ M) g ρ M) g ρ M) : T prog w c (exec (.Assign [.Name x p] (.DictComp kx vx gens sc vp) pos) c.env) Q g ρ M := by
  rw [exec_Assign1, swaps_dc O hS, hb]
  refine T.bind (T.standAt (T.bind (T.pure ?_)))
  rw [if_neg Bool.false_ne_true]
  exact T.bind (T.mono h fun v g ρ M q => T.bind (T.pure (T.bind (T.mono (T.assign_stored q) fun _ g ρ M q => T.pure q))))
/-- x = [..] where the variable is stored before the comprehension's own names go -/
theorem T.assign_lc1 {elt target iter : Expr} {ifs : List Expr} {sc : Scope} {p vp : Pos} {x : Str} {Q : Post Flow} (O : c.Ok K n) (W : c.Own) (hS : c.env.scope.names = l) (hb : swB l x p vp sc = true)
    (hsc : compOk sc = true) (hfr : freeOk l sc.names = true) (hs : ∀ x, foldedSetIterable iter c.env x = Pure.pure x)
    (h : T prog w c (eval iter c.env) (fun xv g ρ M => Seqs prog w c target xv g ρ M fun m P M' => LcK prog w K n l sc target elt ifs g ρ m P M' fun D acc g' M => Q .next g' (put ρ x (.ref D)) ((D, .list acc) :: M)) g ρ M) :
    T prog w c (exec (.Assign [.Name x p] (.ListComp elt [⟨target, iter, ifs, 0⟩] sc vp) pos) c.env) Q g ρ M := by
  have hsw := swaps_lc (elt := elt) (gens := [⟨target, iter, ifs, 0⟩]) (sc := sc) (p := p) (vp := vp) (x := x) (line := pos.line) O hS
  rw [hb] at hsw
  rw [exec_Assign_Name_used _ _ _ _ hsw]
  have hl : l.lookup x = some .local := by
    unfold swB at hb
    simp only [Bool.and_eq_true, beq_iff_eq] at hb
    exact hb.1.1
  have key : T prog w c (comprehension (.ListComp elt [⟨target, iter, ifs, 0⟩] sc vp) sc c.env (firstIterPos [⟨target, iter, ifs, 0⟩] vp) (PySem.newList []) false (eval iter c.env) ((some fun env => assign (.Name x p) env).map fun u => u c.env))
      (fun _ g ρ M => Q .next g ρ M) g ρ M := by
    refine T.lcU (use := some fun env => assign (.Name x p) env) O (fun _ => W) hS hsc hfr hs (T.mono h fun xv g ρ M q => q.mono fun m P M' ⟨hm, q⟩ => ⟨hm, fun D => ?_⟩)
    obtain ⟨Inv, a, b, f⟩ := q D
    refine ⟨Inv, a, b, fun acc g' M hl' inv => ?_⟩
    intro c' O' W' hS'
    exact T.assign_stored (T.stLocal O' (kind_of hS' hl) (f acc g' M hl' inv))
  refine T.bind (T.standAt (T.bind ?_))
  show T prog w c (do let _ ← comprehension (.ListComp elt [⟨target, iter, ifs, 0⟩] sc vp) sc c.env (firstIterPos [⟨target, iter, ifs, 0⟩] vp) (PySem.newList []) false (eval iter c.env) (some (assign (.Name x p) c.env))) _ g ρ M
  exact T.bind (T.mono key fun _ g ρ M q => T.pure (T.pure q))

-- iterables
theorem Itr.list {A : Around} {target : Expr} (hh : A.handled = none) {I a : Addr} (hne : a ≠ I) (vs : List Value) : Itr prog w A target I [I, a] [I] vs.length (fun i v _ => vs[i]? = some v) (fun i h => h.IsListIter I a i ∧ h.IsList a vs.toArray) := by
  have W := Itr.ofWalks (target := target) (Walks.list (prog := prog) (w := w) hh I a hne vs.toArray) (fun i h st b hb => by
    rcases List.mem_cons.mp hb with rfl | hb
    · obtain ⟨o, ho, _⟩ := st.1; exact ⟨o, ho⟩
    · rw [List.mem_singleton.mp hb]; obtain ⟨o, ho, _⟩ := st.2; exact ⟨o, ho⟩) (fun i v s Q E st q => letGo_listiter st.1 q)
  simpa using W
theorem Itr.tuple {A : Around} {target : Expr} (hh : A.handled = none) {I a : Addr} (hne : a ≠ I) (vs : List Value) : Itr prog w A target I [I, a] [I] vs.length (fun i v _ => vs[i]? = some v) (fun i h => h.IsTupleIter I a i ∧ h.IsTuple a vs.toArray) := by
  have W := Itr.ofWalks (target := target) (Walks.tuple (prog := prog) (w := w) hh I a hne vs.toArray) (fun i h st b hb => by
    rcases List.mem_cons.mp hb with rfl | hb
    · obtain ⟨o, ho, _⟩ := st.1; exact ⟨o, ho⟩
    · rw [List.mem_singleton.mp hb]; obtain ⟨o, ho, _⟩ := st.2; exact ⟨o, ho⟩) (fun i v s Q E st q => letGo_tupleiter st.1 q)
  simpa using W
theorem heap_new (h : Heap) : h.get? h.objs.size = none := by
  cases q : h.get? h.objs.size with
  | none => rfl
  | some o => exact absurd (Heap.lt_size q) (Nat.lt_irrefl _)
theorem Seqs.list {target : Expr} {a : Addr} {vs : List Value} {k : Nat → (Nat → Value → Heap → Prop) → Mem → Prop} (O : c.Ok K n) (S : Lst g a vs) (hk : k vs.length (fun i v _ => vs[i]? = some v) M) : Seqs prog w c target (.ref a) g ρ M k := by
  refine ⟨_, _, _, hk, fun s hA => ?_⟩
  obtain ⟨j, hl⟩ := SrcL.at (M := M) (Or.inl S) hA
  have hne : a ≠ s.heap.objs.size := Nat.ne_of_lt (Heap.lt_size hl)
  have hn := fresh_new hA (heap_new s.heap)
  refine wpAny_pyIter_list hl.isList ⟨_, _, _, _, rfl, Itr.list O.room.handled hne vs, ⟨⟨_, Heap.get?_push_size _ rfl, rfl, rfl⟩, hl.isList.push _⟩, hA.ext fun b o e => Heap.get?_push_of_some _ e, ⟨rfl, rfl, rfl⟩, fun b hb => ?_, fun b hb => ?_⟩
  · rw [List.mem_singleton.mp hb]; exact ⟨hn.1, hn.2.1⟩
  · rcases List.mem_cons.mp hb with rfl | hb
    · exact hn.2.2
    · rw [List.mem_singleton.mp hb]; exact hA.known_out S
theorem Seqs.tuple {target : Expr} {a : Addr} {vs : List Value} {k : Nat → (Nat → Value → Heap → Prop) → Mem → Prop} (O : c.Ok K n) (S : Tup g a vs) (hk : k vs.length (fun i v _ => vs[i]? = some v) M) : Seqs prog w c target (.ref a) g ρ M k := by
  refine ⟨_, _, _, hk, fun s hA => ?_⟩
  have hl := Tup.at S hA
  have ht : s.heap.IsTuple a vs.toArray := ⟨_, hl, rfl, 0, rfl⟩
  have hne : a ≠ s.heap.objs.size := Nat.ne_of_lt (Heap.lt_size hl)
  have hn := fresh_new hA (heap_new s.heap)
  refine wpAny_pyIter_tuple ht ⟨_, _, _, _, rfl, Itr.tuple O.room.handled hne vs, ⟨⟨_, Heap.get?_push_size _ rfl, rfl, rfl⟩, ht.push _⟩, hA.ext fun b o e => Heap.get?_push_of_some _ e, ⟨rfl, rfl, rfl⟩, fun b hb => ?_, fun b hb => ?_⟩
  · rw [List.mem_singleton.mp hb]; exact ⟨hn.1, hn.2.1⟩
  · rcases List.mem_cons.mp hb with rfl | hb
    · exact hn.2.2
    · rw [List.mem_singleton.mp hb]; exact hA.known_out S

-- range
def rangeO (a b s : Int) (t u v : Tok) : Obj := { cls := .type "range", data := .fields #[.int a t, .int b u, .int s v] }
def Rng (g : G) (r : Addr) (a b s : Int) : Prop := ∃ t u v, g r = some (.raw (rangeO a b s t u v))
theorem Rng.mono {r : Addr} {a b s : Int} (h : Rng g r a b s) (l : Le g g') : Rng g' r a b s := let ⟨t, u, v, e⟩ := h; ⟨t, u, v, l _ _ e⟩
theorem T.range1 {b : Int} {t : Tok} {Q : Post Value} (h : ∀ r g', Le g g' → Rng g' r 0 b 1 → Q (.ref r) g' ρ M) : T prog w c (call (.type "range") [.int b t]) Q g ρ M := fun s hA => by
  refine call_range_1 ?_
  have A2 := hA.new (a := s.heap.objs.size) (m := .raw (rangeO 0 b 1 s.toks t (s.toks + 1))) (fun b o e => Heap.get?_push_of_some _ e) (heap_new s.heap) ⟨_, Heap.get?_push_size s.heap (o := rangeO 0 b 1 s.toks t (s.toks + 1)) rfl, rfl⟩
  have hg := (fresh_new hA (heap_new s.heap)).2.1
  exact ⟨_, _, _, Act.freeze (pre := []) A2, ⟨rfl, rfl, rfl⟩, Le.setG hg, h _ _ (Le.setG hg) ⟨_, _, _, setG_self⟩⟩
theorem T.range3 {a b st : Int} {t u v : Tok} {Q : Post Value} (hc : st ≠ 0) (hp : Builtin.divisionGoesByPylong (b - a) st = false) (h : ∀ r g', Le g g' → Rng g' r a b st → Q (.ref r) g' ρ M) : T prog w c (call (.type "range") [.int a t, .int b u, .int st v]) Q g ρ M := fun s hA => by
  refine call_range_3 hc ?_ (.inl hp)
  have A2 := hA.new (a := s.heap.objs.size) (m := .raw (rangeO a b st t u v)) (fun b o e => Heap.get?_push_of_some _ e) (heap_new s.heap) ⟨_, Heap.get?_push_size s.heap (o := rangeO a b st t u v) rfl, rfl⟩
  have hg := (fresh_new hA (heap_new s.heap)).2.1
  exact ⟨_, _, _, Act.freeze (pre := []) A2, ⟨rfl, rfl, rfl⟩, Le.setG hg, h _ _ (Le.setG hg) ⟨_, _, _, setG_self⟩⟩
theorem Seqs.range {x : Str} {px : Pos} {r : Addr} {a b st : Int} {m : Nat} {k : Nat → (Nat → Value → Heap → Prop) → Mem → Prop} (O : c.Ok K n) (S : Rng g r a b st) (hsm : Builtin.Range.small a b st = true) (hm : Builtin.Range.rangeSize a b st = (m : Int))
    (hk : k m (fun i v _ => ∃ t, v = .int (a + i * st) t) M) : Seqs prog w c (.Name x px) (.ref r) g ρ M k := by
  refine ⟨_, _, _, hk, fun s hA => ?_⟩
  obtain ⟨t, u, v, e⟩ := S
  obtain ⟨_, hr, rfl⟩ := hA.know _ _ e
  have hn := fresh_new hA (heap_new s.heap)
  refine wpAny_pyIter_range (a := a) (b := b) (c := st) hr hsm ⟨_, _, _, _, rfl, Itr.ofWalks (Walks.range O.room.handled s.heap.objs.size a st m) (fun i h stt b hb => ?_) (fun i v s Q E stt q => wpAny_pure q), ?_, hA.ext fun b o e => Heap.get?_push_of_some _ e, ⟨rfl, rfl, rfl⟩, fun b hb => ?_, fun b hb => ?_⟩
  · rw [List.mem_singleton.mp hb]; exact ⟨_, stt⟩
  · show IsRangeIter _ _ _ _ _
    rw [hm]; simpa using Heap.get?_push_size _ rfl
  · rw [List.mem_singleton.mp hb]; exact ⟨hn.1, hn.2.1⟩
  · rw [List.mem_singleton.mp hb]; exact hn.2.2

-- enumerate
def enumO (it : Addr) : Obj := { cls := .type "enumerate", data := .fields #[.none, .bool false, .ref it, rawInt 0, .none, .none] }
def iterO (ty : String) (l : Addr) : Obj := { cls := .type ty, data := .fields #[.ref l, .int 0 0] }
theorem T.enum {a : Addr} {vs : List Value} {Q : Post Value} (S : Lst g a vs) (h : ∀ e it o, o.cls = .type "list_iterator" → o.data = .fields #[.ref a, .int 0 0] → Q (.ref e) g ρ ((e, .raw (enumO it)) :: (it, .raw o) :: M)) : T prog w c (call (.type "enumerate") [.ref a]) Q g ρ M := fun s hA => by
  obtain ⟨j, hl⟩ := SrcL.at (M := M) (Or.inl S) hA
  refine call_enumerate_list hl.isList fun h' he ⟨oi, hoi, hci, hdi⟩ hz hk => ?_
  have n1 := fresh_new hA (heap_new s.heap)
  have hn2 : s.heap.get? (s.heap.objs.size + 1) = none := by
    cases q : s.heap.get? (s.heap.objs.size + 1) with
    | none => rfl
    | some o => exact absurd (Heap.lt_size q) (Nat.not_lt.mpr (Nat.le_succ _))
  have n2 := fresh_new hA hn2
  refine ⟨g, ρ, _, ((hA.ext hk).adopt (m := .raw oi) ⟨oi, hoi, rfl⟩ n1).adopt (m := .raw (enumO s.heap.objs.size)) ⟨_, he, rfl⟩ ⟨n2.1, n2.2.1, fun q => ?_⟩, ⟨rfl, rfl, rfl⟩, .refl g, h _ _ _ hci hdi⟩
  rcases List.mem_append.mp q with q | q
  · exact n2.2.2 (List.mem_append_left _ q)
  · rcases List.mem_cons.mp q with q | q
    · exact absurd q (Nat.succ_ne_self _)
    · exact n2.2.2 (List.mem_append_right _ q)
theorem Seqs.enum {elts : List Expr} {kk : Nat} {pt : Pos} {e it a : Addr} {o : Obj} {vs : List Value} {k : Nat → (Nat → Value → Heap → Prop) → Mem → Prop} (O : c.Ok K n) (S : Lst g a vs) (hc : o.cls = .type "list_iterator") (hd : o.data = .fields #[.ref a, .int 0 0])
    (hk : k vs.length (fun i v h => ∃ T vals, v = .ref T ∧ (∃ t x, vs[i]? = some x ∧ vals = #[.int i t, x]) ∧ h.IsTuple T vals) M) : Seqs prog w c (.Tuple elts kk pt) (.ref e) g ρ ((e, .raw (enumO it)) :: (it, .raw o) :: M) k := by
  refine ⟨_, _, _, hk, fun s hA => ?_⟩
  obtain ⟨j, hl⟩ := SrcL.at (M := (e, .raw (enumO it)) :: (it, .raw o) :: M) (Or.inl S) hA
  obtain ⟨_, he, rfl⟩ := hA.mem (e, .raw (enumO it)) (.head _)
  obtain ⟨_, hi, rfl⟩ := hA.mem (it, .raw o) (.tail _ (.head _))
  have o1 := hA.head_out
  have o2 := hA.drop.head_out
  have hei : e ≠ it := fun q => o1.2.2 (by rw [q]; exact List.mem_append_right _ (.head _))
  have ko := hA.known_out S
  have hae : a ≠ e := fun q => ko (by rw [q]; exact List.mem_append_right _ (.head _))
  have hai : a ≠ it := fun q => ko (by rw [q]; exact List.mem_append_right _ (.tail _ (.head _)))
  have WW := Itr.ofWalksT (elts := elts) (k := kk) (pos := pt) (WalksT.enumerate (prog := prog) (w := w) O.room.handled e it a hei hae hai vs.toArray) (fun i h st b hb => by
    obtain ⟨⟨old, x1⟩, ⟨o2, x2, _⟩, ⟨o3, x3, _⟩⟩ := st
    simp at hb
    rcases hb with rfl | rfl | rfl
    · exact ⟨_, x1⟩
    · exact ⟨_, x2⟩
    · exact ⟨_, x3⟩)
  have W2 : Itr prog w c.A (.Tuple elts kk pt) e [e, it, a] [e, it] vs.length (fun i v h => ∃ T vals, v = .ref T ∧ (∃ t x, vs[i]? = some x ∧ vals = #[.int i t, x]) ∧ h.IsTuple T vals) (fun i h => (∃ old, IsEnum h e it i old) ∧ h.IsListIter it a i ∧ h.IsList a vs.toArray) := by simpa using WW
  refine wpAny_pyIter_enum (it := it) he ⟨e, _, _, _, rfl, W2, ⟨⟨_, he⟩, ⟨_, hi, hc, hd⟩, hl.isList⟩, hA.drop.drop, ⟨rfl, rfl, rfl⟩, fun b hb => ?_, fun b hb => ?_⟩
  · simp at hb
    rcases hb with rfl | rfl
    · exact ⟨o1.1, o1.2.1⟩
    · exact ⟨o2.1, o2.2.1⟩
  · simp at hb
    rcases hb with rfl | rfl | rfl
    · exact fun q => o1.2.2 (by
        rcases List.mem_append.mp q with q | q
        · exact List.mem_append_left _ q
        · exact List.mem_append_right _ (.tail _ q))
    · exact o2.2.2
    · exact hA.drop.drop.known_out S

-- targets that are tuples
theorem T.inOrder_nil {fs : List (Value → Sem Unit)} {Q : Post Unit} (h : Q () g ρ M) : T prog w c (assignInOrder fs []) Q g ρ M := by
  cases fs <;> exact T.pure h
theorem T.inOrder_cons {f : Value → Sem Unit} {fs : List (Value → Sem Unit)} {v : Value} {vs : List Value} {Q : Post Unit} (h : T prog w c (f v) (fun _ g ρ M => T prog w c (assignInOrder fs vs) Q g ρ M) g ρ M) : T prog w c (assignInOrder (f :: fs) (v :: vs)) Q g ρ M := by
  show T prog w c (PySem.holding vs (f v) >>= fun _ => assignInOrder fs vs) Q g ρ M
  exact T.bind (T.holding h)
theorem T.unpackT {elts : List Expr} {kk : Nat} {pt : Pos} {t : Addr} {vals : List Value} {Q : Post Unit} (O : c.Ok K n) (ht : c.h₀.IsTuple t vals.toArray ∨ Tup g t vals) (hn : (assignEach elts c.env).length = vals.length) (hstar : (assignEach elts c.env).findIdx? (·.1) = none)
    (h : T prog w c (assignInOrder ((assignEach elts c.env).map (·.2)) vals) Q g ρ M) : T prog w c (assign (.Tuple elts kk pt) c.env (.ref t)) Q g ρ M := fun s hA => by
  have ht' : s.heap.IsTuple t vals.toArray := by
    rcases ht with ⟨o, ho, r⟩ | S
    · exact ⟨o, hA.keep _ _ ho, r⟩
    · exact ⟨_, Tup.at S hA, rfl, 0, rfl⟩
  refine wpAny_assign_Tuple O.room.handled ht' (by simpa using hn) hstar fun h' x => ?_
  have x' : Ext s.heap h' := fun b o e => x b o (Nat.ne_of_lt (Heap.lt_size e)) e
  exact wpAny_mono (h { s with heap := h' } (hA.ext x')) (fun _ _ ⟨g', ρ', M', a, b, c, d⟩ => ⟨g', ρ', M', a, b, c, d⟩) fun _ _ e => e
end
end Mine

namespace Mine

section
variable {prog : Program} {w : World} {A : Around} {E : Value → Shared → Prop} {s : Shared}

theorem nextOf_tuple_item {it l : Addr} {i : Nat} {items : Array Value} {x : Value} {Q : Value → Shared → Prop} (hit : s.heap.IsTupleIter it l i)
    (hl : s.heap.IsTuple l items) (hx : items[i]? = some x)
    (hQ : ∀ h', h'.IsTupleIter it l (i + 1) → Heap.SameBut it s.heap h' → Q x { s with heap := h' }) :
    wpAny (model prog w) A (Builtin.SmallTypes.nextOf (.ref it)) Q E s := by
  obtain ⟨o, ho, hc, hd⟩ := id hit
  obtain ⟨ol, hol, _, nl, hdl⟩ := hl
  unfold Builtin.SmallTypes.nextOf
  refine wpAny_bind (wpAny_callSpecial?_slot (name := Str.ofString "__next__") hit.typeIs F.slot_tuple_iterator_next
    (wpAny_call_entry F.slot_tuple_iterator_next hit.typeIs F.entry_tuple_iterator_next ?_ (F.args_tuple_iterator_next_1 _)))
  show wpAny _ _ (field (.ref it) 0 >>= _) _ _ s
  refine wpAny_bind (wpAny_field ho hd (x := .ref l) rfl ?_)
  show wpAny _ _ (if (Value.ref l == Value.none) = true then _ else _) _ _ s
  rw [if_neg (show ¬ ((Value.ref l == Value.none) = true) from Bool.false_ne_true)]
  show wpAny _ _ (field (.ref it) 1 >>= _) _ _ s
  refine wpAny_bind (wpAny_field ho hd (x := .int i 0) rfl ?_)
  show wpAny _ _ (seqItems? (.ref l) >>= _) _ _ s
  refine wpAny_bind (wpAny_seqItems hol hdl ?_)
  simp only [Int.toNat_natCast, hx]
  refine wpAny_bind (wpAny_setField ho hd (by simp) (wpAny_pure ⟨x, rfl, wpAny_pure (hQ _ ?_ (Heap.SameBut.update ..))⟩))
  exact ⟨_, Heap.get?_update_self _ ho (Obj.isFreed_of_fields (Obj.data_mapFields hd _)), (Obj.cls_mapFields ..).trans hc, by
    rw [Obj.data_mapFields hd]; simp [rawInt]⟩
theorem nextOf_tuple_end {it l : Addr} {i : Nat} {items : Array Value} {Q : Value → Shared → Prop} (hh : A.handled = none)
    (hit : s.heap.IsTupleIter it l i) (hl : s.heap.IsTuple l items) (hx : items[i]? = none)
    (hE : ∀ h' e, Heap.ExtBut it s.heap h' → (∃ o, h'.get? e = some o ∧ o.cls = .type "StopIteration") → E (.ref e) { s with heap := h' }) :
    wpAny (model prog w) A (Builtin.SmallTypes.nextOf (.ref it)) Q E s := by
  obtain ⟨o, ho, hc, hd⟩ := id hit
  obtain ⟨ol, hol, _, nl, hdl⟩ := hl
  unfold Builtin.SmallTypes.nextOf
  refine wpAny_bind (wpAny_callSpecial?_slot (name := Str.ofString "__next__") hit.typeIs F.slot_tuple_iterator_next
    (wpAny_call_entry F.slot_tuple_iterator_next hit.typeIs F.entry_tuple_iterator_next ?_ (F.args_tuple_iterator_next_1 _)))
  show wpAny _ _ (field (.ref it) 0 >>= _) _ _ s
  refine wpAny_bind (wpAny_field ho hd (x := .ref l) rfl ?_)
  show wpAny _ _ (if (Value.ref l == Value.none) = true then _ else _) _ _ s
  rw [if_neg (show ¬ ((Value.ref l == Value.none) = true) from Bool.false_ne_true)]
  show wpAny _ _ (field (.ref it) 1 >>= _) _ _ s
  refine wpAny_bind (wpAny_field ho hd (x := .int i 0) rfl ?_)
  show wpAny _ _ (seqItems? (.ref l) >>= _) _ _ s
  refine wpAny_bind (wpAny_seqItems hol hdl ?_)
  simp only [Int.toNat_natCast, hx]
  refine wpAny_bind (wpAny_rule (wpAny_bind (wpAny_setField ho hd (by simp) ?_)))
  show wpAny _ _ (newExc (.type "StopIteration") [] >>= _) _ _ _
  refine wpAny_bind ?_
  simp only [newExc, newTuple]
  refine wpAny_bind (wpAny_newObj_type ?_ (by size_fits))
  refine wpAny_bind (m := firstArgMember _ _) (wpAny_of_eq (a := Value.none) (by first | rfl | (simp only [firstArgMember]; rfl)) ?_)
  refine wpAny_newObj_type ?_ (by size_fits)
  simp only [raiseNew]
  refine wpAny_bind (wpAny_handled ?_)
  first | rw [show A.in1.handled = none from hh] | rw [hh]
  refine wpAny_bind (wpAny_pure (wpAny_throw ?_))
  exact hE _ _ (((Heap.SameBut.update ..).extBut.push _).push _) ⟨_, Heap.get?_push_size _ rfl, rfl⟩

/-- an iterator over a list or a tuple, and what it walks over -/
structure Zd where
  i : Addr
  l : Addr
  xs : List Value
def Zd.At (d : Zd) (h : Heap) (k : Nat) : Prop := (h.IsListIter d.i d.l k ∧ h.IsList d.l d.xs.toArray) ∨ (h.IsTupleIter d.i d.l k ∧ h.IsTuple d.l d.xs.toArray)
theorem Zd.At.ext {d : Zd} {h h' : Heap} {k : Nat} (a : d.At h k) (hi : ∀ o, h.get? d.i = some o → h'.get? d.i = some o) (hl : ∀ o, h.get? d.l = some o → h'.get? d.l = some o) : d.At h' k :=
  a.imp (fun a => ⟨a.1.at hi, a.2.at hl⟩) fun a => ⟨a.1.at hi, a.2.at hl⟩
theorem Zd.At.live {d : Zd} {h : Heap} {k : Nat} (a : d.At h k) : (∃ o, h.get? d.i = some o) ∧ ∃ o, h.get? d.l = some o := by
  rcases a with a | a <;> exact ⟨let ⟨o, e, _⟩ := a.1; ⟨o, e⟩, let ⟨o, e, _⟩ := a.2; ⟨o, e⟩⟩
theorem Zd.next {d : Zd} {k : Nat} {x : Value} {Q : Value → Shared → Prop} (a : d.At s.heap k) (hne : d.l ≠ d.i) (hx : d.xs[k]? = some x) (hQ : ∀ h', d.At h' (k + 1) → Heap.SameBut d.i s.heap h' → Q x { s with heap := h' }) :
    wpAny (model prog w) A (Builtin.SmallTypes.nextOf (.ref d.i)) Q E s := by
  rcases a with a | a
  · exact wpAny_nextOf_list_item a.1 a.2 (by simpa using hx) fun h' h1 h2 => hQ h' (.inl ⟨h1, a.2.extBut h2.extBut hne⟩) h2
  · exact nextOf_tuple_item a.1 a.2 (by simpa using hx) fun h' h1 h2 => hQ h' (.inr ⟨h1, a.2.extBut h2.extBut hne⟩) h2
theorem Zd.end {d : Zd} {k : Nat} {Q : Value → Shared → Prop} (hh : A.handled = none) (a : d.At s.heap k) (hx : d.xs[k]? = none)
    (hE : ∀ h' e, Heap.ExtBut d.i s.heap h' → (∃ o, h'.get? e = some o ∧ o.cls = .type "StopIteration") → E (.ref e) { s with heap := h' }) :
    wpAny (model prog w) A (Builtin.SmallTypes.nextOf (.ref d.i)) Q E s := by
  rcases a with a | a
  · exact wpAny_nextOf_list_end hh a.1 a.2 (by simpa using hx) hE
  · exact nextOf_tuple_end hh a.1 a.2 (by simpa using hx) hE

abbrev IsTp (h : Heap) (T : Addr) (vs : List Value) : Prop := h.get? T = some { cls := .type "tuple", data := .seq vs.toArray }
theorem updateSeq_tp {T : Addr} {vs us : List Value} {x : Value} {k : Nat} {Q : Unit → Shared → Prop} (hT : IsTp s.heap T vs) (hu : vs.set k x = us) (hz : vs.length ≤ 1000)
    (h : ∀ h', IsTp h' T us → Heap.SameBut T s.heap h' → Q () { s with heap := h' }) :
    wpAny (model prog w) A (updateSeq T (·.setIfInBounds k x)) Q E s := by
  refine wpAny_updateSeq hT rfl (h _ ?_ (Heap.SameBut.update ..)) (by have := sizeLine_eq; simp; omega) (by have := sizeLine_eq; simp; omega)
  show Heap.get? _ _ = _
  rw [Heap.get?_update_self _ hT rfl]
  simp [Obj.mapSeq, hu]
  rw [← hu]; simp

structure Zap (z TI TO : Addr) (ds : List Zd) : Prop where
  ne : ds ≠ []
  TIz : TI ≠ z
  TOz : TO ≠ z
  TITO : TI ≠ TO
  nd : (ds.map (·.i)).Nodup
  iz : ∀ d ∈ ds, d.i ≠ z
  iTI : ∀ d ∈ ds, d.i ≠ TI
  iTO : ∀ d ∈ ds, d.i ≠ TO
  lz : ∀ d ∈ ds, d.l ≠ z
  lTO : ∀ d ∈ ds, d.l ≠ TO
  li : ∀ d ∈ ds, ∀ e ∈ ds, d.l ≠ e.i

theorem zipN_item {z TI TO : Addr} {ds : List Zd} {k : Nat} {old : List Value} {vals : List Value} {Q : Value → Shared → Prop} (D : Zap z TI TO ds)
    (hz : IsZip s.heap z TI TO .none) (hTI : IsTp s.heap TI (ds.map fun d => .ref d.i)) (hTO : IsTp s.heap TO old) (ho : old.length = ds.length) (hd : ∀ d ∈ ds, d.At s.heap k)
    (hv : vals.length = ds.length) (hsm : ds.length ≤ 900) (hx : ∀ (j : Nat) (d : Zd), ds[j]? = some d → d.xs[k]? = vals[j]?)
    (hQ : ∀ h', IsZip h' z TI TO (rawInt s.heap.objs.size) → IsTp h' TI (ds.map fun d => .ref d.i) → IsTp h' TO vals → (∀ d ∈ ds, d.At h' (k + 1)) → IsTp h' s.heap.objs.size vals → h'.objs.size = s.heap.objs.size + 1 →
      (∀ c o, c ≠ z → c ≠ TO → c ∉ ds.map (·.i) → s.heap.get? c = some o → h'.get? c = some o) → Q (.ref s.heap.objs.size) { s with heap := h' }) :
    wpAny (model prog w) A (Builtin.«zip.__next__» ⟨[.ref z], []⟩) (fun fin s' => ∃ v, fin = .done (.ret v) ∧ Q v s') E s := by
  show wpAny _ _ (field (.ref z) 2 >>= _) _ _ _
  refine wpAny_bind (wpAny_field hz rfl (x := .bool false) rfl ?_)
  show wpAny _ _ (field (.ref z) 3 >>= _) _ _ _
  refine wpAny_bind (wpAny_field hz rfl (x := .ref TI) rfl ?_)
  refine wpAny_bind (wpAny_seqItems hTI rfl ?_)
  dsimp only
  rw [if_neg (by have := D.ne; cases ds <;> simp_all)]
  show wpAny _ _ (Builtin.SmallTypes.ownedTupleIsFree (.ref z) >>= _) _ _ _
  refine wpAny_bind ?_
  unfold Builtin.SmallTypes.ownedTupleIsFree
  refine wpAny_bind (wpAny_field hz rfl (x := .none) rfl (wpAny_pure ?_))
  simp only [if_true]
  refine wpAny_bind (wpAny_rule ?_)
  refine wpAny_bind (wpAny_field hz rfl (x := .ref TO) rfl ?_)
  refine wpAny_bind (wpAny_setField_rec hz (by simp) fun h₁ hz₁ hs₁ => ?_)
  replace hz₁ : IsZip h₁ z TI TO .ellipsis := hz₁
  refine wpAny_bind ?_
  refine wpAny_forIn_list _ (fun rest b s' => b = ⟨none, PUnit.unit⟩ ∧ ∃ pre suf vs olds h', ds = pre ++ suf ∧ rest = (suf.map fun d => Value.ref d.i).zipIdx pre.length ∧ vals.take pre.length = vs ∧ olds.length = suf.length ∧ s' = { s with heap := h' } ∧
    IsZip h' z TI TO .ellipsis ∧ IsTp h' TI (ds.map fun d => .ref d.i) ∧ IsTp h' TO (vs ++ olds) ∧ (∀ d ∈ pre, d.At h' (k + 1)) ∧ (∀ d ∈ suf, d.At h' k) ∧ h'.objs.size = s.heap.objs.size ∧
    (∀ c o, c ≠ z → c ≠ TO → c ∉ ds.map (·.i) → s.heap.get? c = some o → h'.get? c = some o)) _ ?_ ?_ _ _ ?_
  · rintro ⟨xv, j⟩ rest b s' ⟨rfl, pre, suf, vs, olds, h', hds, hrest, hvs, hol, rfl, hz', hTI', hTO', hpre, hsuf, hsz, hk⟩
    cases suf with
    | nil => cases hrest
    | cons d suf =>
      cases olds with
      | nil => cases hol
      | cons o olds =>
        rw [List.map_cons, List.zipIdx_cons] at hrest
        obtain ⟨e1, e2⟩ := List.cons.inj hrest
        obtain ⟨e3, e4⟩ := Prod.mk.inj e1
        subst e3; subst e4
        have hdm : d ∈ ds := by rw [hds]; simp
        have hj : ds[pre.length]? = some d := by rw [hds]; simp
        have hxx := hx _ _ hj
        have hlt : pre.length < vals.length := by rw [hv, hds]; simp
        rw [List.getElem?_eq_getElem hlt] at hxx
        have vl : vs.length = pre.length := by rw [← hvs, List.length_take]; omega
        refine wpAny_bind (wpAny_onRaise ?_)
        show wpAny _ _ (Builtin.SmallTypes.nextOf (.ref d.i) >>= _) _ _ _
        refine wpAny_bind (Zd.next (hsuf d (.head _)) (D.li d hdm d hdm) hxx fun h₂ hd₂ hs₂ => wpAny_pure ?_)
        have hTO₂ : IsTp h₂ TO (vs ++ o :: olds) := hs₂.extBut _ _ (Ne.symm (D.iTO d hdm)) hTO'
        refine wpAny_bind (wpAny_seqItems hTO₂ rfl ?_)
        refine wpAny_bind (updateSeq_tp (us := (vs ++ [vals[pre.length]]) ++ olds) hTO₂ (by show (vs ++ o :: olds).set pre.length _ = _; rw [List.set_append_right _ _ (by omega), vl, Nat.sub_self]; simp) (by rw [hds] at hsm; simp at hsm hol ⊢; omega) fun h₃ hTO₃ hs₃ => ?_)
        refine wpAny_bind (wpAny_letGo (wpAny_pure ⟨rfl, pre ++ [d], suf, _, olds, h₃, by rw [hds]; simp, by rw [e2]; simp, ?_, by simpa using hol, rfl, ?_, ?_, hTO₃, ?_, ?_, ?_, ?_⟩))
        · rw [List.length_append, List.length_singleton, List.take_add_one, hvs, List.getElem?_eq_getElem hlt]; rfl
        · exact hs₃.extBut _ _ D.TOz.symm (hs₂.extBut _ _ (D.iz d hdm).symm hz')
        · exact hs₃.extBut _ _ D.TITO (hs₂.extBut _ _ (D.iTI d hdm).symm hTI')
        · have nd := D.nd
          rw [hds, List.map_append, List.map_cons] at nd
          obtain ⟨n1, n2, n3⟩ := List.nodup_append.mp nd
          intro e he
          have hem : ∀ e ∈ pre, e ∈ ds := fun e he => by rw [hds]; exact List.mem_append_left _ he
          rcases List.mem_append.mp he with he | he
          · exact (hpre e he).ext (fun o x => hs₃.extBut _ _ (D.iTO e (hem e he)) (hs₂.extBut _ _ (n3 e.i (List.mem_map_of_mem he) d.i (.head _)) x)) fun o x => hs₃.extBut _ _ (D.lTO e (hem e he)) (hs₂.extBut _ _ (D.li e (hem e he) d hdm) x)
          · rw [List.mem_singleton.mp he]
            exact hd₂.ext (fun o x => hs₃.extBut _ _ (D.iTO d hdm) x) fun o x => hs₃.extBut _ _ (D.lTO d hdm) x
        · have nd := D.nd
          rw [hds, List.map_append, List.map_cons] at nd
          obtain ⟨n1, n2, n3⟩ := List.nodup_append.mp nd
          intro e he
          have hem : e ∈ ds := by rw [hds]; exact List.mem_append_right _ (.tail _ he)
          exact (hsuf e (.tail _ he)).ext (fun o x => hs₃.extBut _ _ (D.iTO e hem) (hs₂.extBut _ _ (fun q => (List.nodup_cons.mp n2).1 (by rw [← q]; exact List.mem_map_of_mem (f := (·.i)) he)) x)) fun o x => hs₃.extBut _ _ (D.lTO e hem) (hs₂.extBut _ _ (D.li e hem d hdm) x)
        · rw [hs₃.1, hs₂.1]; exact hsz
        · exact fun c o c1 c2 c3 x => hs₃.extBut _ _ c2 (hs₂.extBut _ _ (fun q => c3 (by rw [q]; exact List.mem_map_of_mem (f := (·.i)) hdm)) (hk c o c1 c2 c3 x))
  · rintro b s' ⟨rfl, pre, suf, vs, olds, h₅, hds, hrest, hvs, hol, rfl, hz₅, hTI₅, hTO₅, hpre, hsuf, hsz, hk⟩
    have hs0 : suf = [] := by cases suf with | nil => rfl | cons => cases hrest
    subst hs0
    have ho0 : olds = [] := List.eq_nil_of_length_eq_zero (by simpa using hol)
    subst ho0
    rw [List.append_nil] at hds hTO₅
    subst hds
    rw [List.take_of_length_le (by omega)] at hvs
    subst hvs
    dsimp only
    refine wpAny_bind (wpAny_seqItems hTO₅ rfl ?_)
    refine wpAny_bind (wpAny_newTuple ?_ (by have := sizeLine_eq; simp; omega))
    have hzlt : z < h₅.objs.size := Heap.lt_size hz₅
    show wpAny _ _ (Builtin.SmallTypes.ownedTupleHandOut (.ref z) (.ref h₅.objs.size) >>= _) _ _ _
    refine wpAny_bind ?_
    unfold Builtin.SmallTypes.ownedTupleHandOut
    have hz₆ : IsZip (h₅.push { cls := .type "tuple", data := .seq vals.toArray }) z TI TO .ellipsis := Heap.get?_push_of_some _ hz₅
    refine wpAny_bind (wpAny_setField_rec hz₆ (by simp) fun h₇ hz₇ hs₇ => ?_)
    replace hz₇ : IsZip h₇ z TI TO (rawInt h₅.objs.size) := hz₇
    refine wpAny_setField_rec hz₇ (by simp) fun h₈ hz₈ hs₈ => ?_
    replace hz₈ : IsZip h₈ z TI TO (rawInt h₅.objs.size) := hz₈
    have up : ∀ c o, c ≠ z → h₅.get? c = some o → h₈.get? c = some o := fun c o c1 e => hs₈.extBut _ _ c1 (hs₇.extBut _ _ c1 (Heap.get?_push_of_some _ e))
    have hT₈ : IsTp h₈ h₅.objs.size vals := hs₈.extBut _ _ (Nat.ne_of_gt hzlt) (hs₇.extBut _ _ (Nat.ne_of_gt hzlt) (Heap.get?_push_size _ rfl))
    have hz8 : h₈.objs.size = h₅.objs.size + 1 := by rw [hs₈.1, hs₇.1, Heap.size_push]
    rw [hsz] at hz₈ hT₈ hz8
    refine wpAny_pure ⟨_, rfl, ?_⟩
    show Q (.ref h₅.objs.size) _
    rw [hsz]
    exact hQ h₈ hz₈ (up _ _ D.TIz hTI₅) (up _ _ D.TOz hTO₅) (fun d hd => (hpre d hd).ext (fun o e => up _ o (D.iz d (by simpa using hd)) e) fun o e => up _ o (D.lz d (by simpa using hd)) e) hT₈ hz8 fun c o c1 c2 c3 e => up c o c1 (hk c o c1 c2 c3 e)
  · exact ⟨rfl, [], ds, [], old, h₁, rfl, by simp, rfl, ho, rfl, hz₁, hs₁.extBut _ _ D.TIz hTI, by simpa using hs₁.extBut _ _ D.TOz hTO, (fun d hd => nomatch hd), fun d hdm => (hd d hdm).ext (fun o e => hs₁.extBut _ _ (D.iz d hdm) e) fun o e => hs₁.extBut _ _ (D.lz d hdm) e, hs₁.1,
      fun c o c1 c2 c3 e => hs₁.extBut _ _ c1 e⟩

theorem zipN_end {z TI TO : Addr} {d₀ : Zd} {ds : List Zd} {k : Nat} {Q : Fin → Shared → Prop} (hh : A.handled = none) (D : Zap z TI TO (d₀ :: ds))
    (hz : IsZip s.heap z TI TO .none) (hTI : IsTp s.heap TI ((d₀ :: ds).map fun d => .ref d.i)) (hd : d₀.At s.heap k) (hx : d₀.xs[k]? = none)
    (hE : ∀ h' e, (∀ c o, c ≠ z → c ∉ (d₀ :: ds).map (·.i) → s.heap.get? c = some o → h'.get? c = some o) → (∃ o, h'.get? e = some o ∧ o.cls = .type "StopIteration") → E (.ref e) { s with heap := h' }) :
    wpAny (model prog w) A (Builtin.«zip.__next__» ⟨[.ref z], []⟩) Q E s := by
  show wpAny _ _ (field (.ref z) 2 >>= _) _ _ _
  refine wpAny_bind (wpAny_field hz rfl (x := .bool false) rfl ?_)
  show wpAny _ _ (field (.ref z) 3 >>= _) _ _ _
  refine wpAny_bind (wpAny_field hz rfl (x := .ref TI) rfl ?_)
  refine wpAny_bind (wpAny_seqItems hTI rfl ?_)
  dsimp only
  rw [if_neg (by simp)]
  show wpAny _ _ (Builtin.SmallTypes.ownedTupleIsFree (.ref z) >>= _) _ _ _
  refine wpAny_bind ?_
  unfold Builtin.SmallTypes.ownedTupleIsFree
  refine wpAny_bind (wpAny_field hz rfl (x := .none) rfl (wpAny_pure ?_))
  simp only [if_true]
  refine wpAny_bind (wpAny_rule ?_)
  refine wpAny_bind (wpAny_field hz rfl (x := .ref TO) rfl ?_)
  refine wpAny_bind (wpAny_setField_rec hz (by simp) fun h₁ hz₁ hs₁ => ?_)
  replace hz₁ : IsZip h₁ z TI TO .ellipsis := hz₁
  refine wpAny_bind ?_
  simp only [List.map_cons, List.zipIdx_cons, List.forIn_cons]
  refine wpAny_bind (wpAny_bind (wpAny_onRaise ?_))
  show wpAny _ _ (Builtin.SmallTypes.nextOf (.ref d₀.i) >>= _) _ _ _
  have m0 := List.mem_cons_self (a := d₀) (l := ds)
  refine wpAny_bind (Zd.end hh (hd.ext (fun o e => hs₁.extBut _ _ (D.iz d₀ m0) e) fun o e => hs₁.extBut _ _ (D.lz d₀ m0) e) hx fun h₂ e hs₂ he => ?_)
  obtain ⟨oe, hoe, hce⟩ := he
  have hz₂ : IsZip h₂ z TI TO .ellipsis := hs₂ _ _ (D.iz d₀ m0).symm hz₁
  have hez : e ≠ z := fun x => by subst x; rw [hz₂] at hoe; cases hoe; simp at hce
  refine wpAny_setField_rec hz₂ (by simp) fun h₃ _ hs₃ => hE h₃ e (fun c o c1 c3 x => hs₃.extBut _ _ c1 (hs₂ _ _ (fun q => c3 (by rw [q]; exact .head _)) (hs₁.extBut _ _ c1 x))) ⟨oe, hs₃.extBut _ _ hez hoe, hce⟩

-- the walk
theorem zvals {i : Nat} : ∀ dd : List Zd, (∀ e ∈ dd, i < e.xs.length) → ∃ vals : List Value, vals.map some = dd.map (fun d => d.xs[i]?)
  | [], _ => ⟨[], rfl⟩
  | e :: r, lt => by
    obtain ⟨vs, hvs⟩ := zvals r fun e he => lt e (.tail _ he)
    exact ⟨e.xs[i]'(lt e (.head _)) :: vs, by rw [List.map_cons, List.map_cons, hvs, List.getElem?_eq_getElem (lt e (.head _))]⟩
theorem Itr.zip {elts : List Expr} {kk : Nat} {pt : Pos} {z TI TO : Addr} {d₀ : Zd} {ds : List Zd} {m : Nat} (hh : A.handled = none) (D : Zap z TI TO (d₀ :: ds)) (hsm : (d₀ :: ds).length ≤ 900) (hm : ∀ d ∈ d₀ :: ds, d.xs.length = m) :
    Itr prog w A (.Tuple elts kk pt) z (z :: TI :: TO :: ((d₀ :: ds).map (·.i) ++ (d₀ :: ds).map (·.l))) (z :: TO :: (d₀ :: ds).map (·.i)) m
      (fun i v h => ∃ (T : Addr) (vals : List Value), v = .ref T ∧ vals.map some = (d₀ :: ds).map (fun d => d.xs[i]?) ∧ h.IsTuple T vals.toArray)
      (fun i h => IsZip h z TI TO .none ∧ IsTp h TI ((d₀ :: ds).map fun d => .ref d.i) ∧ (∃ old, old.length = (d₀ :: ds).length ∧ IsTp h TO old) ∧ ∀ d ∈ d₀ :: ds, d.At h i) where
  sub := fun b hb => by
    simp only [List.mem_cons, List.mem_append] at hb ⊢
    rcases hb with hb | hb | hb
    · exact .inl hb
    · exact .inr (.inr (.inl hb))
    · exact .inr (.inr (.inr (.inl (by simpa using hb))))
  frame := fun i h h' ⟨a, b, ⟨old, c1, c2⟩, d⟩ hk => ⟨hk z (.head _) _ a, hk TI (.tail _ (.head _)) _ b, ⟨old, c1, hk TO (.tail _ (.tail _ (.head _))) _ c2⟩, fun e he => (d e he).ext
    (fun o x => hk _ (.tail _ (.tail _ (.tail _ (List.mem_append_left _ (List.mem_map_of_mem he))))) o x) fun o x => hk _ (.tail _ (.tail _ (.tail _ (List.mem_append_right _ (List.mem_map_of_mem he))))) o x⟩
  live := fun i h ⟨a, b, ⟨old, c1, c2⟩, d⟩ x hx => by
    rcases List.mem_cons.mp hx with rfl | hx
    · exact ⟨_, a⟩
    · rcases List.mem_cons.mp hx with rfl | hx
      · exact ⟨_, b⟩
      · rcases List.mem_cons.mp hx with rfl | hx
        · exact ⟨_, c2⟩
        · rcases List.mem_append.mp hx with hx | hx <;> (obtain ⟨e, he, rfl⟩ := List.mem_map.mp hx)
          · exact (d e he).live.1
          · exact (d e he).live.2
  turn := fun i s hi ⟨a, b, ⟨old, c1, c2⟩, d⟩ => by
    have hT : s.TypeIs (.ref z) "zip" := ⟨_, a, rfl⟩
    have lt : ∀ e ∈ d₀ :: ds, i < e.xs.length := fun e he => by rw [hm e he]; exact hi
    obtain ⟨vals, hv⟩ : ∃ vals : List Value, vals.map some = (d₀ :: ds).map (fun d => d.xs[i]?) := by
      have : ∀ dd : List Zd, (∀ e ∈ dd, i < e.xs.length) → ∃ vals : List Value, vals.map some = dd.map (fun d => d.xs[i]?) := zvals
      exact this _ lt
    have hlen : vals.length = (d₀ :: ds).length := by have := congrArg List.length hv; simpa using this
    have hx : ∀ (j : Nat) (e : Zd), (d₀ :: ds)[j]? = some e → e.xs[i]? = vals[j]? := fun j e he => by
      have := congrArg (fun l => l[j]?) hv
      simp only [List.getElem?_map, he, Option.map_some] at this
      cases q : vals[j]? with
      | none => rw [q] at this; cases this
      | some x => rw [q] at this; exact (Option.some.inj this).symm
    unfold pyNext
    refine wpAny_bind (wpAny_attempt (wpAny_callSpecial?_slot (name := Str.ofString "__next__") hT F.slot_zip_next
      (wpAny_call_entry F.slot_zip_next hT F.entry_zip_next
        (zipN_item D a b c2 c1 d hlen hsm hx fun h' a1 a2 a3 a4 a5 a6 a7 => wpAny_pure ⟨_, rfl, ?_⟩) (F.args_zip_next_1 _))))
    refine wpAny_letOwnedTupleGo_zip a1 fun h2 z2 s2 => ?_
    have nT : ∀ x o, s.heap.get? x = some o → s.heap.objs.size ≠ x := fun x o e => Nat.ne_of_gt (Heap.lt_size e)
    refine ⟨⟨z2, s2.extBut _ _ D.TIz a2, ⟨vals, hlen, s2.extBut _ _ D.TOz a3⟩, fun e he => (a4 e he).ext (fun o x => s2.extBut _ _ (D.iz e he) x) fun o x => s2.extBut _ _ (D.lz e he) x⟩, ⟨rfl, rfl, rfl⟩, fun x o hx e => ?_, fun h3 hn => ⟨_, vals, rfl, hv, ?_⟩⟩
    · simp only [List.mem_cons, not_or] at hx
      exact s2.extBut _ _ hx.1 (a7 x o hx.1 hx.2.1 (by simpa using hx.2.2) e)
    · exact ⟨_, hn _ _ (heap_new s.heap) (s2.extBut _ _ (nT z _ a) a5), rfl, 0, rfl⟩
  done := fun s ⟨a, b, ⟨old, c1, c2⟩, d⟩ => by
    have hT : s.TypeIs (.ref z) "zip" := ⟨_, a, rfl⟩
    unfold pyNext
    refine wpAny_bind (wpAny_attempt (wpAny_callSpecial?_slot (name := Str.ofString "__next__") hT F.slot_zip_next
      (wpAny_call_entry F.slot_zip_next hT F.entry_zip_next (zipN_end hh D a b (d d₀ (.head _)) (List.getElem?_eq_none (by rw [hm d₀ (.head _)]; exact Nat.le_refl _)) fun h' e hk he => ?_) (F.args_zip_next_1 _))))
    obtain ⟨o, ho, hc⟩ := he
    refine wpAny_bind (wpAny_isInstance (T := "StopIteration") (b := true) ⟨o, ho, hc⟩ isSubtype_stop ?_)
    refine wpAny_pure ⟨rfl, ⟨rfl, rfl, rfl⟩, fun x o hx e => ?_⟩
    simp only [List.mem_cons, not_or] at hx
    exact hk x o hx.1 (by simpa using hx.2.2) e
  self := fun i s ⟨a, b, _, d⟩ => wpAny_pyIter_zip a ⟨rfl, rfl⟩
end
end Mine

namespace Mine

def tupO (vs : List Value) : Obj := { cls := .type "tuple", data := .seq vs.toArray }
def zipO (TI TO : Addr) : Obj := { cls := .type "zip", data := .fields #[.none, .bool false, .bool false, .ref TI, .ref TO] }
def itTy : Bool → String | true => "tuple_iterator" | false => "list_iterator"
def zmem (zs : List (Zd × Bool)) : Mem := zs.map fun d => (d.1.i, .raw (iterO (itTy d.2) d.1.l))
def ZipM (z TI TO : Addr) (zs : List (Zd × Bool)) : Mem := (z, .raw (zipO TI TO)) :: (TO, .raw (tupO (zs.map fun _ => .none))) :: (TI, .raw (tupO (zs.map fun d => .ref d.1.i))) :: zmem zs
def isSeq (g : G) (tup : Bool) (a : Addr) (xs : List Value) : Prop := match tup with | true => Tup g a xs | false => Lst g a xs

theorem typeCall_zip_3 (a b c : Value) : checkTypeCall "zip" ⟨[a, b, c], []⟩ = pure () := by kernel_rfl
theorem newCall_zip_3 (a b c : Value) : checkBuiltinCall "zip.__new__" ⟨[.type "zip", a, b, c], []⟩ = pure () := by kernel_rfl
theorem args_object_init_4 (a b c d : Value) : argsOk "object.__init__" ⟨[a, b, c, d], []⟩ := by
  unfold argsOk; rw [signature?_of (id := "object.__init__") (n := ['_', '_', 't', 'i', 'n', 'i', '_', '_']) (o := ['t', 'c', 'e', 'j', 'b', 'o']) (by kernel_rfl) F.owner_object]; kernel_rfl

abbrev zH1 (h : Heap) (t1 : Bool) (l1 : Addr) : Heap := h.push (iterO (itTy t1) l1)
theorem Heap.IsList.pushed {h : Heap} {a : Addr} {xs : Array Value} (x : h.IsList a xs) (o : Obj) : (h.push o).IsList a xs := x.push o

theorem meets_zip_TT (l1 l2 : Addr) (xs ys : Array Value) :
    Meets (Builtin.«zip.__new__» ⟨[.type "zip", .ref l1, .ref l2], []⟩) (fun _ R s => s.heap.IsTuple l1 xs ∧ s.heap.IsTuple l2 ys ∧
      R (.ok (.ret (.ref (s.heap.objs.size + 4)))) { s with heap := ((((s.heap.push (iterO "tuple_iterator" l1)).push (iterO "tuple_iterator" l2)).push (tupO [.ref s.heap.objs.size, .ref (s.heap.objs.size + 1)])).push (tupO [.none, .none])).push (zipO (s.heap.objs.size + 2) (s.heap.objs.size + 3)) }) :=
  .of_wp fun prog w A R s h => by
    obtain ⟨hp, g, d, tk, os⟩ := s; obtain ⟨hl1, hl2, h⟩ := h
    have hsub := sub_zip
    have hL1 : Heap.IsTuple (Shared.heap ⟨hp, g, d, tk, os⟩) l1 xs := hl1
    have hL2 : Heap.IsTuple (Shared.heap ⟨hp.push { cls := .type "tuple_iterator", data := .fields #[.ref l1, .int 0 0] }, g, d, tk, os⟩) l2 ys := Heap.IsTuple.push hl2 _
    have z1 : (hp.push { cls := .type "tuple_iterator", data := .fields #[.ref l1, .int 0 0] }).objs.size = hp.objs.size + 1 := Heap.size_push ..
    wp_walk using wpAny_pyIter_tuple hL1, wpAny_pyIter_tuple hL2
    refine ⟨_, rfl, ?_⟩
    simp only [Heap.size_push] at h ⊢
    exact h
set_option maxHeartbeats 4000000 in
theorem meets_zip_TTL (l1 l2 l3 : Addr) (xs ys us : Array Value) :
    Meets (Builtin.«zip.__new__» ⟨[.type "zip", .ref l1, .ref l2, .ref l3], []⟩) (fun _ R s => s.heap.IsTuple l1 xs ∧ s.heap.IsTuple l2 ys ∧ s.heap.IsList l3 us ∧
      R (.ok (.ret (.ref (s.heap.objs.size + 5)))) { s with heap := (((((s.heap.push (iterO "tuple_iterator" l1)).push (iterO "tuple_iterator" l2)).push (iterO "list_iterator" l3)).push (tupO [.ref s.heap.objs.size, .ref (s.heap.objs.size + 1), .ref (s.heap.objs.size + 2)])).push (tupO [.none, .none, .none])).push (zipO (s.heap.objs.size + 3) (s.heap.objs.size + 4)) }) :=
  .of_wp fun prog w A R s h => by
    obtain ⟨hp, g, d, tk, os⟩ := s; obtain ⟨hl1, hl2, hl3, h⟩ := h
    have hsub := sub_zip
    have hL1 : Heap.IsTuple (Shared.heap ⟨hp, g, d, tk, os⟩) l1 xs := hl1
    have hL2 : Heap.IsTuple (Shared.heap ⟨hp.push { cls := .type "tuple_iterator", data := .fields #[.ref l1, .int 0 0] }, g, d, tk, os⟩) l2 ys := Heap.IsTuple.push hl2 _
    have hL3 : Heap.IsList (Shared.heap ⟨(hp.push { cls := .type "tuple_iterator", data := .fields #[.ref l1, .int 0 0] }).push { cls := .type "tuple_iterator", data := .fields #[.ref l2, .int 0 0] }, g, d, tk, os⟩) l3 us := Heap.IsList.push (Heap.IsList.push hl3 _) _
    wp_walk using wpAny_pyIter_tuple hL1, wpAny_pyIter_tuple hL2, wpAny_pyIter_list hL3
    refine ⟨_, rfl, ?_⟩
    simp only [Heap.size_push] at h ⊢
    exact h
end Mine

namespace Mine
section
variable {prog : Program} {w : World} {α β : Type} {c : Cx} {g g' : G} {ρ ρ' : Str → Option Value} {M M' : Mem} {K : Frag} {n : Nat} {pos apos : Pos} {P : Params} {h h' : Heap} {l : List (Str × NameKind)}

theorem Itr.imp {A : Around} {target : Expr} {I : Addr} {fp wr : List Addr} {m : Nat} {P P' : Nat → Value → Heap → Prop} {St : Nat → Heap → Prop} (W : Itr prog w A target I fp wr m P St) (h : ∀ i v h, P i v h → P' i v h) : Itr prog w A target I fp wr m P' St where
  sub := W.sub
  frame := W.frame
  live := W.live
  turn := fun i s hi st => wpAny_mono (W.turn i s hi st) (fun r s₁ ⟨v, e, q⟩ => ⟨v, e, wpAny_mono q (fun _ s₂ ⟨a, b, c, d⟩ => ⟨a, b, c, fun h' x => h _ _ _ (d h' x)⟩) fun _ _ e => e⟩) fun _ _ e => e
  done := W.done
  self := W.self
theorem Act.adopts (A : Act P c g ρ M h) (x : Ext h h') : ∀ (news : Mem), (∀ p ∈ news, ∃ o, h'.get? p.1 = some o ∧ p.2.rep P o) → (∀ p ∈ news, h.get? p.1 = none) → (news.map (·.1)).Nodup → Act P c g ρ (news ++ M) h'
  | [], _, _, _ => A.ext x
  | p :: r, h1, h2, h3 => by
    have ih := Act.adopts A x r (fun q hq => h1 q (.tail _ hq)) (fun q hq => h2 q (.tail _ hq)) (List.nodup_cons.mp h3).2
    have f := fresh_new A (h2 p (.head _))
    refine ih.adopt (h1 p (.head _)) ⟨f.1, f.2.1, fun q => ?_⟩
    rcases List.mem_append.mp q with q | q
    · exact f.2.2 (List.mem_append_left _ q)
    · rw [List.map_append] at q
      rcases List.mem_append.mp q with q | q
      · exact (List.nodup_cons.mp h3).1 q
      · exact f.2.2 (List.mem_append_right _ q)
theorem Act.drops : ∀ (news : Mem), Act P c g ρ (news ++ M) h → Act P c g ρ M h
  | [], A => A
  | _ :: r, A => Act.drops r A.drop
theorem above_none {h : Heap} {a : Addr} (e : h.objs.size ≤ a) : h.get? a = none := by
  cases q : h.get? a with
  | none => rfl
  | some o => exact absurd (Heap.lt_size q) (Nat.not_lt.mpr e)
theorem push_at {h : Heap} {o : Obj} {a : Addr} (e : a = h.objs.size) (hf : o.isFreed = false) : (h.push o).get? a = some o := by rw [e]; exact Heap.get?_push_size _ hf

theorem T.zipTT {l1 l2 : Addr} {xs ys : List Value} {Q : Post Value} (S1 : Tup g l1 xs) (S2 : Tup g l2 ys) (h : ∀ z TI TO i1 i2, Q (.ref z) g ρ (ZipM z TI TO [(⟨i1, l1, xs⟩, true), (⟨i2, l2, ys⟩, true)] ++ M)) :
    T prog w c (call (.type "zip") [.ref l1, .ref l2]) Q g ρ M := fun s hA => by
  have t1 : s.heap.IsTuple l1 xs.toArray := ⟨_, Tup.at S1 hA, rfl, 0, rfl⟩
  have t2 : s.heap.IsTuple l2 ys.toArray := ⟨_, Tup.at S2 hA, rfl, 0, rfl⟩
  refine callType_new F.called_zip (by decide) (F.typeCall_zip_2 _ _) (F.newCall_zip_2 _ _) (fun obj => F.args_object_init_3 obj _ _) F.entry_zip_new (meets_zip_TT l1 l2 xs.toArray ys.toArray) ⟨t1, t2, ?_⟩
  have x : Ext s.heap (((((s.heap.push (iterO "tuple_iterator" l1)).push (iterO "tuple_iterator" l2)).push (tupO [.ref s.heap.objs.size, .ref (s.heap.objs.size + 1)])).push (tupO [.none, .none])).push (zipO (s.heap.objs.size + 2) (s.heap.objs.size + 3))) :=
    fun b o e => Heap.get?_push_of_some _ (Heap.get?_push_of_some _ (Heap.get?_push_of_some _ (Heap.get?_push_of_some _ (Heap.get?_push_of_some _ e))))
  have g5 := push_at (h := ((((s.heap.push (iterO "tuple_iterator" l1)).push (iterO "tuple_iterator" l2)).push (tupO [.ref s.heap.objs.size, .ref (s.heap.objs.size + 1)])).push (tupO [.none, .none]))) (o := zipO (s.heap.objs.size + 2) (s.heap.objs.size + 3)) (a := s.heap.objs.size + 4) (by simp [Heap.size_push]) rfl
  refine ⟨⟨_, g5, rfl⟩, g, ρ, _, hA.adopts x (ZipM (s.heap.objs.size + 4) (s.heap.objs.size + 2) (s.heap.objs.size + 3) [(⟨s.heap.objs.size, l1, xs⟩, true), (⟨s.heap.objs.size + 1, l2, ys⟩, true)]) ?_ ?_ ?_, ⟨rfl, rfl, rfl⟩, .refl g, h _ _ _ _ _⟩
  · intro p hp
    simp only [ZipM, zmem, List.map_cons, List.map_nil, List.mem_cons, List.not_mem_nil, or_false] at hp
    rcases hp with rfl | rfl | rfl | rfl | rfl
    · exact ⟨_, g5, rfl⟩
    · exact ⟨_, Heap.get?_push_of_some _ (push_at (by simp [Heap.size_push]) rfl), rfl⟩
    · exact ⟨_, Heap.get?_push_of_some _ (Heap.get?_push_of_some _ (push_at (by simp [Heap.size_push]) rfl)), rfl⟩
    · exact ⟨_, Heap.get?_push_of_some _ (Heap.get?_push_of_some _ (Heap.get?_push_of_some _ (Heap.get?_push_of_some _ (push_at rfl rfl)))), rfl⟩
    · exact ⟨_, Heap.get?_push_of_some _ (Heap.get?_push_of_some _ (Heap.get?_push_of_some _ (push_at (by simp [Heap.size_push]) rfl))), rfl⟩
  · intro p hp
    simp only [ZipM, zmem, List.map_cons, List.map_nil, List.mem_cons, List.not_mem_nil, or_false] at hp
    rcases hp with rfl | rfl | rfl | rfl | rfl <;> exact above_none (by simp)
  · simp [ZipM, zmem]
theorem T.zipTTL {l1 l2 l3 : Addr} {xs ys us : List Value} {Q : Post Value} (S1 : Tup g l1 xs) (S2 : Tup g l2 ys) (S3 : Lst g l3 us) (h : ∀ z TI TO i1 i2 i3, Q (.ref z) g ρ (ZipM z TI TO [(⟨i1, l1, xs⟩, true), (⟨i2, l2, ys⟩, true), (⟨i3, l3, us⟩, false)] ++ M)) :
    T prog w c (call (.type "zip") [.ref l1, .ref l2, .ref l3]) Q g ρ M := fun s hA => by
  have t1 : s.heap.IsTuple l1 xs.toArray := ⟨_, Tup.at S1 hA, rfl, 0, rfl⟩
  have t2 : s.heap.IsTuple l2 ys.toArray := ⟨_, Tup.at S2 hA, rfl, 0, rfl⟩
  obtain ⟨_, t3⟩ := SrcL.at (M := M) (Or.inl S3) hA
  refine callType_new F.called_zip (by decide) (typeCall_zip_3 _ _ _) (newCall_zip_3 _ _ _) (fun obj => args_object_init_4 obj _ _ _) F.entry_zip_new (meets_zip_TTL l1 l2 l3 xs.toArray ys.toArray us.toArray) ⟨t1, t2, t3.isList, ?_⟩
  have x : Ext s.heap ((((((s.heap.push (iterO "tuple_iterator" l1)).push (iterO "tuple_iterator" l2)).push (iterO "list_iterator" l3)).push (tupO [.ref s.heap.objs.size, .ref (s.heap.objs.size + 1), .ref (s.heap.objs.size + 2)])).push (tupO [.none, .none, .none])).push (zipO (s.heap.objs.size + 3) (s.heap.objs.size + 4))) :=
    fun b o e => Heap.get?_push_of_some _ (Heap.get?_push_of_some _ (Heap.get?_push_of_some _ (Heap.get?_push_of_some _ (Heap.get?_push_of_some _ (Heap.get?_push_of_some _ e)))))
  have g5 := push_at (h := (((((s.heap.push (iterO "tuple_iterator" l1)).push (iterO "tuple_iterator" l2)).push (iterO "list_iterator" l3)).push (tupO [.ref s.heap.objs.size, .ref (s.heap.objs.size + 1), .ref (s.heap.objs.size + 2)])).push (tupO [.none, .none, .none]))) (o := zipO (s.heap.objs.size + 3) (s.heap.objs.size + 4)) (a := s.heap.objs.size + 5) (by simp [Heap.size_push]) rfl
  refine ⟨⟨_, g5, rfl⟩, g, ρ, _, hA.adopts x (ZipM (s.heap.objs.size + 5) (s.heap.objs.size + 3) (s.heap.objs.size + 4) [(⟨s.heap.objs.size, l1, xs⟩, true), (⟨s.heap.objs.size + 1, l2, ys⟩, true), (⟨s.heap.objs.size + 2, l3, us⟩, false)]) ?_ ?_ ?_, ⟨rfl, rfl, rfl⟩, .refl g, h _ _ _ _ _ _⟩
  · intro p hp
    simp only [ZipM, zmem, List.map_cons, List.map_nil, List.mem_cons, List.not_mem_nil, or_false] at hp
    rcases hp with rfl | rfl | rfl | rfl | rfl | rfl
    · exact ⟨_, g5, rfl⟩
    · exact ⟨_, Heap.get?_push_of_some _ (push_at (by simp [Heap.size_push]) rfl), rfl⟩
    · exact ⟨_, Heap.get?_push_of_some _ (Heap.get?_push_of_some _ (push_at (by simp [Heap.size_push]) rfl)), rfl⟩
    · exact ⟨_, Heap.get?_push_of_some _ (Heap.get?_push_of_some _ (Heap.get?_push_of_some _ (Heap.get?_push_of_some _ (Heap.get?_push_of_some _ (push_at rfl rfl))))), rfl⟩
    · exact ⟨_, Heap.get?_push_of_some _ (Heap.get?_push_of_some _ (Heap.get?_push_of_some _ (Heap.get?_push_of_some _ (push_at (by simp [Heap.size_push]) rfl)))), rfl⟩
    · exact ⟨_, Heap.get?_push_of_some _ (Heap.get?_push_of_some _ (Heap.get?_push_of_some _ (push_at (by simp [Heap.size_push]) rfl))), rfl⟩
  · intro p hp
    simp only [ZipM, zmem, List.map_cons, List.map_nil, List.mem_cons, List.not_mem_nil, or_false] at hp
    rcases hp with rfl | rfl | rfl | rfl | rfl | rfl <;> exact above_none (by simp)
  · simp [ZipM, zmem]
theorem T.zipLL {l1 l2 : Addr} {xs ys : List Value} {Q : Post Value} (S1 : Lst g l1 xs) (S2 : Lst g l2 ys) (h : ∀ z TI TO i1 i2, Q (.ref z) g ρ (ZipM z TI TO [(⟨i1, l1, xs⟩, false), (⟨i2, l2, ys⟩, false)] ++ M)) :
    T prog w c (call (.type "zip") [.ref l1, .ref l2]) Q g ρ M := fun s hA => by
  obtain ⟨_, t1⟩ := SrcL.at (M := M) (Or.inl S1) hA
  obtain ⟨_, t2⟩ := SrcL.at (M := M) (Or.inl S2) hA
  refine callType_new F.called_zip (by decide) (F.typeCall_zip_2 _ _) (F.newCall_zip_2 _ _) (fun obj => F.args_object_init_3 obj _ _) F.entry_zip_new (meets_zip_new l1 l2 xs.toArray ys.toArray) ⟨t1.isList, t2.isList, ?_⟩
  have e : zipH5 s.heap l1 l2 = (((((s.heap.push (iterO "list_iterator" l1)).push (iterO "list_iterator" l2)).push (tupO [.ref s.heap.objs.size, .ref (s.heap.objs.size + 1)])).push (tupO [.none, .none])).push (zipO (s.heap.objs.size + 2) (s.heap.objs.size + 3))) := by
    simp only [zipH5, zipH4, zipH3, zipH2, zipH1, Heap.size_push]; rfl
  have e' : (zipH4 s.heap l1 l2).objs.size = s.heap.objs.size + 4 := by simp only [zipH4, zipH3, zipH2, zipH1, Heap.size_push]
  show _ ∧ _
  rw [e, e']
  have x : Ext s.heap (((((s.heap.push (iterO "list_iterator" l1)).push (iterO "list_iterator" l2)).push (tupO [.ref s.heap.objs.size, .ref (s.heap.objs.size + 1)])).push (tupO [.none, .none])).push (zipO (s.heap.objs.size + 2) (s.heap.objs.size + 3))) :=
    fun b o e => Heap.get?_push_of_some _ (Heap.get?_push_of_some _ (Heap.get?_push_of_some _ (Heap.get?_push_of_some _ (Heap.get?_push_of_some _ e))))
  have g5 := push_at (h := ((((s.heap.push (iterO "list_iterator" l1)).push (iterO "list_iterator" l2)).push (tupO [.ref s.heap.objs.size, .ref (s.heap.objs.size + 1)])).push (tupO [.none, .none]))) (o := zipO (s.heap.objs.size + 2) (s.heap.objs.size + 3)) (a := s.heap.objs.size + 4) (by simp [Heap.size_push]) rfl
  refine ⟨⟨_, g5, rfl⟩, g, ρ, _, hA.adopts x (ZipM (s.heap.objs.size + 4) (s.heap.objs.size + 2) (s.heap.objs.size + 3) [(⟨s.heap.objs.size, l1, xs⟩, false), (⟨s.heap.objs.size + 1, l2, ys⟩, false)]) ?_ ?_ ?_, ⟨rfl, rfl, rfl⟩, .refl g, h _ _ _ _ _⟩
  · intro p hp
    simp only [ZipM, zmem, List.map_cons, List.map_nil, List.mem_cons, List.not_mem_nil, or_false] at hp
    rcases hp with rfl | rfl | rfl | rfl | rfl
    · exact ⟨_, g5, rfl⟩
    · exact ⟨_, Heap.get?_push_of_some _ (push_at (by simp [Heap.size_push]) rfl), rfl⟩
    · exact ⟨_, Heap.get?_push_of_some _ (Heap.get?_push_of_some _ (push_at (by simp [Heap.size_push]) rfl)), rfl⟩
    · exact ⟨_, Heap.get?_push_of_some _ (Heap.get?_push_of_some _ (Heap.get?_push_of_some _ (Heap.get?_push_of_some _ (push_at rfl rfl)))), rfl⟩
    · exact ⟨_, Heap.get?_push_of_some _ (Heap.get?_push_of_some _ (Heap.get?_push_of_some _ (push_at (by simp [Heap.size_push]) rfl))), rfl⟩
  · intro p hp
    simp only [ZipM, zmem, List.map_cons, List.map_nil, List.mem_cons, List.not_mem_nil, or_false] at hp
    rcases hp with rfl | rfl | rfl | rfl | rfl <;> exact above_none (by simp)
  · simp [ZipM, zmem]

theorem Seqs.zip {elts : List Expr} {kk : Nat} {pt : Pos} {z TI TO : Addr} {z₀ : Zd × Bool} {zs : List (Zd × Bool)} {m : Nat} {k : Nat → (Nat → Value → Heap → Prop) → Mem → Prop} (O : c.Ok K n) (hs : ∀ d ∈ z₀ :: zs, isSeq g d.2 d.1.l d.1.xs)
    (hm : ∀ d ∈ z₀ :: zs, d.1.xs.length = m) (hsm : (z₀ :: zs).length ≤ 900)
    (hk : k m (fun i v h => ∃ (T : Addr) (vals : List Value), v = .ref T ∧ vals.map some = (z₀ :: zs).map (fun d => d.1.xs[i]?) ∧ h.IsTuple T vals.toArray) M) : Seqs prog w c (.Tuple elts kk pt) (.ref z) g ρ (ZipM z TI TO (z₀ :: zs) ++ M) k := by
  refine ⟨_, _, _, hk, fun s hA => ?_⟩
  have known : ∀ d ∈ z₀ :: zs, ∃ m, g d.1.l = some m := fun d hd => by
    have := hs d hd
    unfold isSeq at this
    split at this <;> exact ⟨_, this⟩
  have nd := (List.nodup_append.mp hA.nodup).2.1
  rw [List.map_append] at nd
  obtain ⟨nd1, nd2, nd3⟩ := List.nodup_append.mp nd
  have ei : (zmem (z₀ :: zs)).map (·.1) = (z₀ :: zs).map fun d => d.1.i := by unfold zmem; rw [List.map_map]; rfl
  have nd1' : (z :: TO :: TI :: (z₀ :: zs).map fun d => d.1.i).Nodup := by rw [← ei]; exact nd1
  have inM : ∀ d ∈ z₀ :: zs, (d.1.i, MO.raw (iterO (itTy d.2) d.1.l)) ∈ ZipM z TI TO (z₀ :: zs) ++ M := fun d hd => List.mem_append_left _ (.tail _ (.tail _ (.tail _ (List.mem_map_of_mem (f := fun d : Zd × Bool => (d.1.i, MO.raw (iterO (itTy d.2) d.1.l))) hd))))
  obtain ⟨n1, n1'⟩ := List.nodup_cons.mp nd1'
  obtain ⟨n2, n2'⟩ := List.nodup_cons.mp n1'
  obtain ⟨n3, n3'⟩ := List.nodup_cons.mp n2'
  simp only [List.mem_cons, not_or] at n1 n2
  have imem : ∀ d ∈ z₀ :: zs, d.1.i ∈ (z₀ :: zs).map fun d => d.1.i := fun d hd => List.mem_map_of_mem (f := fun d : Zd × Bool => d.1.i) hd
  have kout : ∀ d ∈ z₀ :: zs, d.1.l ∉ c.own ++ (ZipM z TI TO (z₀ :: zs) ++ M).map (·.1) := fun d hd => let ⟨_, e⟩ := known d hd; hA.known_out e
  have inA : ∀ a ∈ (z :: TO :: TI :: (z₀ :: zs).map fun d => d.1.i), a ∈ c.own ++ (ZipM z TI TO (z₀ :: zs) ++ M).map (·.1) := fun a ha => List.mem_append_right _ (by rw [List.map_append]; exact List.mem_append_left _ (by rw [← ei] at ha; exact ha))
  have apart : ∀ a ∈ (z :: TO :: TI :: (z₀ :: zs).map fun d => d.1.i), a ∉ c.own ++ M.map (·.1) := fun a ha q => by
    rw [← ei] at ha
    rcases List.mem_append.mp q with q | q
    · exact (List.nodup_append.mp hA.nodup).2.2 a q a (by rw [List.map_append]; exact List.mem_append_left _ ha) rfl
    · exact nd3 a ha a q rfl
  have D : Zap z TI TO ((z₀ :: zs).map (·.1)) := by
    refine ⟨(fun q => nomatch q), (fun q => n1.2.1 q.symm), (fun q => n1.1 q.symm), (fun q => n2.1 q.symm), ?_, ?_, ?_, ?_, ?_, ?_, ?_⟩
    · rw [List.map_map]; exact n3'
    all_goals intro d hd; obtain ⟨e, he, rfl⟩ := List.mem_map.mp hd
    · intro q; exact n1.2.2 (by rw [← q]; simpa using imem e he)
    · intro q; exact n3 (by rw [← q]; exact imem e he)
    · intro q; exact n2.2 (by rw [← q]; simpa using imem e he)
    · intro q; exact kout e he (by rw [q]; exact inA _ (.head _))
    · intro q; exact kout e he (by rw [q]; exact inA _ (.tail _ (.head _)))
    · intro f hf q
      obtain ⟨f', hf', rfl⟩ := List.mem_map.mp hf
      exact kout e he (by rw [q]; exact inA _ (.tail _ (.tail _ (.tail _ (imem f' hf')))))
  obtain ⟨_, hz, rfl⟩ := hA.mem (z, .raw (zipO TI TO)) (.head _)
  obtain ⟨_, hTO, rfl⟩ := hA.mem (TO, .raw (tupO ((z₀ :: zs).map fun _ => .none))) (.tail _ (.head _))
  obtain ⟨_, hTI, rfl⟩ := hA.mem (TI, .raw (tupO ((z₀ :: zs).map fun d => .ref d.1.i))) (.tail _ (.tail _ (.head _)))
  have W := Itr.zip (prog := prog) (w := w) (elts := elts) (kk := kk) (pt := pt) (m := m) O.room.handled D (by simpa using hsm) (by
    intro d hd
    obtain ⟨e, he, rfl⟩ := List.mem_map.mp (show d ∈ (z₀ :: zs).map (·.1) from hd)
    exact hm e he)
  have hdrop := Act.drops (ZipM z TI TO (z₀ :: zs)) hA
  have W' := W.imp (P' := fun i v h => ∃ (T : Addr) (vals : List Value), v = .ref T ∧ vals.map some = (z₀ :: zs).map (fun d => d.1.xs[i]?) ∧ Heap.IsTuple h T vals.toArray) fun i v h ⟨T, vals, a, b, cc⟩ => ⟨T, vals, a, by rw [b]; simp, cc⟩
  refine wpAny_pyIter_zip hz ⟨z, _, _, _, rfl, W', ?_, hdrop, ⟨rfl, rfl, rfl⟩, ?_, ?_⟩
  · have e1 : ((z₀ :: zs).map (·.1)).map (fun d => Value.ref d.i) = (z₀ :: zs).map fun d => Value.ref d.1.i := by rw [List.map_map]; rfl
    refine ⟨hz, ?_, ⟨_, ?_, hTO⟩, ?_⟩
    · exact (congrArg (fun l => IsTp s.heap TI l) e1).mpr hTI
    · simp
    · intro d hd
      obtain ⟨e, he, rfl⟩ := List.mem_map.mp (show d ∈ (z₀ :: zs).map (·.1) from hd)
      obtain ⟨_, hi, rfl⟩ := hA.mem _ (inM e he)
      have sq := hs e he
      unfold isSeq at sq
      split at sq
      · rename_i q
        rw [q] at hi
        exact .inr ⟨⟨_, hi, rfl, rfl⟩, ⟨_, Tup.at sq hA, rfl, 0, rfl⟩⟩
      · rename_i q
        rw [q] at hi
        obtain ⟨_, hl⟩ := SrcL.at (M := ZipM z TI TO (z₀ :: zs) ++ M) (Or.inl sq) hA
        exact .inl ⟨⟨_, hi, rfl, rfl⟩, hl.isList⟩
  · intro b hb
    have hb' : b ∈ z :: TO :: TI :: (z₀ :: zs).map fun d => d.1.i := by
      simp only [List.mem_cons, List.map_map, List.map_cons] at hb ⊢
      rcases hb with hb | hb | hb
      · exact .inl hb
      · exact .inr (.inl hb)
      · exact .inr (.inr (.inr hb))
    have := hA.fresh b (inA b hb')
    exact this
  · intro b hb
    rcases List.mem_cons.mp hb with rfl | hb
    · exact apart _ (.head _)
    · rcases List.mem_cons.mp hb with rfl | hb
      · exact apart _ (.tail _ (.tail _ (.head _)))
      · rcases List.mem_cons.mp hb with rfl | hb
        · exact apart _ (.tail _ (.head _))
        · rcases List.mem_append.mp hb with hb | hb <;> (obtain ⟨d, hd, rfl⟩ := List.mem_map.mp hb; obtain ⟨e, he, rfl⟩ := List.mem_map.mp (show d ∈ (z₀ :: zs).map (·.1) from hd))
          · exact apart _ (.tail _ (.tail _ (.tail _ (imem e he))))
          · obtain ⟨_, q⟩ := known e he
            exact hdrop.known_out q
end
end Mine

namespace Mine
open AutoSeq1 (wpAny_loadPart')
section
variable {prog : Program} {w : World} {α β : Type} {c : Cx} {g g' : G} {ρ ρ' : Str → Option Value} {M M' : Mem} {K : Frag} {n : Nat} {pos apos : Pos}

theorem Pu.eqBoolRef {x y : Addr} {b : Bool} (hxy : x = y → b = true) (h : Pu prog w K n (compareOp .Eq (.ref x) (.ref y)) (fun r g' => r = .bool b ∧ g' = g) g) : Pu prog w K n (eqBool (.ref x) (.ref y)) (fun r g' => r = b ∧ g' = g) g := fun A s r wd sb => by
  unfold eqBool
  refine wpAny_holding ?_
  refine wpAny_ite_split (fun hab => ?_) (fun hab => ?_)
  · have e : x = y := by have := eq_of_beq hab; injection this
    exact wpAny_bind (wpAny_rule (wpAny_pure ⟨Ext.refl _, .refl s, g, .refl g, sb, fun _ _ e => .inl e, (hxy e).symm, rfl⟩))
  · refine wpAny_bind (wpAny_mono (h A s r wd sb) (fun v s' ⟨a, b, g', c, d, e, q⟩ => ?_) fun _ _ e => e)
    obtain ⟨q1, q2⟩ := q
    subst q1
    exact wpAny_truthy_bool ⟨a, b, g', c, d, e, rfl, q2⟩

/-- tuple == tuple: the pairs in turn -/
theorem Pu.eqTup {a b : Addr} {xs ys : List Value} {e : Nat → Bool} (S : Tup g a xs) (S' : Tup g b ys)
    (he : ∀ j x y, xs[j]? = some x → ys[j]? = some y → Pu prog w K n (eqBool x y) (fun r g' => r = e j ∧ g' = g) g) :
    Pu prog w K (n + 1) (compareOp .Eq (.ref a) (.ref b)) (fun r g' => r = .bool ((List.range (min xs.length ys.length)).all e && xs.length == ys.length) ∧ g' = g) g := fun A s r wd sb => by
  obtain ⟨_, hl, rfl⟩ := sb _ _ S
  obtain ⟨_, hb, rfl⟩ := sb _ _ S'
  show wpAny _ _ (richCompare .Eq (.ref a) (.ref b)) _ _ _
  refine wpAny_richCompare_same_room (id := "tuple.__eq__") (T := "tuple") (op := .Eq) ⟨_, hl, rfl⟩ ⟨_, hb, rfl⟩ F.slot_tuple_eq (wpAny_call_entry F.slot_tuple_eq ⟨_, hl, rfl⟩ F.entry_tuple_eq ?_ (F.args_tuple_eq_2 _ _)) (by have := r.units; omega)
  have r1 : Room A.in1 n := r.in1
  obtain ⟨hp, gg, d, tk, os⟩ := s
  have f2 := AutoSeq1.sub_tuple_tuple
  have hZ : (xs.zip ys).length = min xs.length ys.length := by simp
  wp_walk using wpAny_loadPart' hl, wpAny_loadPart' hb, wpAny_forIn_list _ (fun rest b s' => b.1 = none ∧ Ext hp s'.heap ∧ Rest ⟨hp, gg, d, tk, os⟩ s' ∧ ∃ i, rest = (xs.zip ys).drop i ∧ (List.range (min xs.length ys.length)).all e = ((List.range (min xs.length ys.length)).drop i).all e) _
  case turn =>
    rintro ⟨y, x⟩ rest b s' ⟨hb', hx, hr, i, hz, hR⟩
    have hlt : i < (xs.zip ys).length := by
      rcases Nat.lt_or_ge i (xs.zip ys).length with h' | h'
      · exact h'
      · rw [List.drop_of_length_le h'] at hz; cases hz
    have hm : i < min xs.length ys.length := hZ ▸ hlt
    have h1 : i < xs.length := Nat.lt_of_lt_of_le hm (Nat.min_le_left _ _)
    have h2 : i < ys.length := Nat.lt_of_lt_of_le hm (Nat.min_le_right _ _)
    rw [List.drop_eq_getElem_cons hlt] at hz
    injection hz with hyx hrest
    have hy : y = xs[i] := by have := congrArg Prod.fst hyx; simpa using this
    have hxx : x = ys[i] := by have := congrArg Prod.snd hyx; simpa using this
    subst hy hxx
    have hd : (List.range (min xs.length ys.length)).drop i = i :: (List.range (min xs.length ys.length)).drop (i + 1) := by simp [List.drop_eq_getElem_cons, hm]
    rw [hd, List.all_cons] at hR
    refine wpAny_bind (wpAny_mono (he i _ _ (List.getElem?_eq_getElem h1) (List.getElem?_eq_getElem h2) A.in1 s' r1 (wd.ext hx) (sb.ext hx)) (fun r s₂ ⟨x₂, rs₂, g₂, _, _, _, q1, q2⟩ => ?_) fun _ _ e => e.elim)
    subst q1
    cases hy : e i with
    | true =>
      rw [hy, Bool.true_and] at hR
      wp_walk
      exact ⟨rfl, hx.trans x₂, hr.trans rs₂, i + 1, hrest, hR⟩
    | false =>
      rw [hy, Bool.false_and] at hR
      wp_walk
      refine ⟨_, rfl, (fun q => nomatch q), hx.trans x₂, hr.trans rs₂, g, .refl g, sb.ext (hx.trans x₂), (fun _ _ e => .inl e), ?_, rfl⟩
      rw [hR]; rfl
  case fin =>
    rintro ⟨b1, b2⟩ s' ⟨hb', hx, hr, i, hz, hR⟩
    simp only at hb'
    subst hb'
    have hge : min xs.length ys.length ≤ i := by
      rcases Nat.lt_or_ge i (xs.zip ys).length with h' | h'
      · rw [List.drop_eq_getElem_cons h'] at hz; cases hz
      · exact hZ ▸ h'
    rw [List.drop_of_length_le (by simpa using hge)] at hR
    wp_walk
    refine ⟨_, rfl, (fun q => nomatch q), hx, hr, g, .refl g, sb.ext hx, (fun _ _ e => .inl e), ?_, rfl⟩
    rw [hR]
    simp [Builtin.Tuple.tupleCompareSizes]
  case h =>
    exact ⟨rfl, Ext.refl _, .refl _, 0, rfl, rfl⟩
end
end Mine

namespace Mine
section
variable {prog : Program} {w : World} {α β : Type} {c : Cx} {g g' : G} {ρ ρ' : Str → Option Value} {M M' : Mem} {K : Frag} {n : Nat} {pos apos : Pos}

-- dicts of strs
theorem isStrOf_eq (k : Str) (v : Value) : Value.isStrOf k v = v.isStr k := by cases v <;> rfl
theorem isStrOf_self (x : Str) (t : Tok) : Value.isStrOf x (.str x t) = true := by simp [Value.isStrOf]
theorem lookup_valueAt (kv : List (Str × Value)) (x : Str) : valueAt kv x = kv.lookup x := by
  unfold valueAt
  induction kv with
  | nil => rfl
  | cons p r ih =>
    obtain ⟨k, v⟩ := p
    rw [List.find?_cons, List.lookup_cons]
    by_cases q : k = x
    · subst q; simp
    · have e : (x == k) = false := beq_eq_false_iff_ne.mpr (Ne.symm q)
      rw [e, decide_eq_false q]; exact ih
theorem lookup_stored (kv : List (Str × Value)) (x y : Str) (v : Value) : (stored kv x v).lookup y = if y = x then some v else kv.lookup y := by
  unfold stored
  split
  · rename_i h
    induction kv with
    | nil => simp at h
    | cons p r ih =>
      obtain ⟨k, u⟩ := p
      by_cases q : k = x
      · subst q
        rw [List.map_cons, if_pos rfl, List.lookup_cons, List.lookup_cons]
        by_cases z : y = k
        · subst z; simp
        · have e : (y == k) = false := beq_eq_false_iff_ne.mpr z
          rw [e, if_neg z]
          by_cases hr : (r.any fun kv => decide (kv.1 = k)) = true
          · have := ih hr; rw [if_neg z] at this; exact this
          · have : r.map (fun kv => if kv.1 = k then (kv.1, v) else kv) = r := by
              refine (List.map_congr_left fun p hp => ?_).trans (List.map_id r)
              rw [if_neg]
              · rfl
              · intro q; exact hr (List.any_eq_true.mpr ⟨p, hp, by simpa using q⟩)
            rw [this]
      · have hr : (r.any fun kv => decide (kv.1 = x)) = true := by simpa [q] using h
        rw [List.map_cons, if_neg q, List.lookup_cons, List.lookup_cons]
        by_cases z : y = k
        · subst z
          simp [q]
        · have e : (y == k) = false := beq_eq_false_iff_ne.mpr z
          rw [e]; exact ih hr
  · rename_i h
    rw [List.lookup_append]
    by_cases z : y = x
    · subst z
      have : kv.lookup y = none := by
        cases q : kv.lookup y with
        | none => rfl
        | some u => exact absurd (List.any_eq_true.mpr ⟨(y, u), mem_of_lookup q, by simp⟩) h
      rw [this]; simp
    · have e : (y == x) = false := beq_eq_false_iff_ne.mpr z
      simp [List.lookup_cons, e, z]
theorem SdEs.pairs {es : List DictEntry} {kv : List (Str × Value)} (h : SdEs w.params es kv) : Pairs (strKind prog w) es kv := by
  induction h with
  | nil => exact .nil
  | @cons k t v es kv _ ih => exact .cons (isStrOf_self k t) rfl ih
theorem SdEs.keys {es : List DictEntry} {kv : List (Str × Value)} (h : SdEs w.params es kv) : ∀ e ∈ es, ∃ k, (strKind prog w).is k e.key = true ∧ e.hash = (strKind prog w).hash k := by
  induction h with
  | nil => intro e he; cases he
  | @cons k t v es kv _ ih =>
    intro e he
    rcases List.mem_cons.mp he with rfl | he
    · exact ⟨k, isStrOf_self k t, rfl⟩
    · exact ih e he
theorem sdEs_of {es : List DictEntry} {kv : List (Str × Value)} (p : Pairs (strKind prog w) es kv) (hk : ∀ e ∈ es, ∃ k, (strKind prog w).is k e.key = true ∧ e.hash = (strKind prog w).hash k) : SdEs w.params es kv := by
  induction p with
  | nil => exact .nil
  | @cons e kv es kvs h1 h2 _ ih =>
    obtain ⟨t, q⟩ := Value.isStrOf_shape h1
    obtain ⟨k, a, b⟩ := hk e (.head _)
    have hk' : k = kv.1 := Value.isStrOf_inj _ _ _ a h1
    obtain ⟨hash, key, val⟩ := e
    obtain ⟨k1, v1⟩ := kv
    simp only at q h2 b hk'
    subst q; subst h2; subst hk'; subst b
    exact .cons (ih fun e he => hk e (.tail _ he))
theorem map_of {h : Heap} {d : Addr} {f : Str → Option Value} {m : Nat} {o : Obj} (e : h.get? d = some o) (r : (MO.map f m).rep w.params o) : ∃ kv, h.DictOf (strKind prog w) d kv ∧ (∀ k, kv.lookup k = f k) ∧ kv.length ≤ m := by
  obtain ⟨es, kv, ep, rfl, h1, h2, h3, h4⟩ := r
  exact ⟨kv, ⟨_, es.toArray, ep, e, ⟨rfl, rfl, rfl⟩, rfl, fun x hx => h1.keys x (by simpa using hx), by simpa using h1.pairs, h2⟩, h3, h4⟩
theorem of_map {h : Heap} {d : Addr} {kv : List (Str × Value)} {f : Str → Option Value} {m : Nat} (x : h.DictOf (strKind prog w) d kv) (hf : ∀ k, kv.lookup k = f k) (hm : kv.length ≤ m) : ∃ o, h.get? d = some o ∧ (MO.map f m).rep w.params o := by
  obtain ⟨o, es, ep, e, ⟨c1, c2, c3⟩, hd, hk, hp, hn⟩ := x
  refine ⟨o, e, es.toList, kv, ep, ?_, sdEs_of hp (fun e he => hk e (by simpa using he)), hn, hf, hm⟩
  obtain ⟨cls, dict, data, slots⟩ := o
  simp only at c1 c2 c3 hd
  subst c1; subst c2; subst c3; subst hd; simp
def SrcM (g : G) (M : Mem) (d : Addr) (f : Str → Option Value) : Prop := ∃ m, g d = some (.map f m) ∨ (d, .map f m) ∈ M
theorem SrcM.at {h : Heap} {d : Addr} {f : Str → Option Value} (S : SrcM g M d f) (A : Act w.params c g ρ M h) : h.MapOf (strKind prog w) d f := by
  have key : ∀ o m, h.get? d = some o → (MO.map f m).rep w.params o → h.MapOf (strKind prog w) d f := fun o m e r => by
    obtain ⟨kv, hd, hf, _⟩ := map_of (prog := prog) e r
    have := hd.mapOf
    rwa [show valueAt kv = f from funext fun k => (lookup_valueAt kv k).trans (hf k)] at this
  obtain ⟨m, S | S⟩ := S
  · obtain ⟨o, e, r⟩ := A.know _ _ S; exact key o m e r
  · obtain ⟨o, e, r⟩ := A.mem _ S; exact key o m e r
theorem T.itemD {value slice : Expr} {d : Addr} {f : Str → Option Value} {x : Str} {t : Tok} {v : Value} {Q : Post Value} (S : SrcM g M d f) (hx : f x = some v)
    (hs : subscripted slice false (.ref d) (.str x t) = PySem.operate [.ref d, .str x t] (getItem (.ref d) (.str x t))) (h : Q v g ρ M) : T prog w c (subscriptTail value slice (.ref d) (.str x t)) Q g ρ M := T.tok fun s hA R k => by
  have hm := SrcM.at (prog := prog) S hA
  exact tail_any (T := "dict") hm.typeIs slot_dict_getitem.lookup (wpAny_getItem_of (k := x) (isStrOf_self x t) hm hx (k _ _ h)) hs
theorem Act.mapTurn {pre post : Mem} {d : Addr} {m₀ m₁ : MO} {h h' : Heap} (A : Act w.params c g ρ (pre ++ (d, m₀) :: post) h) (O : c.Ok K n) (hs : Heap.SameBut d h h') (hr : ∃ o, h'.get? d = some o ∧ m₁.rep w.params o) : Act w.params c g ρ (pre ++ (d, m₁) :: post) h' := by
  refine A.turn O (fun a o ha _ e => hs.extBut a o ha e) ?_ hr
  obtain ⟨m, hm, e⟩ := A.ns
  exact ⟨m, hm.sameBut hs fun q => (List.nodup_append.mp A.nodup).2.2 _ O.loc d (by simp) q, e⟩
theorem T.setItemD {d : Addr} {pre post : Mem} {f : Str → Option Value} {m : Nat} {x : Str} {t : Tok} {v : Value} {Q : Post Unit} (O : c.Ok K n) (hz : m ≤ 900) (h : Q () g ρ (pre ++ (d, .map (fun y => if y = x then some v else f y) (m + 1)) :: post)) :
    T prog w c (PySem.setItem (.ref d) (.str x t) v) Q g ρ (pre ++ (d, .map f m) :: post) := fun s hA => by
  obtain ⟨o, e, r⟩ := hA.mem (d, .map f m) (by simp)
  obtain ⟨kv, hd, hf, hl⟩ := map_of (prog := prog) e r
  refine wpAny_setItem_pairs (hsz := by rw [sizeLine_eq]; omega) (k := x) (isStrOf_self x t) hd fun h' hd' hs' => ?_
  exact ⟨g, ρ, _, hA.mapTurn O hs' (of_map hd' (fun k => by rw [lookup_stored, hf]) (by have := stored_length_le kv x v; omega)), ⟨rfl, rfl, rfl⟩, .refl g, h⟩
theorem T.dictSetD {d : Addr} {pre post : Mem} {f : Str → Option Value} {m : Nat} {x : Str} {t : Tok} {v : Value} {Q : Post Unit} (O : c.Ok K n) (hz : m ≤ 900) (h : Q () g ρ (pre ++ (d, .map (fun y => if y = x then some v else f y) (m + 1)) :: post)) :
    T prog w c (PySem.dictSet d (.str x t) v) Q g ρ (pre ++ (d, .map f m) :: post) := fun s hA => by
  obtain ⟨o, e, r⟩ := hA.mem (d, .map f m) (by simp)
  obtain ⟨kv, hd, hf, hl⟩ := map_of (prog := prog) e r
  refine wpAny_dictSet_pairs (hsz := by rw [sizeLine_eq]; omega) (k := x) (isStrOf_self x t) hd fun h' hd' hs' => ?_
  exact ⟨g, ρ, _, hA.mapTurn O hs' (of_map hd' (fun k => by rw [lookup_stored, hf]) (by have := stored_length_le kv x v; omega)), ⟨rfl, rfl, rfl⟩, .refl g, h⟩
theorem T.notSys {t : Sem α} {d : Addr} {m : MO} {Q : Post α} (O : c.Ok K n) (hK : (K.lookup sysModules).isSome = true) (h : (d == sysModules) = false → T prog w c t Q g ρ ((d, m) :: M)) : T prog w c t Q g ρ ((d, m) :: M) := fun s hA => by
  refine h ?_ s hA
  obtain ⟨o, ho⟩ := Option.isSome_iff_exists.mp hK
  have := O.wd.X _ _ ho
  refine beq_eq_false_iff_ne.mpr fun q => ?_
  rw [← q, (hA.head_out).1] at this; cases this
theorem T.newDictM {Q : Post Value} (h : ∀ d, Q (.ref d) g ρ ((d, .map (fun _ => none) 0) :: M)) : T prog w c (PySem.newDict) Q g ρ M :=
  T.pushM (m := .map (fun _ => none) 0) (o := { cls := .type "dict", data := .dict #[] }) (f := .ref) ⟨[], [], 0, rfl, .nil, List.nodup_nil, fun _ => rfl, Nat.le_refl _⟩ rfl (fun s _ R k => wpAny_newObj_type (k s.heap s.toks (Ext.refl _)) (by first | trivial | (show (0:Nat) ≤ _; omega) | decide | simp [sizeOk, sizeLine_eq])) h
theorem T.methodGet {d : Addr} {f : Str → Option Value} {pl : Sem Bool} {Q : Post (Value × List Value)} (S : SrcM g M d f) (h : Q (.builtin "dict.get", [.ref d]) g ρ M) : T prog w c (getMethod (.ref d) "get" pl) Q g ρ M := T.tok fun s hA R k => by
  have hm := SrcM.at (prog := prog) S hA
  exact getMethod_builtin hm.typeIs F.plainAttrs_dict F.slot_dict_get F.type_dict_get (fun b e => by cases e; exact hm.noDict _ rfl) (k _ s.toks h)
theorem T.getD {d : Addr} {f : Str → Option Value} {x : Str} {t : Tok} {v : Value} {Q : Post Value} (S : SrcM g M d f) (hd : (d == sysModules) = false) (h : Q ((f x).getD v) g ρ M) : T prog w c (call (.builtin "dict.get") [.ref d, .str x t, v]) Q g ρ M := T.tok fun s hA R k => by
  have hm := SrcM.at (prog := prog) S hA
  exact wpAny_call_entry F.slot_dict_get hm.typeIs F.entry_dict_get (by
    show wpAny _ _ (dictGet d (.str x t) >>= _) _ _ s
    refine wpAny_bind (wpAny_dictGet_of (isStrOf_self x t) hm ?_)
    have := k _ (s.toks + 1) h
    cases hf : f x with
    | some u =>
      rw [hf] at this
      exact wpAny_pure ⟨u, rfl, this⟩
    | none =>
      rw [hf] at this
      show wpAny _ _ (Builtin.Dict.missed d (.str x t) >>= _) _ _ _
      exact wpAny_bind (wpAny_missed_other hd (wpAny_pure ⟨v, rfl, this⟩))) (F.args_dict_get_3 _ _ _)
end
end Mine

namespace Mine
section
variable {prog : Program} {w : World} {α β : Type} {c : Cx} {g g' : G} {ρ ρ' : Str → Option Value} {M M' : Mem} {K : Frag} {n : Nat} {pos apos : Pos}

theorem ifBoundU_K {Md : Model} {A : Around} {E : Value → Shared → Prop} {s : Shared} {x C f : Addr} {ox : Obj} {od : Option Obj} {name : Str} {refuse : Sem Value} {Q : Option Value → Shared → Prop} (X : K.In s.heap) (I : InstAt s.heap x ox C od) (hs : findIn K (.ref C) name = some (some (.ref f))) (hf : isFn K (.ref f) = true)
    (h : wpAny Md A (call (.ref f) [.ref x]) (fun v => Q (some v)) E s) : wpAny Md A (callSpecialIfBoundUnlessNone? (.ref x) name refuse) Q E s := by
  simp only [callSpecialIfBoundUnlessNone?, bindSpecialIfBound?]
  refine wpAny_holding (wpAny_bind (wpAny_bind (wpAny_bind (I.type.here ((looks_findIn X hs).here ?_)))))
  refine wpAny_bind (wpAny_askSetting (wpAny_ite ?_))
  have fin : wpAny Md A (call (.ref f) [.ref x] >>= fun v => pure (some v)) Q E s := wpAny_bind (wpAny_mono h (fun v s' h' => wpAny_pure h') fun _ _ h' => h')
  split
  · exact wpAny_bind ((bind_fn X _ (beq_iff_eq.mp hf)).here (wpAny_pure (by exact fin)))
  · exact wpAny_tryCatch (wpAny_bind ((bind_fn X _ (beq_iff_eq.mp hf)).here (wpAny_pure (by exact fin))))

theorem Pu.hash {x C f : Addr} {kv : List (Str × Value)} {i : Int} (I : Inst g x C kv) (hs : findIn K (.ref C) "__hash__" = some (some (.ref f))) (hf : isFn K (.ref f) = true) (hi : 0 ≤ i) (hi2 : i < 1000000)
    (h : Pu prog w K n (call (.ref f) [.ref x]) (fun r g' => (∃ t, r = .int i t) ∧ g' = g) g) : Pu prog w K n (pyHash (.ref x)) (fun r g' => r = i ∧ g' = g) g := fun A s r wd sb => by
  obtain ⟨d, es, j, he, hd, IA⟩ := I.at sb
  show wpAny _ _ (pyHashByItsType (.ref x)) _ _ _
  unfold pyHashByItsType
  refine wpAny_bind (wpAny_cRoomFor (by have := r.units; omega) ?_)
  have sp : ∀ {Q : Option Value → Shared → Prop} {E : Value → Shared → Prop}, Q (some (.ref f)) s → wpAny (model prog w) A (specialOf (.ref x) "__hash__") Q E s := fun q => by
    unfold specialOf
    exact wpAny_bind (IA.type.here ((looks_findIn wd.X hs).here q))
  refine wpAny_bind (sp ?_)
  rw [if_neg (by simp)]
  refine wpAny_bind (sp ?_)
  rw [if_neg (by simp)]
  refine wpAny_bind (ifBoundU_K wd.X IA hs hf (wpAny_mono (h A s r wd sb) (fun v s' ⟨a, b, g', c, d, e, ⟨t, q1⟩, q2⟩ => ?_) fun _ _ e => e))
  subst q1
  show wpAny _ _ (pyHashByItsType.reduced i) _ _ _
  unfold pyHashByItsType.reduced
  have e1 : (decide (-(2 ^ 63 : Int) ≤ i) && decide (i < 2 ^ 63)) = true := by simp; omega
  rw [if_pos e1]
  have e2 : (i == -1) = false := by simp; omega
  rw [e2]
  exact wpAny_pure ⟨a, b, g', c, d, e, rfl, q2⟩

def vEnt (xs : List (Addr × Int × Value)) : List DictEntry := xs.map fun x => ⟨x.2.1, .ref x.1, x.2.2⟩
theorem places_none {xs : List (Addr × Int × Value)} {i : Int} (hn : ∀ x ∈ xs, x.2.1 ≠ i) : placesWithHash (vEnt xs).toArray.size (fun j => (vEnt xs).toArray[j]?.map (·.hash)) i = [] := by
  unfold placesWithHash
  refine List.filter_eq_nil_iff.mpr fun j hj => ?_
  have hlt : j < xs.length := by have := List.mem_range.mp hj; simpa [vEnt] using this
  have : (vEnt xs).toArray[j]? = some ⟨xs[j].2.1, .ref xs[j].1, xs[j].2.2⟩ := by simp [vEnt, hlt]
  dsimp only
  rw [this]
  have q := hn _ (List.getElem_mem hlt)
  simpa using q
theorem places_one {xs : List (Addr × Int × Value)} {i : Int} {j : Nat} {a : Addr} {v : Value} (hx : xs[j]? = some (a, i, v)) (hn : (xs.map (·.2.1)).Nodup) : placesWithHash (vEnt xs).toArray.size (fun j => (vEnt xs).toArray[j]?.map (·.hash)) i = [j] := by
  unfold placesWithHash
  have hlt : j < xs.length := (List.getElem?_eq_some_iff.mp hx).1
  have e0 : (vEnt xs).toArray.size = xs.length := by simp [vEnt]
  rw [e0]
  have at_ : ∀ m, m < xs.length → ((fun j => (vEnt xs).toArray[j]?.map (·.hash)) m == some i) = decide (m = j) := fun m hm => by
    have e1 : (vEnt xs).toArray[m]? = some ⟨xs[m].2.1, .ref xs[m].1, xs[m].2.2⟩ := by simp [vEnt, hm]
    simp only [e1, Option.map_some]
    by_cases q : m = j
    · subst q
      have := (List.getElem?_eq_some_iff.mp hx).2
      simp [this]
    · rw [decide_eq_false q]
      refine beq_eq_false_iff_ne.mpr fun z => q ?_
      have z' : xs[m].2.1 = i := by simpa using z
      have h1 : (xs.map (·.2.1))[m]? = some i := by rw [List.getElem?_map, List.getElem?_eq_getElem hm]; simp [z']
      have h2 : (xs.map (·.2.1))[j]? = some i := by rw [List.getElem?_map, hx]; rfl
      exact (List.getElem?_inj (by simpa using hm) hn).mp (h1.trans h2.symm)
  have key : ∀ m, m ≤ xs.length → (List.range m).filter (fun j => (fun j => (vEnt xs).toArray[j]?.map (·.hash)) j == some i) = if j < m then [j] else [] := by
    intro m
    induction m with
    | zero => intro _; simp
    | succ m ih =>
      intro hm
      rw [List.range_succ, List.filter_append, ih (by omega), List.filter_cons, at_ m (by omega), List.filter_nil]
      by_cases q : m = j
      · subst q; simp
      · by_cases z : j < m
        · have z' : j < m + 1 := by omega
          simp [z, q, z']
        · have z' : ¬ j < m + 1 := by omega
          simp [z, q, z']
  rw [key _ (Nat.le_refl _), if_pos hlt]

theorem find_none {A : Around} {E : Value → Shared → Prop} {s : Shared} {d a : Addr} {xs : List (Addr × Int × Value)} {ep : Nat} {i : Int} {Q : Option Nat → Shared → Prop}
    (ho : s.heap.get? d = some { cls := .type "dict", data := .dict (vEnt xs).toArray ep }) (hn : ∀ x ∈ xs, x.2.1 ≠ i ∧ x.1 ≠ a) (h : Q none s) : wpAny (model prog w) A (dictFind d (.ref a) i) Q E s := by
  unfold dictFind
  refine wpAny_holding ?_
  refine wpAny_bind (wpAny_dictEntries ho rfl ?_)
  dsimp only
  have hp := places_none (xs := xs) (i := i) fun x hx => (hn x hx).1
  rw [hp]
  rw [if_neg (by simp [carriedByValue])]
  have hany : ¬ ((vEnt xs).toArray.any fun e => e.key == Value.ref a && e.hash != i) = true := by
    rw [← Array.any_toList, List.any_eq_true]
    rintro ⟨e, he, q⟩
    obtain ⟨x, hx, rfl⟩ := List.mem_map.mp (show e ∈ vEnt xs by simpa using he)
    simp only [Bool.and_eq_true, beq_iff_eq, Value.ref.injEq] at q
    exact (hn x hx).2 q.1
  rw [if_neg hany]
  rw [if_neg (show ¬ ((([] : List Nat).filterMap fun i => Option.map (fun x => x.key) (vEnt xs).toArray[i]?) == [Value.ref a]) = true by simp)]
  simp only [List.filterMap_nil]
  unfold tableMayTell
  simp only [List.isEmpty_nil, if_true]
  refine wpAny_bind (wpAny_pure ?_)
  simp only [Bool.false_and, Bool.false_eq_true, if_false, List.forIn_nil]
  exact wpAny_bind (wpAny_pure (wpAny_pure h))
theorem find_one {A : Around} {E : Value → Shared → Prop} {s : Shared} {d a : Addr} {xs : List (Addr × Int × Value)} {ep : Nat} {i : Int} {j : Nat} {v : Value} {Q : Option Nat → Shared → Prop}
    (ho : s.heap.get? d = some { cls := .type "dict", data := .dict (vEnt xs).toArray ep }) (hx : xs[j]? = some (a, i, v)) (hn : (xs.map (·.2.1)).Nodup) (ha : ∀ x ∈ xs, x.1 = a → x.2.1 = i) (h : Q (some j) s) : wpAny (model prog w) A (dictFind d (.ref a) i) Q E s := by
  unfold dictFind
  refine wpAny_holding ?_
  refine wpAny_bind (wpAny_dictEntries ho rfl ?_)
  dsimp only
  have hp := places_one hx hn
  have hlt : j < xs.length := (List.getElem?_eq_some_iff.mp hx).1
  have hj : (vEnt xs).toArray[j]? = some ⟨i, .ref a, v⟩ := by
    have := (List.getElem?_eq_some_iff.mp hx).2
    simp [vEnt, hlt, this]
  rw [hp]
  rw [if_neg (by simp [carriedByValue])]
  have hany : ¬ ((vEnt xs).toArray.any fun e => e.key == Value.ref a && e.hash != i) = true := by
    rw [← Array.any_toList, List.any_eq_true]
    rintro ⟨e, he, q⟩
    obtain ⟨x, hx, rfl⟩ := List.mem_map.mp (show e ∈ vEnt xs by simpa using he)
    simp only [Bool.and_eq_true, beq_iff_eq, Value.ref.injEq, bne_iff_ne, ne_eq] at q
    exact q.2 (ha x hx q.1)
  rw [if_neg hany]
  rw [if_pos (show ((([j] : List Nat).filterMap fun i => Option.map (fun x => x.key) (vEnt xs).toArray[i]?) == [Value.ref a]) = true by rw [List.filterMap_cons, hj]; simp)]
  simp only [List.filterMap_cons, hj, Option.map_some, List.filterMap_nil]
  refine wpAny_bind (wpAny_pure ?_)
  simp only [Bool.false_and, Bool.false_eq_true, if_false, List.forIn_cons, List.forIn_nil, hj]
  rw [if_pos (by simp)]
  refine wpAny_bind (wpAny_bind ?_)
  refine wpAny_bind (wpAny_dictEpoch ho rfl ?_)
  refine wpAny_bind ?_
  unfold eqBool
  refine wpAny_holding ?_
  rw [if_pos (by simp)]
  refine wpAny_bind (wpAny_rule (wpAny_pure ?_))
  refine wpAny_bind (wpAny_dictEpoch ho rfl ?_)
  rw [if_neg (by simp)]
  simp only [if_true, Option.isSome_none, Bool.false_eq_true, if_false]
  refine wpAny_bind (wpAny_rule ?_)
  rw [if_pos (by simp)]
  exact wpAny_pure (wpAny_pure (wpAny_pure h))

def SrcV (g : G) (M : Mem) (d : Addr) (xs : List (Addr × Int × Value)) : Prop := g d = some (.vd xs) ∨ (d, .vd xs) ∈ M
theorem SrcV.at {P : Params} {h : Heap} {d : Addr} {xs : List (Addr × Int × Value)} (S : SrcV g M d xs) (A : Act P c g ρ M h) : ∃ ep, h.get? d = some { cls := .type "dict", data := .dict (vEnt xs).toArray ep } := by
  rcases S with S | S
  · obtain ⟨o, e, ep, rfl⟩ := A.know _ _ S; exact ⟨ep, e⟩
  · obtain ⟨o, e, ep, rfl⟩ := A.mem _ S; exact ⟨ep, e⟩
theorem T.newDictV {Q : Post Value} (h : ∀ d, Q (.ref d) g ρ ((d, .vd []) :: M)) : T prog w c (PySem.newDict) Q g ρ M :=
  T.pushM (m := .vd []) (o := { cls := .type "dict", data := .dict #[] }) (f := .ref) ⟨0, rfl⟩ rfl (fun s _ R k => wpAny_newObj_type (k s.heap s.toks (Ext.refl _)) (by first | trivial | (show (0:Nat) ≤ _; omega) | decide | simp [sizeOk, sizeLine_eq])) h
theorem T.methodGetV {d : Addr} {xs : List (Addr × Int × Value)} {pl : Sem Bool} {Q : Post (Value × List Value)} (S : SrcV g M d xs) (h : Q (.builtin "dict.get", [.ref d]) g ρ M) : T prog w c (getMethod (.ref d) "get" pl) Q g ρ M := T.tok fun s hA R k => by
  obtain ⟨ep, e⟩ := S.at hA
  exact getMethod_builtin ⟨_, e, rfl⟩ F.plainAttrs_dict F.slot_dict_get F.type_dict_get (fun b q => by cases q; exact ⟨_, e, rfl⟩) (k _ s.toks h)
/-- a key that stands there -/
theorem T.getV {d a : Addr} {xs : List (Addr × Int × Value)} {i : Int} {j : Nat} {v dflt : Value} {Q : Post Value} (O : c.Ok K (n + 1)) (S : SrcV g M d xs) (hx : xs[j]? = some (a, i, v)) (hn : (xs.map (·.2.1)).Nodup) (ha : ∀ x ∈ xs, x.1 = a → x.2.1 = i)
    (hp : Pu prog w K n (pyHash (.ref a)) (fun r g' => r = i ∧ g' = g) g) (h : Q v g ρ M) : T prog w c (call (.builtin "dict.get") [.ref d, .ref a, dflt]) Q g ρ M := fun s hA => by
  obtain ⟨ep, e⟩ := S.at hA
  refine wpAny_call_entry F.slot_dict_get ⟨_, e, rfl⟩ F.entry_dict_get ?_ (F.args_dict_get_3 _ _ _)
  show wpAny _ _ (dictGet d (.ref a) >>= _) _ _ s
  refine wpAny_bind ?_
  unfold dictGet
  refine wpAny_holding (wpAny_bind (wpAny_mono (hp c.A.in1 s O.room.in1 (hA.wd O) hA.know) (fun r s' ⟨x, rs, g', _, _, _, q1, q2⟩ => ?_) fun _ _ e => e.elim))
  subst q1; subst q2
  have e' := x _ _ e
  have hlt : j < xs.length := (List.getElem?_eq_some_iff.mp hx).1
  have hj : (vEnt xs).toArray[j]? = some ⟨r, .ref a, v⟩ := by
    have := (List.getElem?_eq_some_iff.mp hx).2
    simp [vEnt, hlt, this]
  refine wpAny_bind (find_one e' hx hn ha ?_)
  refine wpAny_bind (wpAny_dictEntries e' rfl (wpAny_pure ?_))
  rw [hj]
  exact wpAny_pure ⟨v, rfl, _, ρ, M, hA.ext x, rs, .refl _, h⟩
/-- a new key -/
theorem T.setItemV {d a : Addr} {post : Mem} {xs : List (Addr × Int × Value)} {i : Int} {v : Value} {Q : Post Unit} (O : c.Ok K (n + 1)) (hz : xs.length ≤ 900) (hn : ∀ x ∈ xs, x.2.1 ≠ i ∧ x.1 ≠ a)
    (hp : Pu prog w K n (pyHash (.ref a)) (fun r g' => r = i ∧ g' = g) g) (h : Q () g ρ ((d, .vd (xs ++ [(a, i, v)])) :: post)) : T prog w c (PySem.setItem (.ref d) (.ref a) v) Q g ρ ((d, .vd xs) :: post) := fun s hA => by
  obtain ⟨_, e, ep, rfl⟩ := hA.mem (d, .vd xs) (.head _)
  unfold setItem
  try with_reducible refine wpAny_holding ?_
  refine wpAny_bind (wpAny_sequenceKey ⟨_, e, rfl⟩ (by decide) ?_)
  refine wpAny_bind (wpAny_callSpecial?_slot (name := Str.ofString "__setitem__") ⟨_, e, rfl⟩ slot_dict_setitem
    (wpAny_call_entry slot_dict_setitem ⟨_, e, rfl⟩ entry_dict_setitem ?_ (args_dict_setitem _ _ _)))
  show wpAny _ _ (Builtin.Dict.notOrdered "__setitem__" ⟨[.ref d, .ref a, v], []⟩ >>= _) _ _ s
  refine wpAny_bind (wpAny_notOrdered_dict ⟨_, e, rfl⟩ ?_)
  show wpAny _ _ (dictSet d (.ref a) v >>= _) _ _ s
  refine wpAny_bind ?_
  unfold dictSet
  refine wpAny_holding (wpAny_bind (wpAny_mono (hp c.A.in1 s O.room.in1 (hA.wd O) hA.know) (fun r s' ⟨x, rs, g', _, _, _, q1, q2⟩ => ?_) fun _ _ e => e.elim))
  subst q1; subst q2
  have e' := x _ _ e
  unfold dictSetHashed
  refine wpAny_holding (wpAny_bind (find_none e' hn ?_))
  refine wpAny_bind (wpAny_rule ?_)
  refine wpAny_updateDictKeys e' rfl ?_ (by have := sizeLine_eq; simp only [vEnt, List.size_toArray, List.length_map]; omega)
  refine wpAny_pure ⟨.none, rfl, wpAny_pure ?_⟩
  have rr : (MO.vd (xs ++ [(a, r, v)])).rep w.params (Obj.mapDictKeys (·.push ⟨r, .ref a, v⟩) { cls := .type "dict", data := .dict (vEnt xs).toArray ep }) := ⟨ep + 1, by simp [Obj.mapDictKeys, vEnt]⟩
  exact ⟨_, ρ, _, (hA.ext x).mapTurn (pre := []) O (Heap.SameBut.update _ _ _) ⟨_, Heap.get?_update_self _ e' rfl, rr⟩, rs, .refl _, h⟩
end
end Mine

namespace Mine
section
variable {prog : Program} {w : World} {α β : Type} {c : Cx} {g g' : G} {ρ ρ' : Str → Option Value} {M M' : Mem} {K : Frag} {n : Nat} {pos apos : Pos} {l : List (Str × NameKind)}

/-- a comprehension that maps each item, and leaves what may be turned alone -/
theorem LcK.map {x : Str} {px : Pos} {elt : Expr} {sc : Scope} {m : Nat} {P : Nat → Value → Heap → Prop} {fin : Addr → List Value → G → Mem → Prop} (R : Nat → Value → G → Prop) (hR : ∀ i v g g', Le g g' → R i v g → R i v g')
    (hx : ((relab l sc.names).lookup x == some .local) = true) (hm : m ≤ 1000)
    (step : ∀ (D : Addr) (c' : Cx), c'.Ok K n → c'.env.scope.names = relab l sc.names → ∀ i v g' ρ' acc, i < m → P i v c'.h₀ → Le g g' → (∀ x, ((relab l sc.names).lookup x == some .local) = false → ρ' x = ρ x) →
      T prog w c' (eval elt c'.env) (fun y g'' _ M'' => M'' = (D, .list acc) :: M ∧ R i y g'') g' (put ρ' x v) ((D, .list acc) :: M))
    (hfin : ∀ D ys g', Le g g' → ys.length = m → (∀ i y, ys[i]? = some y → R i y g') → fin D ys g' M) : LcK prog w K n l sc (.Name x px) elt [] g ρ m P M fin := by
  refine ⟨hm, fun D => ⟨fun i acc g' M' => M' = M ∧ acc.length = i ∧ ∀ j y, acc[j]? = some y → R j y g', ⟨rfl, rfl, fun j y e => by cases j <;> cases e⟩, ?_, ?_⟩⟩
  · rintro c' O' hS' i v g' ρ' acc M' hi hP hl ha ⟨rfl, hlen, hacc⟩
    refine T.assign_stored (T.stLocal O' (kind_of hS' (by simpa using hx)) (T.tests_nil (IfK.t ?_)))
    intro s hA
    refine wpAny_mono (step D c' O' hS' i v g' ρ' acc hi hP hl ha s hA) (fun y s' ⟨g'', ρ'', M'', a, b, l', e, r⟩ => ⟨g'', ρ'', M'', a, b, l', M', e, rfl, by simp [hlen], fun j z hz => ?_⟩) fun _ _ e => e
    rcases Nat.lt_or_ge j acc.length with q | q
    · rw [List.getElem?_append_left q] at hz
      exact hR _ _ _ _ l' (hacc j z hz)
    · rw [List.getElem?_append_right q] at hz
      have : j = acc.length := by
        have := (List.getElem?_eq_some_iff.mp hz).1
        simp at this; omega
      subst this
      simp at hz
      subst hz
      rw [hlen]; exact r
  · rintro acc g' M' hl ⟨rfl, hlen, hacc⟩
    exact hfin D acc g' hl hlen hacc

-- keyword calls
theorem T.evalArgs_kw1 {f : Value} {x : Sem Value} {name : Str} {Q : Post Args} (h : T prog w c x (fun v g ρ M => Q ⟨[], [(name, v)]⟩ g ρ M) g ρ M) : T prog w c (evalArgs f true [] [(some name, x)]) Q g ρ M := by
  unfold evalArgs
  show T prog w c (spliced [] >>= _) Q g ρ M
  refine T.bind (T.pure (T.bind (T.pure (T.holding ?_))))
  exact T.bind (T.bind (T.mono h fun v g ρ M q => T.bind (T.holding (T.pure (T.pure (T.bind (T.pure (T.pure q))))))))
/-- a method of a class of the text's is called by one keyword alone -/
theorem T.cw1Kkw {f x : Value} {name : Str} {e : Expr} {kws : List Keyword} {Q : Post Value} (O : c.Ok K n) (hk : keepIn K f = true) (he : keywordEach kws c.env = [(some name, eval e c.env)])
    (h : T prog w c (eval e c.env) (fun v g ρ M => T prog w c (call f [x] [(name, v)]) Q g ρ M) g ρ M) :
    T prog w c (callWith pos f [x] (backTo pos (starEach [] c.env)) (backToKw pos (keywordEach kws c.env))) Q g ρ M := by
  rw [he]
  exact T.callWith_K O hk rfl (T.evalArgs_kw1 (T.bind (T.mono h fun v g ρ M q => T.bind (T.standAt (T.pure q)))))
theorem T.callAttr {o : Expr} {name : Str} {args : List Expr} {kws : List Keyword} {Q : Post Value}
    (he : eval (.Call (.Attribute o name apos) args kws pos) c.env = (do
      let ov ← eval o c.env
      PySem.standAt apos.atName
      let (f, first) ← PySem.holding [ov] (getMethod ov name (do return (← importBound o c.env).getD true))
      callWith pos f first (backTo pos (starEach args c.env)) (backToKw pos (keywordEach kws c.env))))
    (h : T prog w c (eval o c.env) (fun ov g ρ M => T prog w c (getMethod ov name (do return (← importBound o c.env).getD true)) (fun fx g ρ M => T prog w c (callWith pos fx.1 fx.2 (backTo pos (starEach args c.env)) (backToKw pos (keywordEach kws c.env))) Q g ρ M) g ρ M) g ρ M) :
    T prog w c (eval (.Call (.Attribute o name apos) args kws pos) c.env) Q g ρ M := T.call_attr he h
theorem memA : ∀ {MM : Mem} {a : Addr} {m : MO}, MM.lookup a = some m → (a, m) ∈ MM
  | [], _, _, e => by cases e
  | (b, m') :: r, a, m, e => by
    rw [List.lookup_cons] at e
    cases q : a == b with
    | true => rw [q] at e; cases e; rw [beq_iff_eq.mp q]; exact .head _
    | false => rw [q] at e; exact .tail _ (memA e)
/-- a def whose own mutable objects are laid aside at its end -/
theorem Fn.defM {f : Addr} {fd : FuncData} {body : List Stmt} {oc : Value} {od : Option Addr} {osl : Array (Option Value)} {args : List Value} {kw : List (Str × Value)} {binds : List (Str × Value)} {Q : Value → G → Prop}
    (hK : K.lookup f = some ⟨oc, od, .func fd, osl⟩) (D : DefOk K fd) (hb : fd.body = .stmts body) (hbind : ∀ s, K.In s.heap → BindsTo s fd ⟨args, kw⟩ binds)
    (hkind : (binds.all fun y => fd.scope.names.lookup y.1 == some .local || fd.scope.names.lookup y.1 == some .cell) = true)
    (h : ∀ c : Cx, c.Ok K n → c.Own → c.env.scope.names = fd.scope.names → T prog w c (execs body c.env) (fun fl g' _ M' => ∀ g'', Le g' g'' → (∀ p ∈ M', g'' p.1 = some p.2) → Q (retOf fl) g'') g (ofBinds binds) []) :
    Pu prog w K (n + 1) (call (.ref f) args kw) Q g := fun A s r wd sb => by
  refine wpAny_call (codeAny_mono (enter (R := fun v g' M' => ∀ g'', Le g' g'' → (∀ p ∈ M', g'' p.1 = some p.2) → Q v g'') (ge := g) (h₀ := s.heap) (M₀ := []) r wd (Ext.refl _) sb (fun a m e => .inl e) (fun _ hp => nomatch hp) (fun _ hp => nomatch hp) List.nodup_nil hK D hb (hbind s wd.X) hkind fun c O W e _ _ => h c O W e) fun r s' hr => ?_)
  obtain ⟨v, g', M', rfl, o, q⟩ := hr
  have key : ∀ a m, M'.lookup a = some m → (a, m) ∈ M' := fun a m e => memA e
  have lk : ∀ (MM : Mem), (MM.map (·.1)).Nodup → ∀ p ∈ MM, MM.lookup p.1 = some p.2 := by
    intro MM
    induction MM with
    | nil => intro _ p hp; cases hp
    | cons x r ih =>
      intro hn p hp
      have hn' := List.nodup_cons.mp hn
      rw [List.lookup_cons]
      rcases List.mem_cons.mp hp with rfl | hp
      · simp
      · have : (p.1 == x.1) = false := beq_eq_false_iff_ne.mpr fun e => hn'.1 (by show x.1 ∈ _; rw [← e]; exact List.mem_map_of_mem (f := (·.1)) hp)
        rw [this]; exact ih hn'.2 p hp
  let g'' : G := fun a => match M'.lookup a with | some m => some m | none => g' a
  have l : Le g' g'' := fun a m e => by
    show (match M'.lookup a with | some m => some m | none => g' a) = _
    cases z : M'.lookup a with
    | none => exact e
    | some m' =>
      have := (o.fresh a (List.mem_map_of_mem (f := (·.1)) (key a m' z))).2
      rw [this] at e; cases e
  have inv : ∀ a m, g'' a = some m → (a, m) ∈ M' ∨ g' a = some m := fun a m e => by
    have e' : (match M'.lookup a with | some m => some m | none => g' a) = some m := e
    cases z : M'.lookup a with
    | none => rw [z] at e'; exact .inr e'
    | some m' => rw [z] at e'; cases e'; exact .inl (key a m z)
  refine ⟨o.ext, o.rest, g'', o.le.trans l, fun a m e => ?_, fun a m e => ?_, q g'' l fun p hp => ?_⟩
  · rcases inv a m e with e | e
    · exact o.mem _ e
    · exact o.know a m e
  · rcases inv a m e with e | e
    · exact .inr (o.fresh a (List.mem_map_of_mem (f := (·.1)) e)).1
    · exact o.old a m e
  · show (match M'.lookup p.1 with | some m => some m | none => g' p.1) = _
    rw [lk M' o.nodup p hp]
end
end Mine

namespace Mine
section
variable {prog : Program} {w : World} {α β : Type} {c : Cx} {g g' : G} {ρ ρ' : Str → Option Value} {M M' : Mem} {K : Frag} {n : Nat} {pos apos : Pos} {P : Params}

-- plain data
mutual
inductive Rd (g : G) : Value → PyData → Prop
  | str (x : Str) (t : Tok) : Rd g (.str x t) (.str x)
  | list {a : Addr} {vs : List Value} {xs : List PyData} : g a = some (.list vs) → RdAll g vs xs → Rd g (.ref a) (.list xs)
  | tup {a : Addr} {vs : List Value} {xs : List PyData} : g a = some (.tup vs) → RdAll g vs xs → Rd g (.ref a) (.tuple xs)
inductive RdAll (g : G) : List Value → List PyData → Prop
  | nil : RdAll g [] []
  | cons {v : Value} {vs : List Value} {x : PyData} {xs : List PyData} : Rd g v x → RdAll g vs xs → RdAll g (v :: vs) (x :: xs)
end
mutual
theorem Rd.mono (l : Le g g') : ∀ {v : Value} {x : PyData}, Rd g v x → Rd g' v x
  | _, _, .str x t => .str x t
  | _, _, .list e r => .list (l _ _ e) (r.mono l)
  | _, _, .tup e r => .tup (l _ _ e) (r.mono l)
theorem RdAll.mono (l : Le g g') : ∀ {v : List Value} {x : List PyData}, RdAll g v x → RdAll g' v x
  | _, _, .nil => .nil
  | _, _, .cons h t => .cons (h.mono l) (t.mono l)
end
mutual
theorem Rd.reads {h : Heap} (sb : Sub P g h) : ∀ {v : Value} {x : PyData}, Rd g v x → ∃ as, Reads h v x as
  | _, _, .str x t => ⟨_, .str x t⟩
  | _, _, .list e r => by
    obtain ⟨as, ha⟩ := r.reads sb
    obtain ⟨_, ho, k, rfl⟩ := sb _ _ e
    exact ⟨_, reads_list_at ho rfl rfl (by simpa using ha)⟩
  | _, _, .tup e r => by
    obtain ⟨as, ha⟩ := r.reads sb
    obtain ⟨_, ho, rfl⟩ := sb _ _ e
    exact ⟨_, reads_tuple_at ho rfl rfl (by simpa using ha)⟩
theorem RdAll.reads {h : Heap} (sb : Sub P g h) : ∀ {v : List Value} {x : List PyData}, RdAll g v x → ∃ as, ReadsAll h v x as
  | _, _, .nil => ⟨_, .nil⟩
  | _, _, .cons a r => by
    obtain ⟨as, ha⟩ := a.reads sb
    obtain ⟨bs, hb⟩ := r.reads sb
    exact ⟨_, .cons ha hb⟩
end
theorem T.neData {a b : Value} {da db : PyData} {Q : Post Value} (O : c.Ok K (n + 8)) (ra : Rd g a da) (rb : Rd g b db) (sa : SeqAt.shaped da = true) (sb : SeqAt.shaped db = true) (h : Q (.bool (!PyData.eqv da db)) g ρ M) :
    T prog w c (compareOp .NotEq a b) Q g ρ M := T.tok fun s hA R k => by
  obtain ⟨as, ha⟩ := ra.reads hA.know
  obtain ⟨bs, hb⟩ := rb.reads hA.know
  exact ne_dataH ha hb sa sb (by have := O.room.units; omega) (k _ s.toks h)

theorem fold_app (vs : List Value) (m : Nat) : (List.foldl (fun x1 x2 => x1 ++ x2) #[] (List.replicate m vs.toArray)) = ((List.replicate m vs).flatten).toArray := by
  have : ∀ (m : Nat) (acc : List Value), List.foldl (fun x1 x2 => x1 ++ x2) acc.toArray (List.replicate m vs.toArray) = (acc ++ (List.replicate m vs).flatten).toArray := by
    intro m
    induction m with
    | zero => intro acc; simp
    | succ m ih => intro acc; rw [List.replicate_succ, List.foldl_cons, List.append_toArray, ih]; simp [List.replicate_succ]
  simpa using this m []
/-- [..] * k -/
theorem T.mulL' {a : Addr} {vs : List Value} {x : Int} {u : Tok} {Q : Post Value} (S : SrcL g M a vs) (hz : vs.length * x.toNat ≤ 1000) (h1 : 0 ≤ x) (h2 : x ≤ 1000) (hne : vs ≠ []) (h : ∀ b, g b = none → Q (.ref b) (setG g b (.list ((List.replicate x.toNat vs).flatten))) ρ M) :
    T prog w c (binaryOp .Mult (.ref a) (.int x u)) Q g ρ M := by
  have z : vs.toArray.size * x.toNat ≤ 1000 := by rw [List.size_toArray]; exact hz
  have z1 : ¬ (!Builtin.List.listFitsIndex x) = true := by simp [Builtin.List.listFitsIndex]; omega
  have z2 : ¬ Builtin.List.listTooLong (vs.toArray.size * x.toNat) = true := by
    generalize vs.toArray.size * x.toNat = q at z
    simp [Builtin.List.listTooLong, sizeLine]; omega
  have z3 : ¬ vs.toArray.size * x.toNat > (2 ^ 63 - 1) / 8 := Nat.not_lt.mpr (Nat.le_trans z (by decide +kernel))
  refine T.push (m := .list ((List.replicate x.toNat vs).flatten)) (o := { cls := .type "list", data := .seq (List.foldl (fun x1 x2 => x1 ++ x2) #[] (List.replicate (if vs.toArray.isEmpty = true then 0 else x.toNat) vs.toArray)) }) (f := .ref) ⟨0, ?_⟩ rfl (fun s hA R kk => ?_) h
  · rw [fold_app]
    cases vs with
    | nil => exact absurd rfl hne
    | cons => simp
  · obtain ⟨kk', hl⟩ := S.at hA
    have mm := AutoListH.list___mul___list_int_3 a vs.toArray kk' x u z1 z3 z2
    exact wpAny_binaryOp_repeat_ref (T := "list") (U := "int") (by decide) ⟨_, hl, rfl⟩ (fun s' => typeIs_int s' x u) noFill_list_mul F.fills_int_mul F.slot_int_rmul repeat_list F.slot_int_index.lookup
      (call_meets F.slot_int_rmul (typeIs_int s x u) F.entry_int_rmul (F.args_int_rmul_2 _ _) (int___rmul___int_list x u a vs.toArray kk')
        ⟨hl, rfl, ⟨_, hl, rfl⟩, call_meets F.slot_list_mul ⟨_, hl, rfl⟩ F.entry_list_mul (F.args_list_mul_2 _ _) mm ⟨hl, kk s.heap s.toks (Ext.refl _)⟩⟩)

/-- something made on the way is let go -/
theorem T.postDrop {p : Addr × MO} {t : Sem α} {Q : Post α} (h : T prog w c t (fun r g ρ M' => ∃ M₁, M' = p :: M₁ ∧ Q r g ρ M₁) g ρ M) : T prog w c t Q g ρ M := fun s hA =>
  wpAny_mono (h s hA) (fun _ _ ⟨g', ρ', M', a, b, l, M₁, e, q⟩ => ⟨g', ρ', M₁, by subst e; exact a.drop, b, l, q⟩) fun _ _ e => e

-- slices
def sliceO (i : Int) (u : Tok) : Obj := { cls := .type "slice", data := .fields #[.int i u, .none, .none] }
theorem T.slice {e : Expr} {Q : Post Value} (h : T prog w c (eval e c.env) (fun v g ρ M => ∃ i u, v = .int i u ∧ ∀ sl, Q (.ref sl) g ρ ((sl, .raw (sliceO i u)) :: M)) g ρ M) :
    T prog w c (eval (.Slice (some e) none none pos) c.env) Q g ρ M := by
  rw [arm_eval_Slice]
  refine T.bind (T.mono h fun v g ρ M ⟨i, u, e, q⟩ => T.bind (T.holding (T.pure (T.bind (T.holding (T.pure ?_))))))
  subst e
  exact T.pushM (m := .raw (sliceO i u)) (o := sliceO i u) (f := .ref) rfl rfl (fun s _ R k => wpAny_newObj_type (k s.heap s.toks (Ext.refl _))) q
theorem T.sliceL {value slice : Expr} {a sl : Addr} {vs : List Value} {i : Nat} {u : Tok} {Q : Post Value} (S : SrcL g M a vs) (hz : vs.length ≤ 1000)
    (hs : subscripted slice false (.ref a) (.ref sl) = PySem.operate [.ref sl, .ref a] (getItem (.ref a) (.ref sl))) (hg : ∀ r, letTemporaryGo value (.ref a) r = Pure.pure ())
    (h : ∀ b, g b = none → Q (.ref b) (setG g b (.list (vs.drop i))) ρ M) : T prog w c (subscriptTail value slice (.ref a) (.ref sl)) Q g ρ ((sl, .raw (sliceO i u)) :: M) := by
  refine T.postDrop (p := (sl, .raw (sliceO i u))) (T.push (m := .list (vs.drop i)) (o := { cls := .type "list", data := .seq (slicePick vs.toArray (some i) none none) }) (f := .ref) ⟨0, by rw [slicePick_from']⟩ rfl (fun s hA R kk => ?_) fun b hb => ⟨M, rfl, h b hb⟩)
  have S' : SrcL g ((sl, .raw (sliceO i u)) :: M) a vs := S.elim .inl fun e => .inr (.tail _ e)
  obtain ⟨kk', hl⟩ := S'.at hA
  obtain ⟨_, hsl, rfl⟩ := hA.mem _ (.head _)
  exact subscriptTail_ops hl.isList.typeIs list_getitem_lookup (wpAny_getItem_list_slice hl.isList ⟨_, hsl, rfl, rfl⟩ (.int i u) .none .none (by simp) (kk s.heap s.toks (Ext.refl _)) (by rw [List.size_toArray, sizeLine_eq]; omega)) hs hg
theorem T.sliceT {value slice : Expr} {a sl : Addr} {vs : List Value} {i : Nat} {u : Tok} {Q : Post Value} (S : Tup g a vs) (hz : vs.length ≤ 1000) (h1 : 1 ≤ i) (hi : i ≤ vs.length)
    (hs : subscripted slice false (.ref a) (.ref sl) = PySem.operate [.ref sl, .ref a] (getItem (.ref a) (.ref sl))) (hg : ∀ r, letTemporaryGo value (.ref a) r = Pure.pure ())
    (h : ∀ b, g b = none → Q (.ref b) (setG g b (.tup (vs.drop i))) ρ M) : T prog w c (subscriptTail value slice (.ref a) (.ref sl)) Q g ρ ((sl, .raw (sliceO i u)) :: M) := by
  refine T.postDrop (p := (sl, .raw (sliceO i u))) (T.push (m := .tup (vs.drop i)) (o := { cls := .type "tuple", data := .seq (vs.drop i).toArray }) (f := .ref) rfl rfl (fun s hA R kk => ?_) fun b hb => ⟨M, rfl, h b hb⟩)
  obtain ⟨_, hsl, rfl⟩ := hA.mem _ (.head _)
  have hT : IsTup s.heap a vs.toArray := ⟨_, S.at hA, rfl, 0, rfl⟩
  exact subscriptTail_ops hT.typeIs PyProof.Rows.slot_tuple_getitem.lookup (getItem_tuple_from hT ⟨_, hsl, rfl, rfl⟩ h1 (by simpa using hi) (by simpa using kk s.heap s.toks (Ext.refl _)) (by rw [List.size_toArray, sizeLine_eq]; omega)) hs hg
end
end Mine

namespace Mine
section
variable {prog : Program} {w : World} {α β : Type} {c : Cx} {g g' : G} {ρ ρ' : Str → Option Value} {M M' : Mem} {K : Frag} {n : Nat} {pos apos : Pos} {P : Params} {l : List (Str × NameKind)}

theorem T.listOfT {a : Addr} {vs : List Value} {Q : Post Value} (S : Tup g a vs) (hz : vs.length ≤ 1000) (h : ∀ b, g b = none → Q (.ref b) (setG g b (.list vs)) ρ M) : T prog w c (call (.type "list") [.ref a]) Q g ρ M := fun s hA => by
  refine call_list_seq a (.inr rfl) (S.at hA) rfl rfl (fun h' c' x e => ?_) (by rw [List.size_toArray, sizeLine_eq]; omega)
  have hn : s.heap.get? s.heap.objs.size = none := by
    cases q : s.heap.get? s.heap.objs.size with
    | none => rfl
    | some o => exact absurd (Heap.lt_size q) (Nat.lt_irrefl _)
  have A2 := hA.new (m := .list vs) x hn ⟨_, e, c', rfl⟩
  have hg := (A2.fresh s.heap.objs.size (List.mem_append_right _ (.head _))).2
  exact ⟨_, _, _, Act.freeze (pre := []) A2, ⟨rfl, rfl, rfl⟩, Le.setG hg, h _ hg⟩

-- list(reversed(..))
theorem T.revIter {a : Addr} {vs : List Value} {Q : Post Value} (S : Lst g a vs) (h : ∀ I, Q (.ref I) g ρ ((I, .raw (revObj a ((vs.length : Int) - 1))) :: M)) : T prog w c (call (.type "reversed") [.ref a]) Q g ρ M :=
  T.pushM (m := .raw (revObj a ((vs.length : Int) - 1))) (o := revObj a ((vs.length : Int) - 1)) (f := .ref) rfl rfl (fun s hA R k => by
    obtain ⟨_, hl⟩ := SrcL.at (.inl S) hA
    refine call_reversed_list hl.isList ?_
    have e : ((vs.toArray.size : Nat) : Int) - 1 = (vs.length : Int) - 1 := by simp
    rw [e]
    exact k s.heap s.toks (Ext.refl _)) h
theorem lri_no_len : typeLookup (.type "list_reverseiterator") "__len__" = pure none := by rw [typeLookup_type, builtinLookup_eq_fast]; kernel_rfl
theorem lri_hint : typeLookup (.type "list_reverseiterator") "__length_hint__" = pure (some (.builtin "list_reverseiterator.__length_hint__")) := by rw [typeLookup_type, builtinLookup_eq_fast]; kernel_rfl
theorem hintRev {A : Around} {E : Value → Shared → Prop} {s : Shared} {r : Addr} {Q : Bool → Shared → Prop} (hT : s.TypeIs (.ref r) "list_reverseiterator") (h : Q false s) : wpAny (model prog w) A (Builtin.List.listLengthHint (.ref r)) Q E s := by
  unfold Builtin.List.listLengthHint
  refine wpAny_bind (wpAny_specialOf hT lri_no_len ?_)
  show wpAny _ _ (specialOf (Value.ref r) (Str.ofString "__length_hint__") >>= _) _ _ _
  refine wpAny_bind (wpAny_specialOf hT lri_hint ?_)
  generalize hid : ("list_reverseiterator.__length_hint__" : String) = id0
  wp_delta
  rw [show splitId id0 = some ("list_reverseiterator", "__length_hint__") from by subst hid; decide +kernel]
  subst hid
  refine wpAny_bind (wpAny_isInstance (T := "list_reverseiterator") (b := true) hT (by rw [isSubtype_type]; kernel_rfl) ?_)
  refine wpAny_ite_split (fun hab => absurd hab (by decide)) (fun _ => ?_)
  refine wpAny_ite_split (fun _ => ?_) (fun hab => absurd (by decide +kernel) hab)
  refine wpAny_ite_split (fun hab => absurd hab (by decide +kernel)) (fun _ => ?_)
  exact wpAny_pure h
theorem rev_extend {A : Around} {s : Shared} {I a : Addr} {items : Array Value} {R : Result → Shared → Prop} (hh : A.handled = none) (hne : a ≠ I) (hit : s.heap.IsRevIter I a ((items.size : Int) - 1)) (hl : s.heap.IsList a items) (S : Addr) (hSI : S ≠ I) (hSa : S ≠ a) (res : Value) (c₀ : Nat)
    (hS : s.heap.get? S = some { cls := .type "list", data := .seq #[] c₀ }) (hn : items.size ≤ sizeLine)
    (hR : ∀ h' tk acc' c', (∀ b o, b ≠ S → b ≠ I → s.heap.get? b = some o → h'.get? b = some o) → h'.get? S = some { cls := .type "list", dict := none, data := .seq acc' c', slots := #[] } → ItemsOf (fun i v => items[items.size - 1 - i]? = some v) acc' items.size → R (.ok (.ret res)) { s with heap := h', toks := tk }) :
    wpAny (model prog w) A.in1 (Builtin.List.listExtendWith (.ref S) (.ref I) res)
      (fun fin s' => match fin with | .done f => R (.ok f) s' | .again c' => c'.quiet = true ∧ codeAny (model prog w) A c' R s') (fun e s' => R (.error e) s') s := by
  have hh1 : A.in1.handled = none := hh
  have W := Walks.listRev (prog := prog) (w := w) (A := A.in1) hh1 I a hne items
  have hSf : S ∉ [I, a] := by simp only [List.mem_cons, List.not_mem_nil, or_false, not_or]; exact ⟨hSI, hSa⟩
  have key : ∀ (h : Heap) (c₁ tk : Nat), h.IsRevIter I a ((items.size : Int) - 1) → h.IsList a items → (∀ b o, b ≠ S → b ≠ I → s.heap.get? b = some o → h.get? b = some o) →
      h.get? S = some { cls := .type "list", data := .seq #[] c₁ } → codeAny (model prog w) A (.builtin "list.extend.loop" ⟨[.ref S, .ref I, res], []⟩) R { s with heap := h, toks := tk } := by
    intro h c₁ tk h1 h2 hk hS₁
    refine codeAny_extend_loopS W.toS hn S hSf res items.size 0 _ #[] c₁ rfl (Nat.zero_le _) ⟨Nat.zero_le _, by simpa using h1, h2⟩ hS₁ (ItemsOf.nil _) fun s' acc' c' hm hS' hacc => ?_
    rw [Moved.eq_with hm]
    refine hR s'.heap s'.toks acc' c' (fun b o hb hb2 e => hm.heap b o (fun hmem => ?_) (hk b o hb hb2 e)) hS' hacc
    rcases List.mem_cons.mp hmem with e' | hmem
    · exact hb e'
    · exact hb2 (List.mem_singleton.mp hmem)
  unfold Builtin.List.listExtendWith
  refine wpAny_bind (wpAny_typeOf (T := "list_reverseiterator") hit.typeIs ?_)
  have h1 : Builtin.List.listSameRef (.ref S) (.ref I) = false := by simp [Builtin.List.listSameRef, hSI]
  have h2 : (Value.type "list_reverseiterator" == Value.type "list") = false := by decide
  have h3 : (Value.type "list_reverseiterator" == Value.type "tuple") = false := by decide
  simp only [h1, h2, h3, Bool.or_false, Bool.false_eq_true, if_false]
  refine wpAny_bind (wpAny_pyIter_revIter hit ?_)
  refine wpAny_bind (wpAny_holding (hintRev hit.typeIs ?_))
  refine wpAny_ite_split (fun hab => absurd hab (by decide)) (fun _ => wpAny_pure ⟨plainId_quiet PySem.F.plain_extend_loop _, key _ c₀ _ hit hl (fun b o _ _ e => e) hS⟩)
theorem call_list_rev {A : Around} {E : Value → Shared → Prop} {s : Shared} {I a : Addr} {items : Array Value} {Q : Value → Shared → Prop} (hh : A.handled = none) (hne : a ≠ I) (hit : s.heap.IsRevIter I a ((items.size : Int) - 1)) (hl : s.heap.IsList a items) (hn : items.size ≤ sizeLine)
    (hQ : ∀ h' tk acc' c', (∀ b o, b ≠ I → s.heap.get? b = some o → h'.get? b = some o) → h'.get? s.heap.objs.size = some { cls := .type "list", dict := none, data := .seq acc' c', slots := #[] } → ItemsOf (fun i v => items[items.size - 1 - i]? = some v) acc' items.size → Q (.ref s.heap.objs.size) { s with heap := h', toks := tk }) :
    wpAny (model prog w) A (call (.type "list") [.ref I]) Q E s := by
  refine callType_codes (Q₁ := fun obj s₁ => obj = .ref s.heap.objs.size ∧ s₁ = { s with heap := s.heap.push { cls := .type "list", data := .seq #[] } }) PySem.F.called_list (PySem.F.typeCall_list_1 _) PySem.F.entry_list_init
    (code_list_new _ ⟨rfl, rfl⟩) fun obj s₁ h₁ => ?_
  obtain ⟨rfl, rfl⟩ := h₁
  have hS : (s.heap.push { cls := .type "list", data := .seq #[] }).get? s.heap.objs.size = some { cls := .type "list", data := .seq #[] } := Heap.get?_push_size _ rfl
  obtain ⟨oI, hoI, _⟩ := id hit
  obtain ⟨oa, hoa, _⟩ := id hl
  have n1 : s.heap.objs.size ≠ I := Nat.ne_of_gt (Heap.lt_size hoI)
  have n2 : s.heap.objs.size ≠ a := Nat.ne_of_gt (Heap.lt_size hoa)
  refine ⟨⟨_, hS, rfl⟩, PySem.F.args_list_init_2 _ _, ?_⟩
  show wpAny _ _ (do let old ← Builtin.List.listItems (.ref s.heap.objs.size); Builtin.List.listUpdate (.ref s.heap.objs.size) (fun _ => #[]); letGo old.toList.reverse; Builtin.List.listExtendWith (.ref s.heap.objs.size) (.ref I) .none) _ _ _
  refine wpAny_bind ?_
  unfold Builtin.List.listItems
  refine wpAny_bind (wpAny_seqItems hS rfl (wpAny_pure ?_))
  show wpAny _ _ (updateSeq s.heap.objs.size (fun _ => #[]) >>= fun _ => letGo (#[] : Array Value).toList.reverse >>= fun _ => Builtin.List.listExtendWith (.ref s.heap.objs.size) (.ref I) .none) _ _ _
  refine wpAny_bind (wpAny_updateSeq hS rfl ?_)
  have hS₂ := Heap.get?_update_self (Obj.mapSeq (fun _ => (#[] : Array Value))) hS rfl
  have oth : ∀ b o, b ≠ s.heap.objs.size → s.heap.get? b = some o → ((s.heap.push { cls := .type "list", data := .seq #[] }).update s.heap.objs.size (Obj.mapSeq (fun _ => (#[] : Array Value)))).get? b = some o :=
    fun b o hb e => (Heap.get?_update_other _ _ (Ne.symm hb)).trans (Heap.get?_push_of_some _ e)
  refine wpAny_bind (wpAny_letGo ?_)
  refine rev_extend (A := A.in1) hh hne (hit.at fun o e => oth _ _ n1.symm e) (hl.at fun o e => oth _ _ n2.symm e) _ n1 n2 .none _ hS₂ hn fun h' tk acc' c' hk hS' hacc => ?_
  exact ⟨rfl, hQ h' tk acc' c' (fun b o hb e => hk b o (Nat.ne_of_lt (Heap.lt_size e)) hb (oth b o (Nat.ne_of_lt (Heap.lt_size e)) e)) hS' hacc⟩
theorem T.listRev {I a : Addr} {vs : List Value} {Q : Post Value} (O : c.Ok K n) (S : Lst g a vs) (hz : vs.length ≤ 1000) (h : ∀ b, g b = none → Q (.ref b) (setG g b (.list vs.reverse)) ρ M) :
    T prog w c (call (.type "list") [.ref I]) Q g ρ ((I, .raw (revObj a ((vs.length : Int) - 1))) :: M) := fun s hA => by
  obtain ⟨_, hl⟩ := SrcL.at (M := (I, .raw (revObj a ((vs.length : Int) - 1))) :: M) (.inl S) hA
  obtain ⟨_, hI, rfl⟩ := hA.mem _ (.head _)
  have hne : a ≠ I := fun q => by
    have := hA.head_out.2.1
    rw [← q, S] at this; cases this
  refine call_list_rev (items := vs.toArray) O.room.handled hne ⟨_, hI, rfl, by simp [revObj]⟩ hl.isList (by rw [List.size_toArray, sizeLine_eq]; omega) fun h' tk acc' c' hk hS' hacc => ?_
  have hn : s.heap.get? s.heap.objs.size = none := by
    cases q : s.heap.get? s.heap.objs.size with
    | none => rfl
    | some o => exact absurd (Heap.lt_size q) (Nat.lt_irrefl _)
  have e : acc' = vs.reverse.toArray := by
    apply Array.ext'
    refine List.ext_getElem? fun j => ?_
    by_cases q : j < vs.length
    · have hj : j < acc'.size := by rw [hacc.1]; simpa using q
      have h2 := hacc.2 j acc'[j] (Array.getElem?_eq_getElem hj)
      simp only [List.size_toArray, List.getElem?_toArray] at h2
      rw [Array.getElem?_toList, Array.getElem?_eq_getElem hj, ← h2]
      simp [List.getElem?_reverse q]
    · have hj : ¬ j < acc'.size := by rw [hacc.1]; simpa using q
      rw [List.getElem?_eq_none (by simpa using hj), List.getElem?_eq_none (by simpa using q)]
  subst e
  have hout := hA.head_out
  have A1 := (hA.drop).outside (wr := [I]) (h' := h') O (fun b o hb e => hk b o (by simpa using hb) e) (fun b hb => by rw [List.mem_singleton.mp hb]; exact hout)
  have gn : g s.heap.objs.size = none := by
    cases q : g s.heap.objs.size with
    | none => rfl
    | some m => obtain ⟨o, ho, _⟩ := hA.know _ m q; rw [hn] at ho; cases ho
  have c0 : c.h₀.get? s.heap.objs.size = none := by
    cases q : c.h₀.get? s.heap.objs.size with
    | none => rfl
    | some o =>
      have := hA.keep _ o q
      rw [hn] at this
      cases this
  have nin : s.heap.objs.size ∉ c.own ++ M.map (·.1) := fun q => by
    rcases List.mem_append.mp q with q | q
    · obtain ⟨o, ho⟩ := hA.live _ q
      rw [hn] at ho
      cases ho
    · obtain ⟨p, hp, e⟩ := List.mem_map.mp q
      obtain ⟨o, ho, _⟩ := hA.mem p (.tail _ hp)
      rw [e, hn] at ho
      cases ho
  have A2 := A1.adopt (a := s.heap.objs.size) (m := .list vs.reverse) ⟨_, hS', c', rfl⟩ ⟨c0, gn, nin⟩
  exact ⟨_, _, _, Act.freeze (pre := []) A2, ⟨rfl, rfl, rfl⟩, Le.setG gn, h _ gn⟩

-- texts
theorem T.strI {k : Int} {t : Tok} {Q : Post Value} (h0 : 0 ≤ k) (h1 : k < 1000000) (h : ∀ t, Q (.str (Str.ofString (toString k)) t) g ρ M) : T prog w c (call (.type "str") [.int k t]) Q g ρ M := T.tok fun s hA R kk =>
  str_of_int_fit (N := 1000000) (by rw [if_neg (by omega)]; exact h1) (by decide) fun _ => kk _ _ (h _)
theorem T.addS {x y : Str} {t u : Tok} {Q : Post Value} (hz : x.length + y.length ≤ 1000) (h : ∀ t, Q (.str (x ++ y) t) g ρ M) : T prog w c (binaryOp .Add (.str x t) (.str y u)) Q g ρ M := T.tok fun s hA R kk =>
  PyProof.Rows.add_str (fun t' tk => kk _ tk (h t')) (by rw [sizeLine_eq]; omega)

-- a, b = e, f
theorem T.assign_sw {t e : Expr} {nms : List Str} {Q : Post Flow} (O : c.Ok K n) (hs : swapsWith e (some t) pos.line c.env = Pure.pure false) (hw : swappedStores [t] e c.env = Pure.pure (some nms))
    (h : T prog w c (eval e c.env) (fun v g ρ M => ∃ tt vals, v = .ref tt ∧ Tup g tt vals ∧ vals.length = nms.length ∧ T prog w c (assignInOrder (nms.reverse.map fun n => bindName c.env n) vals.reverse) (fun _ g ρ M => Q .next g ρ M) g ρ M) g ρ M) :
    T prog w c (exec (.Assign [t] e pos) c.env) Q g ρ M := by
  rw [exec_Assign1, hs]
  refine T.bind (T.standAt (T.bind (T.pure ?_)))
  rw [if_neg Bool.false_ne_true, hw]
  refine T.bind (T.mono h fun v g ρ M q => T.bind (T.pure ?_))
  obtain ⟨tt, vals, rfl, S, hl, q⟩ := q
  show T prog w c (do PySem.rule "assign.swapped-stores"; let items ← unpackItems (.ref tt) nms.length none; assignInOrder (nms.reverse.map fun n => bindName c.env n) items.reverse; Pure.pure .next) Q g ρ M
  refine T.bind (T.rule (T.bind fun s hA => ?_))
  have hT : s.heap.IsTuple tt vals.toArray := ⟨_, Tup.at S hA, rfl, 0, rfl⟩
  have e1 : nms.length = vals.toArray.size := by rw [List.size_toArray]; exact hl.symm
  rw [e1]
  refine wpAny_unpackItems_tuple O.room.handled hT fun h' x => ?_
  have x' : Ext s.heap h' := fun b o e => x b o (Nat.ne_of_lt (Heap.lt_size e)) e
  exact ⟨g, ρ, M, hA.ext x', ⟨rfl, rfl, rfl⟩, .refl g, T.bind (T.mono q fun _ g ρ M q => T.pure q)⟩
theorem T.bindName {x : Str} {v : Value} {Q : Post Unit} (h : T prog w c (storeName c.env x v) Q g ρ M) : T prog w c (PySem.bindName c.env x v) Q g ρ M := by
  unfold PySem.bindName
  exact T.bind (T.holding (T.point (T.bind (T.mono h fun _ g ρ M q => T.point q))))

-- a mutable object is lent to a call
theorem T.puW {t : Sem α} {Q' : α → G → Prop} {Q : Post α} {m : Nat} {pre post : Mem} {a : Addr} {mo : MO} (O : c.Ok K n) (hm : m ≤ n) (hp : g a = none → Pu prog w K m t Q' (setG g a mo))
    (h : ∀ r g', Le g g' → g' a = none → Q' r (setG g' a mo) → Q r g' ρ (pre ++ (a, mo) :: post)) : T prog w c t Q g ρ (pre ++ (a, mo) :: post) := fun s hA => by
  have ha := hA.fresh a (List.mem_append_right _ (by simp))
  have A1 := Act.freeze hA
  refine wpAny_mono (hp ha.2 c.A s (O.room.le hm) (hA.wd O) A1.know) (fun r s' ⟨x, rs, g₁, l, sb, nw, q⟩ => ?_) fun _ _ e => e
  let g' : G := fun b => if b = a then none else g₁ b
  have hga : g₁ a = some mo := l _ _ setG_self
  have e1 : setG g' a mo = g₁ := by
    funext b
    unfold setG
    by_cases q : b = a
    · rw [if_pos q, q, hga]
    · rw [if_neg q]; exact if_neg q
  have l' : Le g g' := fun b m' e => by
    have hb : b ≠ a := fun q => by rw [q, ha.2] at e; cases e
    show (if b = a then none else g₁ b) = _
    rw [if_neg hb]
    exact l b m' (by unfold setG; rw [if_neg hb]; exact e)
  have ga : g' a = none := if_pos rfl
  have of_g' : ∀ b m', g' b = some m' → b ≠ a ∧ g₁ b = some m' := fun b m' e => by
    by_cases q : b = a
    · rw [q, ga] at e; cases e
    · exact ⟨q, by rwa [show g' b = g₁ b from if_neg q] at e⟩
  have nw' : ∀ b m', g' b = some m' → g b = some m' ∨ s.heap.get? b = none := fun b m' e => by
    obtain ⟨hb, e⟩ := of_g' b m' e
    rcases nw b m' e with e | e
    · left
      unfold setG at e
      rwa [if_neg hb] at e
    · exact .inr e
  refine ⟨g', ρ, _, ⟨hA.keep.trans x, fun b m' e => sb b m' (of_g' b m' e).2, fun b m' e => ?_, ?_, fun y b e => (hA.cell y b e).keeps x, fun p hp => ?_, fun b hb => ⟨(hA.fresh b hb).1, ?_⟩, hA.nodup, fun b hb => ?_⟩, rs, l', h r g' l' ga (by rw [e1]; exact q)⟩
  · rcases nw' b m' e with e | e
    · exact hA.old b m' e
    · right
      cases q : c.h₀.get? b with
      | none => rfl
      | some o => rw [hA.keep b o q] at e; cases e
  · obtain ⟨m', hm', e⟩ := hA.ns
    exact ⟨m', hm'.keeps x, e⟩
  · obtain ⟨o, ho, hr⟩ := hA.mem p hp
    exact ⟨o, x _ _ ho, hr⟩
  · cases q : g' b with
    | none => rfl
    | some m' =>
      rcases nw' b m' q with e | e
      · rw [(hA.fresh b hb).2] at e; cases e
      · exfalso
        rcases List.mem_append.mp hb with hb | hb
        · obtain ⟨o, ho⟩ := hA.live b hb
          rw [ho] at e; cases e
        · obtain ⟨p, hp, rfl⟩ := List.mem_map.mp hb
          obtain ⟨o, ho, _⟩ := hA.mem p hp
          rw [ho] at e; cases e
  · obtain ⟨o, ho⟩ := hA.live b hb
    exact ⟨o, x _ _ ho⟩
end
end Mine

namespace Mine
section
variable {prog : Program} {w : World} {α β : Type} {c : Cx} {g g' : G} {ρ ρ' : Str → Option Value} {M M' : Mem} {K : Frag} {n : Nat} {pos apos : Pos} {P : Params} {l : List (Str × NameKind)}

theorem T.newDictN {b₀ : Addr} {Q : Post Value} (O : c.Ok K n) (hK : ((K.lookup b₀).isSome && decide (sysModules < b₀)) = true) (h : ∀ d, (d == sysModules) = false → Q (.ref d) g ρ ((d, .map (fun _ => none) 0) :: M)) : T prog w c (PySem.newDict) Q g ρ M := fun s hA => by
  obtain ⟨h1, h2⟩ := Bool.and_eq_true_iff.mp hK
  obtain ⟨o, ho⟩ := Option.isSome_iff_exists.mp h1
  have hlt := Heap.lt_size ((hA.wd O).X _ _ ho)
  have h2' := of_decide_eq_true h2
  refine wpAny_newObj_type ?_ (by first | trivial | (show (0:Nat) ≤ _; omega) | decide | simp [sizeOk, sizeLine_eq])
  have hn : s.heap.get? s.heap.objs.size = none := by
    cases q : s.heap.get? s.heap.objs.size with
    | none => rfl
    | some o => exact absurd (Heap.lt_size q) (Nat.lt_irrefl _)
  have A2 := hA.new (h' := s.heap.push { cls := .type "dict", data := .dict #[] }) (m := .map (fun _ => none) 0) (fun b o e => Heap.get?_push_of_some _ e) hn ⟨_, Heap.get?_push_size _ rfl, [], [], 0, rfl, .nil, List.nodup_nil, fun _ => rfl, Nat.le_refl _⟩
  exact ⟨_, _, _, A2, ⟨rfl, rfl, rfl⟩, .refl _, h _ (beq_eq_false_iff_ne.mpr (Nat.ne_of_gt (Nat.lt_trans h2' hlt)))⟩

/-- what a dict comprehension has to show: the keys are texts, no tests -/
def DcK (prog : Program) (w : World) (K : Frag) (n : Nat) (l : List (Str × NameKind)) (sc : Scope) (target kx vx : Expr) (g : G) (ρ : Str → Option Value) (m : Nat) (P : Nat → Value → Heap → Prop) (M' : Mem)
    (fin : Addr → (Str → Option Value) → G → Mem → Prop) : Prop := m ≤ 900 ∧ ∀ D, (D == sysModules) = false → ∃ Inv : Nat → (Str → Option Value) → G → Mem → Prop, Inv 0 (fun _ => none) g M' ∧
  (∀ c' : Cx, c'.Ok K n → c'.env.scope.names = relab l sc.names → ∀ i v g' ρ' f M, i < m → P i v c'.h₀ → Le g g' → (∀ x, ((relab l sc.names).lookup x == some .local) = false → ρ' x = ρ x) → Inv i f g' M →
    T prog w c' (assign target c'.env v) (fun _ g ρ M₁ => T prog w c' (eval kx c'.env) (fun kv g ρ M₁ => ∃ x t, kv = .str x t ∧ T prog w c' (eval vx c'.env) (fun vv g ρ M₁ => ∃ M', M₁ = (D, .map f i) :: M' ∧ Inv (i + 1) (fun y => if y = x then some vv else f y) g M') g ρ M₁) g ρ M₁) g' ρ' ((D, .map f i) :: M)) ∧
  ∀ f g' M, Le g g' → Inv m f g' M → fin D f g' M
theorem T.dc {kx vx target iter : Expr} {sc : Scope} {p : Pos} {Q : Post Value} {b₀ : Addr} (O : c.Ok K n) (hS : c.env.scope.names = l) (hK : ((K.lookup b₀).isSome && decide (sysModules < b₀)) = true)
    (hsc : compOk sc = true) (hfr : freeOk l sc.names = true) (hs : ∀ x, foldedSetIterable iter c.env x = Pure.pure x)
    (h : T prog w c (eval iter c.env) (fun xv g ρ M => Seqs prog w c target xv g ρ M fun m P M' => DcK prog w K n l sc target kx vx g ρ m P M' fun D f g' M => Q (.ref D) g' ρ ((D, .map f m) :: M)) g ρ M) :
    T prog w c (eval (.DictComp kx vx [⟨target, iter, [], 0⟩] sc p) c.env) Q g ρ M := by
  rw [arm_eval_DictComp]
  refine T.compU (use := none) (PD := fun D => (D == sysModules) = false) (m₀ := .map (fun _ => none) 0) (emit := fun a env => match a with
    | .ref D => eval kx env >>= fun k => PySem.holding [k] (eval vx env) >>= fun v => PySem.standAt { kx.pos with endLine := vx.pos.endLine, endCol := vx.pos.endCol } >>= fun _ => PySem.holding [k, v] (dictSet D k v)
    | _ => Pure.pure ()) O (fun e => nomatch e) hS rfl rfl (fun it D env => compTurn_D it D env) hsc hfr hs (fun c Q g ρ M O' hQ => ?_) ?_
  · exact T.newDictN O' hK hQ
  refine T.mono h fun xv g ρ M hq => hq.mono fun m P M' ⟨hm, hk⟩ D hD => ?_
  obtain ⟨Inv, h0, step, fin⟩ := hk D hD
  refine ⟨fun i g MM => ∃ f M, MM = (D, .map f i) :: M ∧ Inv i f g M, ⟨_, M', rfl, h0⟩, ?_, ?_⟩
  · rintro c' O' hS' i v g' ρ' MM hi hP hl ha ⟨f, M, rfl, inv⟩
    refine T.mono (step c' O' hS' i v g' ρ' f M hi hP hl ha inv) fun _ g ρ M₁ q => T.tests_nil ⟨fun _ => ?_, fun e => nomatch e⟩
    refine T.bind (T.mono q fun kv g ρ M₁ ⟨x, t, e, q⟩ => T.bind (T.holding (T.mono q fun vv g ρ M₁ ⟨M₂, e1, inv⟩ => T.bind (T.standAt (T.holding ?_)))))
    subst e e1
    exact T.dictSetD (pre := []) O' (by omega) ⟨_, M₂, rfl, inv⟩
  · rintro g' MM hl ⟨f, M, rfl, inv⟩
    exact fin f g' M hl inv

/-- a display of two pairs with texts as keys -/
theorem T.dict2 {k1 k2 v1 v2 : Expr} {Q : Post Value} (O : c.Ok K n)
    (h : ∀ d, T prog w c (eval k1 c.env) (fun kv1 g ρ M => T prog w c (eval v1 c.env) (fun vv1 g ρ M => T prog w c (eval k2 c.env) (fun kv2 g ρ M => T prog w c (eval v2 c.env) (fun vv2 g ρ M =>
      ∃ x y t u M', kv1 = .str x t ∧ kv2 = .str y u ∧ M = (d, .map (fun _ => none) 0) :: M' ∧ Q (.ref d) g ρ ((d, .map (fun z => if z = y then some vv2 else if z = x then some vv1 else none) 2) :: M')) g ρ M) g ρ M) g ρ M) g ρ ((d, .map (fun _ => none) 0) :: M)) :
    T prog w c (eval (.Dict [some k1, some k2] [v1, v2] pos) c.env) Q g ρ M := by
  rw [arm_eval_Dict]
  have e : (evalEachOpt [some k1, some k2] c.env).zip ((evalEach [v1, v2] c.env).map fun v => do let x ← v; PySem.standAt pos; Pure.pure x) = ([(eval k1 c.env, do let x ← eval v1 c.env; PySem.standAt pos; Pure.pure x), (eval k2 c.env, do let x ← eval v2 c.env; PySem.standAt pos; Pure.pure x)] : List (Sem Value × Sem Value)).map fun p => (some p.1, p.2) := rfl
  rw [e, dictDisplay_pairs _ (by simp) (by simp)]
  refine T.bind (T.standAt (T.bind ?_))
  unfold subDict
  refine T.bind (T.pushM (m := .map (fun _ => none) 0) (o := { cls := .type "dict", data := .dict #[] }) (f := id) ⟨[], [], 0, rfl, .nil, List.nodup_nil, fun _ => rfl, Nat.le_refl _⟩ rfl (fun s _ R k => wpAny_alloc (k s.heap s.toks (Ext.refl _))) fun d => ?_)
  show T prog w c (PySem.holding [.ref d] (if _ then _ else _) >>= fun _ => Pure.pure d) _ _ _ _
  refine T.bind (T.holding ?_)
  rw [if_pos (by simp)]
  have ev : ∀ {kx vx : Expr} {rest : List (Sem Value × Sem Value)} {g ρ M} {Q : Post (List (Value × Value))}, T prog w c (eval kx c.env) (fun kv g ρ M => T prog w c (eval vx c.env) (fun vv g ρ M => T prog w c (evalPairs rest) (fun r g ρ M => Q ((kv, vv) :: r) g ρ M) g ρ M) g ρ M) g ρ M →
      T prog w c (evalPairs ((eval kx c.env, do let x ← eval vx c.env; PySem.standAt pos; Pure.pure x) :: rest)) Q g ρ M := by
    intro kx vx rest g ρ M Q h
    rw [evalPairs]
    refine T.bind (T.mono h fun kv g ρ M q => T.bind (T.holding (T.bind (T.mono q fun vv g ρ M q => T.bind (T.standAt (T.pure ?_))))))
    exact T.bind (T.holding (T.mono q fun r g ρ M q => T.pure q))
  refine T.bind (ev (T.mono (h d) fun kv1 g ρ M q => T.mono q fun vv1 g ρ M q => ev (T.mono q fun kv2 g ρ M q => T.mono q fun vv2 g ρ M q => ?_)))
  obtain ⟨x, y, t, u, M', rfl, rfl, rfl, q⟩ := q
  rw [evalPairs]
  refine T.pure (T.holding ?_)
  simp only [List.forIn_cons, List.forIn_nil, bind_assoc, pure_bind]
  refine T.bind (T.dictSetD (pre := []) O (by omega) (T.bind (T.dictSetD (pre := []) O (by omega) (T.pure (T.pure (T.pure q))))))
end
end Mine

namespace Mine
section
variable {prog : Program} {w : World} {α β : Type} {c : Cx} {g g' : G} {ρ ρ' : Str → Option Value} {M M' : Mem} {K : Frag} {n : Nat} {pos apos : Pos} {P : Params} {l : List (Str × NameKind)}

/-- a mutable object stands still while a tree runs -/
theorem T.lend {t : Sem α} {Q : Post α} {pre post : Mem} {a : Addr} {m : MO}
    (h : g a = none → T prog w c t (fun r g' ρ' M' => ∀ g₀, Le g g₀ → g₀ a = none → setG g₀ a m = g' → Q r g₀ ρ' ((a, m) :: M')) (setG g a m) ρ (pre ++ post)) : T prog w c t Q g ρ (pre ++ (a, m) :: post) := fun s hA => by
  have ha := hA.fresh a (List.mem_append_right _ (by simp))
  refine wpAny_mono (h ha.2 s (Act.freeze hA)) (fun r s' ⟨g₁, ρ', M', A, rs, l, q⟩ => ?_) fun _ _ e => e
  let g₀ : G := fun b => if b = a then none else g₁ b
  have hga : g₁ a = some m := l _ _ setG_self
  have e1 : setG g₀ a m = g₁ := by
    funext b
    unfold setG
    by_cases q : b = a
    · rw [if_pos q, q, hga]
    · rw [if_neg q]; exact if_neg q
  have l' : Le g g₀ := fun b m' e => by
    have hb : b ≠ a := fun q => by rw [q, ha.2] at e; cases e
    show (if b = a then none else g₁ b) = _
    rw [if_neg hb]
    exact l b m' (by unfold setG; rw [if_neg hb]; exact e)
  have ga : g₀ a = none := if_pos rfl
  have of_g : ∀ b m', g₀ b = some m' → b ≠ a ∧ g₁ b = some m' := fun b m' e => by
    by_cases q : b = a
    · rw [q, ga] at e; cases e
    · exact ⟨q, by rwa [show g₀ b = g₁ b from if_neg q] at e⟩
  have nin : a ∉ c.own ++ M'.map (·.1) := fun q => by rw [(A.fresh a q).2] at hga; cases hga
  refine ⟨g₀, ρ', (a, m) :: M', ⟨A.keep, fun b m' e => A.know b m' (of_g b m' e).2, fun b m' e => A.old b m' (of_g b m' e).2, A.ns, A.cell, fun p hp => ?_, fun b hb => ?_, ?_, A.live⟩, rs, l', q g₀ l' ga e1⟩
  · rcases List.mem_cons.mp hp with rfl | hp
    · exact A.know _ _ hga
    · exact A.mem p hp
  · rcases List.mem_append.mp hb with hb | hb
    · refine ⟨(A.fresh b (List.mem_append_left _ hb)).1, ?_⟩
      have := (A.fresh b (List.mem_append_left _ hb)).2
      show (if b = a then none else g₁ b) = none
      rw [this]; simp
    · rcases List.mem_cons.mp hb with rfl | hb
      · exact ⟨ha.1, ga⟩
      · refine ⟨(A.fresh b (List.mem_append_right _ hb)).1, ?_⟩
        have := (A.fresh b (List.mem_append_right _ hb)).2
        show (if b = a then none else g₁ b) = none
        rw [this]; simp
  · obtain ⟨n1, n2, n3⟩ := List.nodup_append.mp A.nodup
    refine List.nodup_append.mpr ⟨n1, List.nodup_cons.mpr ⟨fun q => nin (List.mem_append_right _ q), n2⟩, fun x hx y hy e => ?_⟩
    rcases List.mem_cons.mp hy with rfl | hy
    · exact nin (List.mem_append_left _ (by rw [← e]; exact hx))
    · exact n3 x hx y hy e
end
end Mine

namespace Mine
section
variable {prog : Program} {w : World} {α β : Type} {c : Cx} {g g' : G} {ρ ρ' : Str → Option Value} {M M' : Mem} {K : Frag} {n : Nat} {pos apos : Pos} {P : Params} {l : List (Str × NameKind)}
/-- a comprehension that keeps those that pass a test -/
theorem LcK.filter {x : Str} {px : Pos} {elt test : Expr} {sc : Scope} {vs : List Value} {fin : Addr → List Value → G → Mem → Prop} (b : Value → Bool)
    (hx : ((relab l sc.names).lookup x == some .local) = true) (hm : vs.length ≤ 1000)
    (step : ∀ (D : Addr) (c' : Cx), c'.Ok K n → c'.env.scope.names = relab l sc.names → ∀ v g' ρ' acc, v ∈ vs → Le g g' → (∀ x, ((relab l sc.names).lookup x == some .local) = false → ρ' x = ρ x) →
      T prog w c' (isTrue test c'.env (eval test c'.env)) (fun r g'' ρ'' M'' => r = b v ∧ M'' = (D, .list acc) :: M ∧ (b v = true → T prog w c' (eval elt c'.env) (fun y _ _ M3 => y = v ∧ M3 = (D, .list acc) :: M) g'' ρ'' M'')) g' (put ρ' x v) ((D, .list acc) :: M))
    (hfin : ∀ D g', Le g g' → fin D (vs.filter b) g' M) : LcK prog w K n l sc (.Name x px) elt [test] g ρ vs.length (fun i v _ => vs[i]? = some v) M fin := by
  refine ⟨hm, fun D => ⟨fun i acc g' M' => M' = M ∧ acc = (vs.take i).filter b, ⟨rfl, rfl⟩, ?_, ?_⟩⟩
  · rintro c' O' hS' i v g' ρ' acc M' hi hv hl ha ⟨rfl, rfl⟩
    refine T.assign_stored (T.stLocal O' (kind_of hS' (by simpa using hx)) ?_)
    refine T.tests_one (T.mono (step D c' O' hS' v g' ρ' _ (List.mem_iff_getElem?.mpr ⟨i, hv⟩) hl ha) fun r g'' ρ'' M'' ⟨e1, e2, q⟩ => ?_)
    subst e1 e2
    have htake : (vs.take (i + 1)).filter b = (vs.take i).filter b ++ (if b v = true then [v] else []) := by
      rw [List.take_add_one, hv, List.filter_append]
      show _ ++ [v].filter b = _
      simp [List.filter_cons]
    refine ⟨fun e => T.mono (q e) fun y g3 ρ3 M3 ⟨e1, e2⟩ => ?_, fun e => ⟨_, rfl, rfl, ?_⟩⟩
    · subst e1 e2
      exact ⟨_, rfl, rfl, by rw [htake, if_pos e]⟩
    · rw [htake, if_neg (by rw [e]; exact Bool.false_ne_true), List.append_nil]
  · rintro acc g' M' hl ⟨rfl, rfl⟩
    rw [List.take_length]
    exact hfin D g' hl
theorem LcK.refs {x : Str} {px : Pos} {elt test : Expr} {sc : Scope} {as : List Addr} {fin : Addr → List Value → G → Mem → Prop} (b : Addr → Bool)
    (hx : ((relab l sc.names).lookup x == some .local) = true) (hm : as.length ≤ 1000)
    (step : ∀ (D : Addr) (c' : Cx), c'.Ok K n → c'.env.scope.names = relab l sc.names → ∀ a g' ρ' acc, a ∈ as → Le g g' → (∀ x, ((relab l sc.names).lookup x == some .local) = false → ρ' x = ρ x) →
      T prog w c' (isTrue test c'.env (eval test c'.env)) (fun r g'' ρ'' M'' => r = b a ∧ M'' = (D, .list acc) :: M ∧ (b a = true → T prog w c' (eval elt c'.env) (fun y _ _ M3 => y = .ref a ∧ M3 = (D, .list acc) :: M) g'' ρ'' M'')) g' (put ρ' x (.ref a)) ((D, .list acc) :: M))
    (hfin : ∀ D g', Le g g' → fin D ((as.filter b).map .ref) g' M) : LcK prog w K n l sc (.Name x px) elt [test] g ρ (as.map Value.ref).length (fun i v _ => (as.map Value.ref)[i]? = some v) M fin := by
  refine LcK.filter (fun v => match v with | .ref a => b a | _ => false) hx (by rw [List.length_map]; exact hm) (fun D c' O' hS' v g' ρ' acc hv hl ha => ?_) fun D g' hl => ?_
  · obtain ⟨a, hm, rfl⟩ := List.mem_map.mp hv
    exact step D c' O' hS' a g' ρ' acc hm hl ha
  · have e : (as.map Value.ref).filter (fun v => match v with | .ref a => b a | _ => false) = (as.filter b).map .ref := by
      rw [List.filter_map]; rfl
    rw [e]
    exact hfin D g' hl
end
end Mine

namespace Mine
section
variable {prog : Program} {w : World} {c : Cx} {K : Frag} {n : Nat} {l : List (Str × NameKind)}
theorem swap2 {x y : Str} {px py kp p2 q1 q2 : Pos} {k k2 : Nat} (O : c.Ok K n) (hS : c.env.scope.names = l) (hx : (l.lookup x == some .local) = true) (hy : (l.lookup y == some .local) = true) (hp : (py.line == px.line) = true) (hne : (y == x) = false) :
    swappedStores [.Tuple [.Name x px, .Name y py] k kp] (.Tuple [.List [] q1, .List [] q2] k2 p2) c.env = pure (some [x, y]) := by
  have b : (c.env.blockKind != .function) = false := by unfold Env.blockKind; rw [O.kind]; rfl
  have kx : (c.env.kindOf x == some .local) = true := by rw [Env.kindOf, hS]; exact hx
  have ky : (c.env.kindOf y == some .local) = true := by rw [Env.kindOf, hS]; exact hy
  have kx' : c.env.kindOf x = some .local := by simpa using kx
  have ky' : c.env.kindOf y = some .local := by simpa using ky
  have hp' : py.line = px.line := by simpa using hp
  have e2 : [x, y].eraseDups = [x, y] := by simp [List.eraseDups_cons, hne]
  unfold swappedStores
  show (if _ then _ else _) = _
  rw [if_neg (by simp [b])]
  show (if _ then _ else _) = _
  rw [if_neg (by simp)]
  simp only [List.head?_cons, Option.map_some, Option.getD_some, Expr.pos]
  simp only [List.filterMap_cons, List.filterMap_nil, kx', ky', hp', beq_self_eq_true, Bool.and_true, if_true, Bool.and_self]
  rw [e2]
  show (if _ then _ else _) = _
  rw [if_neg (by simp)]
  show (if _ then _ else _) = _
  rw [if_neg (by simp [foldedForSure])]
  show (if _ then _ else _) = _
  rw [if_neg (by simp [constantsAlone])]
end
end Mine

namespace Mine
set_option maxHeartbeats 8000000 in
open_top hd for PySem.Challenge.rw_ft0020_01
end Mine

namespace Mine
open Classical
noncomputable abbrev KP (P : Params) : Frag := hd.heap_39 P
theorem gl_flatten_nested_unions (P : Params) : nsIn (KP P) mainGlobals "flatten_nested_unions" = some (some (.ref 362)) := by kernel_rfl
theorem gl_expand_type (P : Params) : nsIn (KP P) mainGlobals "expand_type" = some (some (.ref 430)) := by kernel_rfl
theorem gl_expand_type_by_instance (P : Params) : nsIn (KP P) mainGlobals "expand_type_by_instance" = some (some (.ref 437)) := by kernel_rfl
theorem gl_remove_trivial (P : Params) : nsIn (KP P) mainGlobals "remove_trivial" = some (some (.ref 484)) := by kernel_rfl
theorem gl_map_instance_to_supertype (P : Params) : nsIn (KP P) mainGlobals "map_instance_to_supertype" = some (some (.ref 491)) := by kernel_rfl
theorem gl_map_instance_to_supertypes (P : Params) : nsIn (KP P) mainGlobals "map_instance_to_supertypes" = some (some (.ref 498)) := by kernel_rfl
theorem gl_class_derivation_paths (P : Params) : nsIn (KP P) mainGlobals "class_derivation_paths" = some (some (.ref 505)) := by kernel_rfl
theorem gl_map_instance_to_direct_supertypes (P : Params) : nsIn (KP P) mainGlobals "map_instance_to_direct_supertypes" = some (some (.ref 512)) := by kernel_rfl
theorem gl_is_subtype (P : Params) : nsIn (KP P) mainGlobals "is_subtype" = some (some (.ref 520)) := by kernel_rfl
theorem gl_is_proper_subtype (P : Params) : nsIn (KP P) mainGlobals "is_proper_subtype" = some (some (.ref 527)) := by kernel_rfl
theorem gl_is_equivalent (P : Params) : nsIn (KP P) mainGlobals "is_equivalent" = some (some (.ref 534)) := by kernel_rfl
theorem gl_is_same_type (P : Params) : nsIn (KP P) mainGlobals "is_same_type" = some (some (.ref 539)) := by kernel_rfl
theorem gl__is_subtype (P : Params) : nsIn (KP P) mainGlobals "_is_subtype" = some (some (.ref 544)) := by kernel_rfl
theorem gl_check_type_parameter (P : Params) : nsIn (KP P) mainGlobals "check_type_parameter" = some (some (.ref 551)) := by kernel_rfl
theorem gl__law_at (P : Params) : nsIn (KP P) mainGlobals "_law_at" = some (some (.ref 626)) := by kernel_rfl
theorem gl__law_part (P : Params) : nsIn (KP P) mainGlobals "_law_part" = some (some (.ref 633)) := by kernel_rfl
theorem gl__law_replaced (P : Params) : nsIn (KP P) mainGlobals "_law_replaced" = some (some (.ref 638)) := by kernel_rfl
theorem gl__law_made (P : Params) : nsIn (KP P) mainGlobals "_law_made" = some (some (.ref 645)) := by kernel_rfl
theorem gl__law_shown (P : Params) : nsIn (KP P) mainGlobals "_law_shown" = some (some (.ref 650)) := by kernel_rfl
theorem gl_ClassDef (P : Params) : nsIn (KP P) mainGlobals "ClassDef" = some (some (.ref 38)) := by kernel_rfl
theorem gl_TypeInfo (P : Params) : nsIn (KP P) mainGlobals "TypeInfo" = some (some (.ref 64)) := by kernel_rfl
theorem gl_TypeOfAny (P : Params) : nsIn (KP P) mainGlobals "TypeOfAny" = some (some (.ref 78)) := by kernel_rfl
theorem gl_Type (P : Params) : nsIn (KP P) mainGlobals "Type" = some (some (.ref 99)) := by kernel_rfl
theorem gl_ProperType (P : Params) : nsIn (KP P) mainGlobals "ProperType" = some (some (.ref 113)) := by kernel_rfl
theorem gl_TypeVarId (P : Params) : nsIn (KP P) mainGlobals "TypeVarId" = some (some (.ref 161)) := by kernel_rfl
theorem gl_TypeVarType (P : Params) : nsIn (KP P) mainGlobals "TypeVarType" = some (some (.ref 204)) := by kernel_rfl
theorem gl_AnyType (P : Params) : nsIn (KP P) mainGlobals "AnyType" = some (some (.ref 238)) := by kernel_rfl
theorem gl_UninhabitedType (P : Params) : nsIn (KP P) mainGlobals "UninhabitedType" = some (some (.ref 272)) := by kernel_rfl
theorem gl_Instance (P : Params) : nsIn (KP P) mainGlobals "Instance" = some (some (.ref 312)) := by kernel_rfl
theorem gl_UnionType (P : Params) : nsIn (KP P) mainGlobals "UnionType" = some (some (.ref 353)) := by kernel_rfl
theorem gl_TypeTranslator (P : Params) : nsIn (KP P) mainGlobals "TypeTranslator" = some (some (.ref 419)) := by kernel_rfl
theorem gl_ExpandTypeVisitor (P : Params) : nsIn (KP P) mainGlobals "ExpandTypeVisitor" = some (some (.ref 475)) := by kernel_rfl
theorem gl_SubtypeVisitor (P : Params) : nsIn (KP P) mainGlobals "SubtypeVisitor" = some (some (.ref 615)) := by kernel_rfl
theorem bl_isinstance (P : Params) : nsIn (KP P) mainGlobals "isinstance" = some none := by kernel_rfl
theorem bv_isinstance : bootBuiltins "isinstance" = some (.builtin "isinstance") := by kernel_rfl
theorem bl_len (P : Params) : nsIn (KP P) mainGlobals "len" = some none := by kernel_rfl
theorem bv_len : bootBuiltins "len" = some (.builtin "len") := by kernel_rfl
theorem bl_zip (P : Params) : nsIn (KP P) mainGlobals "zip" = some none := by kernel_rfl
theorem bv_zip : bootBuiltins "zip" = some (.type "zip") := by kernel_rfl
theorem bl_any (P : Params) : nsIn (KP P) mainGlobals "any" = some none := by kernel_rfl
theorem bv_any : bootBuiltins "any" = some (.builtin "any") := by kernel_rfl
theorem bl_all (P : Params) : nsIn (KP P) mainGlobals "all" = some none := by kernel_rfl
theorem bv_all : bootBuiltins "all" = some (.builtin "all") := by kernel_rfl
theorem bl_tuple (P : Params) : nsIn (KP P) mainGlobals "tuple" = some none := by kernel_rfl
theorem bv_tuple : bootBuiltins "tuple" = some (.type "tuple") := by kernel_rfl
theorem bl_list (P : Params) : nsIn (KP P) mainGlobals "list" = some none := by kernel_rfl
theorem bv_list : bootBuiltins "list" = some (.type "list") := by kernel_rfl
theorem bl_reversed (P : Params) : nsIn (KP P) mainGlobals "reversed" = some none := by kernel_rfl
theorem bv_reversed : bootBuiltins "reversed" = some (.type "reversed") := by kernel_rfl
theorem bl_range (P : Params) : nsIn (KP P) mainGlobals "range" = some none := by kernel_rfl
theorem bv_range : bootBuiltins "range" = some (.type "range") := by kernel_rfl
theorem bl_enumerate (P : Params) : nsIn (KP P) mainGlobals "enumerate" = some none := by kernel_rfl
theorem bv_enumerate : bootBuiltins "enumerate" = some (.type "enumerate") := by kernel_rfl
theorem bl_str (P : Params) : nsIn (KP P) mainGlobals "str" = some none := by kernel_rfl
theorem bv_str : bootBuiltins "str" = some (.type "str") := by kernel_rfl
theorem at_38_type_vars (P : Params) : attrOk (KP P) 38 "type_vars" = true := by kernel_rfl
theorem st_38_type_vars (P : Params) : stOk (KP P) 38 "type_vars" = true := by kernel_rfl
theorem at_64_fullname (P : Params) : attrOk (KP P) 64 "fullname" = true := by kernel_rfl
theorem st_64_fullname (P : Params) : stOk (KP P) 64 "fullname" = true := by kernel_rfl
theorem at_64_defn (P : Params) : attrOk (KP P) 64 "defn" = true := by kernel_rfl
theorem st_64_defn (P : Params) : stOk (KP P) 64 "defn" = true := by kernel_rfl
theorem at_64_type_vars (P : Params) : attrOk (KP P) 64 "type_vars" = true := by kernel_rfl
theorem st_64_type_vars (P : Params) : stOk (KP P) 64 "type_vars" = true := by kernel_rfl
theorem at_64_bases (P : Params) : attrOk (KP P) 64 "bases" = true := by kernel_rfl
theorem st_64_bases (P : Params) : stOk (KP P) 64 "bases" = true := by kernel_rfl
theorem at_64_mro (P : Params) : attrOk (KP P) 64 "mro" = true := by kernel_rfl
theorem st_64_mro (P : Params) : stOk (KP P) 64 "mro" = true := by kernel_rfl
theorem at_161_raw_id (P : Params) : attrOk (KP P) 161 "raw_id" = true := by kernel_rfl
theorem st_161_raw_id (P : Params) : stOk (KP P) 161 "raw_id" = true := by kernel_rfl
theorem at_161_meta_level (P : Params) : attrOk (KP P) 161 "meta_level" = true := by kernel_rfl
theorem st_161_meta_level (P : Params) : stOk (KP P) 161 "meta_level" = true := by kernel_rfl
theorem at_204_name (P : Params) : attrOk (KP P) 204 "name" = true := by kernel_rfl
theorem st_204_name (P : Params) : stOk (KP P) 204 "name" = true := by kernel_rfl
theorem at_204_id (P : Params) : attrOk (KP P) 204 "id" = true := by kernel_rfl
theorem st_204_id (P : Params) : stOk (KP P) 204 "id" = true := by kernel_rfl
theorem at_204_upper_bound (P : Params) : attrOk (KP P) 204 "upper_bound" = true := by kernel_rfl
theorem st_204_upper_bound (P : Params) : stOk (KP P) 204 "upper_bound" = true := by kernel_rfl
theorem at_204_values (P : Params) : attrOk (KP P) 204 "values" = true := by kernel_rfl
theorem st_204_values (P : Params) : stOk (KP P) 204 "values" = true := by kernel_rfl
theorem at_204_variance (P : Params) : attrOk (KP P) 204 "variance" = true := by kernel_rfl
theorem st_204_variance (P : Params) : stOk (KP P) 204 "variance" = true := by kernel_rfl
theorem at_238_type_of_any (P : Params) : attrOk (KP P) 238 "type_of_any" = true := by kernel_rfl
theorem st_238_type_of_any (P : Params) : stOk (KP P) 238 "type_of_any" = true := by kernel_rfl
theorem at_238_source_any (P : Params) : attrOk (KP P) 238 "source_any" = true := by kernel_rfl
theorem st_238_source_any (P : Params) : stOk (KP P) 238 "source_any" = true := by kernel_rfl
theorem at_272_ambiguous (P : Params) : attrOk (KP P) 272 "ambiguous" = true := by kernel_rfl
theorem st_272_ambiguous (P : Params) : stOk (KP P) 272 "ambiguous" = true := by kernel_rfl
theorem at_312_type (P : Params) : attrOk (KP P) 312 "type" = true := by kernel_rfl
theorem st_312_type (P : Params) : stOk (KP P) 312 "type" = true := by kernel_rfl
theorem at_312_args (P : Params) : attrOk (KP P) 312 "args" = true := by kernel_rfl
theorem st_312_args (P : Params) : stOk (KP P) 312 "args" = true := by kernel_rfl
theorem at_353_items (P : Params) : attrOk (KP P) 353 "items" = true := by kernel_rfl
theorem st_353_items (P : Params) : stOk (KP P) 353 "items" = true := by kernel_rfl
theorem at_475_variables (P : Params) : attrOk (KP P) 475 "variables" = true := by kernel_rfl
theorem st_475_variables (P : Params) : stOk (KP P) 475 "variables" = true := by kernel_rfl
theorem at_615_right (P : Params) : attrOk (KP P) 615 "right" = true := by kernel_rfl
theorem st_615_right (P : Params) : stOk (KP P) 615 "right" = true := by kernel_rfl
theorem at_615_proper_subtype (P : Params) : attrOk (KP P) 615 "proper_subtype" = true := by kernel_rfl
theorem st_615_proper_subtype (P : Params) : stOk (KP P) 615 "proper_subtype" = true := by kernel_rfl
theorem mt_64_has_base (P : Params) : methOk (KP P) 64 "has_base" 61 = true := by kernel_rfl
theorem kp_61 (P : Params) : keepIn (KP P) (.ref 61) = true := by kernel_rfl
theorem mt_204_accept (P : Params) : methOk (KP P) 204 "accept" 194 = true := by kernel_rfl
theorem kp_194 (P : Params) : keepIn (KP P) (.ref 194) = true := by kernel_rfl
theorem mt_238_accept (P : Params) : methOk (KP P) 238 "accept" 228 = true := by kernel_rfl
theorem kp_228 (P : Params) : keepIn (KP P) (.ref 228) = true := by kernel_rfl
theorem mt_272_accept (P : Params) : methOk (KP P) 272 "accept" 262 = true := by kernel_rfl
theorem kp_262 (P : Params) : keepIn (KP P) (.ref 262) = true := by kernel_rfl
theorem mt_312_accept (P : Params) : methOk (KP P) 312 "accept" 295 = true := by kernel_rfl
theorem kp_295 (P : Params) : keepIn (KP P) (.ref 295) = true := by kernel_rfl
theorem mt_312_copy_modified (P : Params) : methOk (KP P) 312 "copy_modified" 309 = true := by kernel_rfl
theorem kp_309 (P : Params) : keepIn (KP P) (.ref 309) = true := by kernel_rfl
theorem mt_353_accept (P : Params) : methOk (KP P) 353 "accept" 350 = true := by kernel_rfl
theorem kp_350 (P : Params) : keepIn (KP P) (.ref 350) = true := by kernel_rfl
theorem kp_362 (P : Params) : keepIn (KP P) (.ref 362) = true := by kernel_rfl
theorem mt_475_visit_any (P : Params) : methOk (KP P) 475 "visit_any" 376 = true := by kernel_rfl
theorem kp_376 (P : Params) : keepIn (KP P) (.ref 376) = true := by kernel_rfl
theorem mt_475_visit_none_type (P : Params) : methOk (KP P) 475 "visit_none_type" 383 = true := by kernel_rfl
theorem kp_383 (P : Params) : keepIn (KP P) (.ref 383) = true := by kernel_rfl
theorem mt_475_visit_uninhabited_type (P : Params) : methOk (KP P) 475 "visit_uninhabited_type" 390 = true := by kernel_rfl
theorem kp_390 (P : Params) : keepIn (KP P) (.ref 390) = true := by kernel_rfl
theorem mt_475_translate_type_list (P : Params) : methOk (KP P) 475 "translate_type_list" 416 = true := by kernel_rfl
theorem kp_416 (P : Params) : keepIn (KP P) (.ref 416) = true := by kernel_rfl
theorem kp_430 (P : Params) : keepIn (KP P) (.ref 430) = true := by kernel_rfl
theorem kp_437 (P : Params) : keepIn (KP P) (.ref 437) = true := by kernel_rfl
theorem mt_475_visit_instance (P : Params) : methOk (KP P) 475 "visit_instance" 458 = true := by kernel_rfl
theorem kp_458 (P : Params) : keepIn (KP P) (.ref 458) = true := by kernel_rfl
theorem mt_475_visit_type_var (P : Params) : methOk (KP P) 475 "visit_type_var" 465 = true := by kernel_rfl
theorem kp_465 (P : Params) : keepIn (KP P) (.ref 465) = true := by kernel_rfl
theorem mt_475_visit_union_type (P : Params) : methOk (KP P) 475 "visit_union_type" 472 = true := by kernel_rfl
theorem kp_472 (P : Params) : keepIn (KP P) (.ref 472) = true := by kernel_rfl
theorem kp_484 (P : Params) : keepIn (KP P) (.ref 484) = true := by kernel_rfl
theorem kp_491 (P : Params) : keepIn (KP P) (.ref 491) = true := by kernel_rfl
theorem kp_498 (P : Params) : keepIn (KP P) (.ref 498) = true := by kernel_rfl
theorem kp_505 (P : Params) : keepIn (KP P) (.ref 505) = true := by kernel_rfl
theorem kp_512 (P : Params) : keepIn (KP P) (.ref 512) = true := by kernel_rfl
theorem kp_520 (P : Params) : keepIn (KP P) (.ref 520) = true := by kernel_rfl
theorem kp_527 (P : Params) : keepIn (KP P) (.ref 527) = true := by kernel_rfl
theorem kp_534 (P : Params) : keepIn (KP P) (.ref 534) = true := by kernel_rfl
theorem kp_539 (P : Params) : keepIn (KP P) (.ref 539) = true := by kernel_rfl
theorem kp_544 (P : Params) : keepIn (KP P) (.ref 544) = true := by kernel_rfl
theorem kp_551 (P : Params) : keepIn (KP P) (.ref 551) = true := by kernel_rfl
theorem mt_615__is_subtype (P : Params) : methOk (KP P) 615 "_is_subtype" 572 = true := by kernel_rfl
theorem kp_572 (P : Params) : keepIn (KP P) (.ref 572) = true := by kernel_rfl
theorem mt_615_visit_any (P : Params) : methOk (KP P) 615 "visit_any" 579 = true := by kernel_rfl
theorem kp_579 (P : Params) : keepIn (KP P) (.ref 579) = true := by kernel_rfl
theorem mt_615_visit_none_type (P : Params) : methOk (KP P) 615 "visit_none_type" 586 = true := by kernel_rfl
theorem kp_586 (P : Params) : keepIn (KP P) (.ref 586) = true := by kernel_rfl
theorem mt_615_visit_uninhabited_type (P : Params) : methOk (KP P) 615 "visit_uninhabited_type" 593 = true := by kernel_rfl
theorem kp_593 (P : Params) : keepIn (KP P) (.ref 593) = true := by kernel_rfl
theorem mt_615_visit_instance (P : Params) : methOk (KP P) 615 "visit_instance" 600 = true := by kernel_rfl
theorem kp_600 (P : Params) : keepIn (KP P) (.ref 600) = true := by kernel_rfl
theorem mt_615_visit_type_var (P : Params) : methOk (KP P) 615 "visit_type_var" 607 = true := by kernel_rfl
theorem kp_607 (P : Params) : keepIn (KP P) (.ref 607) = true := by kernel_rfl
theorem mt_615_visit_union_type (P : Params) : methOk (KP P) 615 "visit_union_type" 612 = true := by kernel_rfl
theorem kp_612 (P : Params) : keepIn (KP P) (.ref 612) = true := by kernel_rfl
theorem kp_626 (P : Params) : keepIn (KP P) (.ref 626) = true := by kernel_rfl
theorem kp_633 (P : Params) : keepIn (KP P) (.ref 633) = true := by kernel_rfl
theorem kp_638 (P : Params) : keepIn (KP P) (.ref 638) = true := by kernel_rfl
theorem kp_645 (P : Params) : keepIn (KP P) (.ref 645) = true := by kernel_rfl
theorem kp_650 (P : Params) : keepIn (KP P) (.ref 650) = true := by kernel_rfl
theorem kp_655 (P : Params) : keepIn (KP P) (.ref 655) = true := by kernel_rfl
theorem kp_38 (P : Params) : keepIn (KP P) (.ref 38) = true := by kernel_rfl
theorem mk_38 (P : Params) : makesIn (KP P) 38 = true := by kernel_rfl
theorem in_38 (P : Params) : findIn (KP P) (.ref 38) "__init__" = some (some (.ref 35)) := by kernel_rfl
theorem ty_35 (P : Params) : typeIn (KP P) (.ref 35) = some (.type "function") := by kernel_rfl
theorem kp_64 (P : Params) : keepIn (KP P) (.ref 64) = true := by kernel_rfl
theorem mk_64 (P : Params) : makesIn (KP P) 64 = true := by kernel_rfl
theorem in_64 (P : Params) : findIn (KP P) (.ref 64) "__init__" = some (some (.ref 54)) := by kernel_rfl
theorem ty_54 (P : Params) : typeIn (KP P) (.ref 54) = some (.type "function") := by kernel_rfl
theorem kp_161 (P : Params) : keepIn (KP P) (.ref 161) = true := by kernel_rfl
theorem mk_161 (P : Params) : makesIn (KP P) 161 = true := by kernel_rfl
theorem in_161 (P : Params) : findIn (KP P) (.ref 161) "__init__" = some (some (.ref 130)) := by kernel_rfl
theorem ty_130 (P : Params) : typeIn (KP P) (.ref 130) = some (.type "function") := by kernel_rfl
theorem kp_475 (P : Params) : keepIn (KP P) (.ref 475) = true := by kernel_rfl
theorem mk_475 (P : Params) : makesIn (KP P) 475 = true := by kernel_rfl
theorem in_475 (P : Params) : findIn (KP P) (.ref 475) "__init__" = some (some (.ref 451)) := by kernel_rfl
theorem ty_451 (P : Params) : typeIn (KP P) (.ref 451) = some (.type "function") := by kernel_rfl
theorem kp_615 (P : Params) : keepIn (KP P) (.ref 615) = true := by kernel_rfl
theorem mk_615 (P : Params) : makesIn (KP P) 615 = true := by kernel_rfl
theorem in_615 (P : Params) : findIn (KP P) (.ref 615) "__init__" = some (some (.ref 565)) := by kernel_rfl
theorem ty_565 (P : Params) : typeIn (KP P) (.ref 565) = some (.type "function") := by kernel_rfl
theorem kp_204 (P : Params) : keepIn (KP P) (.ref 204) = true := by kernel_rfl
theorem mk_204 (P : Params) : makesIn (KP P) 204 = true := by kernel_rfl
theorem in_204 (P : Params) : findIn (KP P) (.ref 204) "__init__" = some (some (.ref 180)) := by kernel_rfl
theorem ty_180 (P : Params) : typeIn (KP P) (.ref 180) = some (.type "function") := by kernel_rfl
theorem kp_238 (P : Params) : keepIn (KP P) (.ref 238) = true := by kernel_rfl
theorem mk_238 (P : Params) : makesIn (KP P) 238 = true := by kernel_rfl
theorem in_238 (P : Params) : findIn (KP P) (.ref 238) "__init__" = some (some (.ref 221)) := by kernel_rfl
theorem ty_221 (P : Params) : typeIn (KP P) (.ref 221) = some (.type "function") := by kernel_rfl
theorem kp_272 (P : Params) : keepIn (KP P) (.ref 272) = true := by kernel_rfl
theorem kp_312 (P : Params) : keepIn (KP P) (.ref 312) = true := by kernel_rfl
theorem mk_312 (P : Params) : makesIn (KP P) 312 = true := by kernel_rfl
theorem in_312 (P : Params) : findIn (KP P) (.ref 312) "__init__" = some (some (.ref 288)) := by kernel_rfl
theorem ty_288 (P : Params) : typeIn (KP P) (.ref 288) = some (.type "function") := by kernel_rfl
theorem kp_353 (P : Params) : keepIn (KP P) (.ref 353) = true := by kernel_rfl
theorem isd_204 (P : Params) : isiOk (KP P) 204 = true := by kernel_rfl
theorem kit_204_204 (P : Params) : kitOne (KP P) (.ref 204) (.ref 204) = some true := by kernel_rfl
theorem kit_204_238 (P : Params) : kitOne (KP P) (.ref 204) (.ref 238) = some false := by kernel_rfl
theorem kit_204_272 (P : Params) : kitOne (KP P) (.ref 204) (.ref 272) = some false := by kernel_rfl
theorem kit_204_312 (P : Params) : kitOne (KP P) (.ref 204) (.ref 312) = some false := by kernel_rfl
theorem kit_204_353 (P : Params) : kitOne (KP P) (.ref 204) (.ref 353) = some false := by kernel_rfl
theorem isd_238 (P : Params) : isiOk (KP P) 238 = true := by kernel_rfl
theorem kit_238_204 (P : Params) : kitOne (KP P) (.ref 238) (.ref 204) = some false := by kernel_rfl
theorem kit_238_238 (P : Params) : kitOne (KP P) (.ref 238) (.ref 238) = some true := by kernel_rfl
theorem kit_238_272 (P : Params) : kitOne (KP P) (.ref 238) (.ref 272) = some false := by kernel_rfl
theorem kit_238_312 (P : Params) : kitOne (KP P) (.ref 238) (.ref 312) = some false := by kernel_rfl
theorem kit_238_353 (P : Params) : kitOne (KP P) (.ref 238) (.ref 353) = some false := by kernel_rfl
theorem isd_272 (P : Params) : isiOk (KP P) 272 = true := by kernel_rfl
theorem kit_272_204 (P : Params) : kitOne (KP P) (.ref 272) (.ref 204) = some false := by kernel_rfl
theorem kit_272_238 (P : Params) : kitOne (KP P) (.ref 272) (.ref 238) = some false := by kernel_rfl
theorem kit_272_272 (P : Params) : kitOne (KP P) (.ref 272) (.ref 272) = some true := by kernel_rfl
theorem kit_272_312 (P : Params) : kitOne (KP P) (.ref 272) (.ref 312) = some false := by kernel_rfl
theorem kit_272_353 (P : Params) : kitOne (KP P) (.ref 272) (.ref 353) = some false := by kernel_rfl
theorem isd_312 (P : Params) : isiOk (KP P) 312 = true := by kernel_rfl
theorem eqf_312 (P : Params) : findIn (KP P) (.ref 312) "__eq__" = some (some (.ref 302)) := by kernel_rfl
theorem fnn_302 (P : Params) : isFn (KP P) (.ref 302) = true := by kernel_rfl
theorem kit_312_204 (P : Params) : kitOne (KP P) (.ref 312) (.ref 204) = some false := by kernel_rfl
theorem kit_312_238 (P : Params) : kitOne (KP P) (.ref 312) (.ref 238) = some false := by kernel_rfl
theorem kit_312_272 (P : Params) : kitOne (KP P) (.ref 312) (.ref 272) = some false := by kernel_rfl
theorem kit_312_312 (P : Params) : kitOne (KP P) (.ref 312) (.ref 312) = some true := by kernel_rfl
theorem ef_312_312 (P : Params) : eqFirst (KP P) 312 312 302 = true := by kernel_rfl
theorem kit_312_353 (P : Params) : kitOne (KP P) (.ref 312) (.ref 353) = some false := by kernel_rfl
theorem isd_353 (P : Params) : isiOk (KP P) 353 = true := by kernel_rfl
theorem kit_353_204 (P : Params) : kitOne (KP P) (.ref 353) (.ref 204) = some false := by kernel_rfl
theorem kit_353_238 (P : Params) : kitOne (KP P) (.ref 353) (.ref 238) = some false := by kernel_rfl
theorem kit_353_272 (P : Params) : kitOne (KP P) (.ref 353) (.ref 272) = some false := by kernel_rfl
theorem kit_353_312 (P : Params) : kitOne (KP P) (.ref 353) (.ref 312) = some false := by kernel_rfl
theorem kit_353_353 (P : Params) : kitOne (KP P) (.ref 353) (.ref 353) = some true := by kernel_rfl
theorem isd_161 (P : Params) : isiOk (KP P) 161 = true := by kernel_rfl
theorem kit_161_161 (P : Params) : kitOne (KP P) (.ref 161) (.ref 161) = some true := by kernel_rfl
theorem isi_top (P : Params) : isiTop (KP P) = true := by kernel_rfl
local macro_rules | `(tactic| k_subL) => `(tactic| first | assumption | with_reducible exact put_self | (with_reducible apply put_ne; (case h => kernel_rfl); (case e => k_subL)))
local macro_rules | `(tactic| ktu_offI) => `(tactic| first | exact Le.refl _ | assumption | (refine Le.trans ?_ (Le.setG (by assumption)); ktu_offI) | (refine Le.trans ?_ (by assumption); ktu_offI))
local macro_rules | `(tactic| ktu_offL) => `(tactic| first | assumption | (refine Inst.mono (by assumption) ?_; ktu_offI))
local macro_rules | `(tactic| lcg_off) => `(tactic| first | assumption | exact setG_self | (refine Tup.mono (by assumption) ?_; ktu_offI))
local macro_rules | `(tactic| tlg_ne) => `(tactic| first | assumption | exact setG_self | (refine Lst.mono (by assumption) ?_; ktu_offI))
local macro_rules | `(tactic| k_memK) => `(tactic| first | exact List.Mem.head _ | (refine List.Mem.tail _ ?_; k_memK))
local macro_rules | `(tactic| k_clsL) => `(tactic| first | assumption | exact Or.inl (by tlg_ne) | exact Or.inr (by k_memK))
local macro_rules | `(tactic| kct_strs) => `(tactic| first | with_reducible exact putKv_nil | with_reducible exact putKv_same | (with_reducible apply putKv_ne; (case h => kernel_rfl); (case e => kct_strs)))
local macro_rules | `(tactic| krn_off) => `(tactic| first | assumption | exact setG_self | (with_reducible refine Le.pass (Le.setG (by assumption)) ?_; krn_off) | (with_reducible refine Le.pass (by assumption) ?_; krn_off))
local macro_rules | `(tactic| tb_rel) => `(tactic| first
  | with_reducible refine T.execs_cons ?_
  | with_reducible refine T.execs_nil ?_
  | with_reducible refine ExecK.next ?_
  | with_reducible refine ExecK.ret ?_
  | with_reducible refine ExecK.cont ?_
  | with_reducible refine T.return_ ?_
  | with_reducible refine T.if_ ?_
  | with_reducible refine T.continue_ ?_
  | with_reducible refine T.assert_ ?_
  | (first
  | ((with_reducible refine' T.glob ?O ?l ?e ?k ?x ?_); (case O => assumption); (case e => (with_reducible first | exact gl_flatten_nested_unions _ | exact gl_expand_type _ | exact gl_expand_type_by_instance _ | exact gl_remove_trivial _ | exact gl_map_instance_to_supertype _ | exact gl_map_instance_to_supertypes _ | exact gl_class_derivation_paths _ | exact gl_map_instance_to_direct_supertypes _ | exact gl_is_subtype _ | exact gl_is_proper_subtype _ | exact gl_is_equivalent _ | exact gl_is_same_type _ | exact gl__is_subtype _ | exact gl_check_type_parameter _ | exact gl__law_at _ | exact gl__law_part _ | exact gl__law_replaced _ | exact gl__law_made _ | exact gl__law_shown _ | exact gl_ClassDef _ | exact gl_TypeInfo _ | exact gl_TypeOfAny _ | exact gl_Type _ | exact gl_ProperType _ | exact gl_TypeVarId _ | exact gl_TypeVarType _ | exact gl_AnyType _ | exact gl_UninhabitedType _ | exact gl_Instance _ | exact gl_UnionType _ | exact gl_TypeTranslator _ | exact gl_ExpandTypeVisitor _ | exact gl_SubtypeVisitor _)); (case l => assumption); (case k => kernel_rfl); (case x => kernel_rfl))
  | ((with_reducible refine' T.bltn ?O ?l ?e ?b ?k ?x ?_); (case O => assumption); (case e => (with_reducible first | exact bl_isinstance _ | exact bl_len _ | exact bl_zip _ | exact bl_any _ | exact bl_all _ | exact bl_tuple _ | exact bl_list _ | exact bl_reversed _ | exact bl_range _ | exact bl_enumerate _ | exact bl_str _)); (case b => (with_reducible first | exact bv_isinstance | exact bv_len | exact bv_zip | exact bv_any | exact bv_all | exact bv_tuple | exact bv_list | exact bv_reversed | exact bv_range | exact bv_enumerate | exact bv_str)); (case l => assumption); (case k => kernel_rfl); (case x => kernel_rfl))
  | ((with_reducible refine' T.var ?O ?l ?k ?x ?v ?_); (case O => assumption); (case l => assumption); (case k => kernel_rfl); (case x => kernel_rfl); (case v => k_subL)))
  | ((with_reducible show IfK _ _ _) <;> first
  | with_reducible refine IfK.t ?_
  | with_reducible refine IfK.f ?_
  | refine IfK.t ?_
  | refine IfK.f ?_)
  | ((with_reducible refine' T.assign_name ?s ?w ?_); (case s => exact fun _ => by kernel_rfl); (case w => exact fun _ => by kernel_rfl))
  | ((with_reducible refine' T.assign_attr ?s ?w ?_); (case s => exact fun _ => by kernel_rfl); (case w => exact fun _ => by kernel_rfl))
  | ((with_reducible refine' T.assign_sub ?s ?w ?_); (case s => exact fun _ => by kernel_rfl); (case w => exact fun _ => by kernel_rfl))
  | ((with_reducible refine' T.expr_ ?k ?s ?_); (case k => exact Cx.Ok.kind (by assumption)); (case s => exact fun _ => by kernel_rfl))
  | (with_reducible refine T.const_int fun _ => ?_)
  | (with_reducible refine T.const_str fun _ => ?_)
  | with_reducible refine T.const_bool ?_
  | with_reducible refine T.const_none ?_
  | with_reducible refine T.isTrue_not ?_
  | with_reducible refine T.isTrue_boolop ?_
  | with_reducible refine T.allTrue_nil_and ?_
  | with_reducible refine T.allTrue_nil_or ?_
  | with_reducible refine T.allTrue_and ?_
  | with_reducible refine T.allTrue_or ?_
  | ((with_reducible refine' T.isTrue_compare ?b ?_); (case b => kernel_rfl))
  | ((with_reducible refine' T.isTrue_val ?b ?_); (case b => kernel_rfl))
  | with_reducible refine T.truthy_bool ?_
  | with_reducible refine T.truthy_none ?_
  | ((with_reducible refine' T.compare ?b ?_); (case b => kernel_rfl))
  | with_reducible refine T.binop ?_
  | with_reducible refine T.unop ?_
  | with_reducible refine T.notOp ?_
  | with_reducible refine T.ifExp ?_
  | with_reducible refine T.boolOp ?_
  | with_reducible refine T.boolOp_one ?_
  | with_reducible refine T.boolOp_and ?_
  | with_reducible refine T.boolOp_or ?_
  | with_reducible refine T.items_nil ?_
  | ((with_reducible refine' T.items_cons ?b ?_); (case b => kernel_rfl))
  | with_reducible refine T.list ?_
  | with_reducible refine T.tuple ?_
  | (first
  | ((with_reducible refine' T.cw0K ?O ?k ?p ?_); (case O => assumption); (case k => (with_reducible first | exact kp_61 _ | exact kp_194 _ | exact kp_228 _ | exact kp_262 _ | exact kp_295 _ | exact kp_309 _ | exact kp_350 _ | exact kp_362 _ | exact kp_376 _ | exact kp_383 _ | exact kp_390 _ | exact kp_416 _ | exact kp_430 _ | exact kp_437 _ | exact kp_458 _ | exact kp_465 _ | exact kp_472 _ | exact kp_484 _ | exact kp_491 _ | exact kp_498 _ | exact kp_505 _ | exact kp_512 _ | exact kp_520 _ | exact kp_527 _ | exact kp_534 _ | exact kp_539 _ | exact kp_544 _ | exact kp_551 _ | exact kp_572 _ | exact kp_579 _ | exact kp_586 _ | exact kp_593 _ | exact kp_600 _ | exact kp_607 _ | exact kp_612 _ | exact kp_626 _ | exact kp_633 _ | exact kp_638 _ | exact kp_645 _ | exact kp_650 _ | exact kp_655 _ | exact kp_38 _ | exact kp_64 _ | exact kp_161 _ | exact kp_475 _ | exact kp_615 _ | exact kp_204 _ | exact kp_238 _ | exact kp_272 _ | exact kp_312 _ | exact kp_353 _)); (case p => kernel_rfl))
  | ((with_reducible refine' T.cw1K ?O ?k ?p ?_); (case O => assumption); (case k => (with_reducible first | exact kp_61 _ | exact kp_194 _ | exact kp_228 _ | exact kp_262 _ | exact kp_295 _ | exact kp_309 _ | exact kp_350 _ | exact kp_362 _ | exact kp_376 _ | exact kp_383 _ | exact kp_390 _ | exact kp_416 _ | exact kp_430 _ | exact kp_437 _ | exact kp_458 _ | exact kp_465 _ | exact kp_472 _ | exact kp_484 _ | exact kp_491 _ | exact kp_498 _ | exact kp_505 _ | exact kp_512 _ | exact kp_520 _ | exact kp_527 _ | exact kp_534 _ | exact kp_539 _ | exact kp_544 _ | exact kp_551 _ | exact kp_572 _ | exact kp_579 _ | exact kp_586 _ | exact kp_593 _ | exact kp_600 _ | exact kp_607 _ | exact kp_612 _ | exact kp_626 _ | exact kp_633 _ | exact kp_638 _ | exact kp_645 _ | exact kp_650 _ | exact kp_655 _ | exact kp_38 _ | exact kp_64 _ | exact kp_161 _ | exact kp_475 _ | exact kp_615 _ | exact kp_204 _ | exact kp_238 _ | exact kp_272 _ | exact kp_312 _ | exact kp_353 _)); (case p => kernel_rfl))
  | ((with_reducible refine' T.cw1Kkw ?O ?k ?e ?_); (case O => assumption); (case k => (with_reducible first | exact kp_61 _ | exact kp_194 _ | exact kp_228 _ | exact kp_262 _ | exact kp_295 _ | exact kp_309 _ | exact kp_350 _ | exact kp_362 _ | exact kp_376 _ | exact kp_383 _ | exact kp_390 _ | exact kp_416 _ | exact kp_430 _ | exact kp_437 _ | exact kp_458 _ | exact kp_465 _ | exact kp_472 _ | exact kp_484 _ | exact kp_491 _ | exact kp_498 _ | exact kp_505 _ | exact kp_512 _ | exact kp_520 _ | exact kp_527 _ | exact kp_534 _ | exact kp_539 _ | exact kp_544 _ | exact kp_551 _ | exact kp_572 _ | exact kp_579 _ | exact kp_586 _ | exact kp_593 _ | exact kp_600 _ | exact kp_607 _ | exact kp_612 _ | exact kp_626 _ | exact kp_633 _ | exact kp_638 _ | exact kp_645 _ | exact kp_650 _ | exact kp_655 _ | exact kp_38 _ | exact kp_64 _ | exact kp_161 _ | exact kp_475 _ | exact kp_615 _ | exact kp_204 _ | exact kp_238 _ | exact kp_272 _ | exact kp_312 _ | exact kp_353 _)); (case e => rfl))
  | ((with_reducible refine' T.cw0B ?p ?_); (case p => kernel_rfl))
  | ((with_reducible refine' T.cw1B ?p ?_); (case p => kernel_rfl))
  | ((with_reducible refine' T.cw0T ?p ?_); (case p => kernel_rfl)))
  | with_reducible refine T.call_name ?_
  | ((with_reducible refine' T.callAttr ?b ?_); (case b => kernel_rfl))
  | ((with_reducible refine' T.attribute ?b ?_); (case b => kernel_rfl))
  | with_reducible refine T.subscript ?_
  | (((with_reducible refine' T.attr ?O ?I ?p ?v ?h ?_); (case O => assumption); (case I => ktu_offL); (case p => (with_reducible first | exact at_38_type_vars _ | exact at_64_fullname _ | exact at_64_defn _ | exact at_64_type_vars _ | exact at_64_bases _ | exact at_64_mro _ | exact at_161_raw_id _ | exact at_161_meta_level _ | exact at_204_name _ | exact at_204_id _ | exact at_204_upper_bound _ | exact at_204_values _ | exact at_204_variance _ | exact at_238_type_of_any _ | exact at_238_source_any _ | exact at_272_ambiguous _ | exact at_312_type _ | exact at_312_args _ | exact at_353_items _ | exact at_475_variables _ | exact at_615_right _ | exact at_615_proper_subtype _)); (case v => rfl); (case h => rfl)))
  | (((with_reducible refine' T.method ?O ?I ?p ?v ?_); (case O => assumption); (case I => ktu_offL); (case p => (with_reducible first | exact mt_64_has_base _ | exact mt_204_accept _ | exact mt_238_accept _ | exact mt_272_accept _ | exact mt_312_accept _ | exact mt_312_copy_modified _ | exact mt_353_accept _ | exact mt_475_visit_any _ | exact mt_475_visit_none_type _ | exact mt_475_visit_uninhabited_type _ | exact mt_475_translate_type_list _ | exact mt_475_visit_instance _ | exact mt_475_visit_type_var _ | exact mt_475_visit_union_type _ | exact mt_615__is_subtype _ | exact mt_615_visit_any _ | exact mt_615_visit_none_type _ | exact mt_615_visit_uninhabited_type _ | exact mt_615_visit_instance _ | exact mt_615_visit_type_var _ | exact mt_615_visit_union_type _)); (case v => rfl)))
  | (((with_reducible refine' T.stVar ?O ?W ?l ?k ?_); (case O => assumption); (case W => assumption); (case l => assumption); (case k => kernel_rfl)))
  | (((with_reducible refine' T.setAttr0 ?O ?x ?s ?z ?p ?_); (case O => assumption); (case x => krn_off); (case s => (with_reducible first | exact st_38_type_vars _ | exact st_64_fullname _ | exact st_64_defn _ | exact st_64_type_vars _ | exact st_64_bases _ | exact st_64_mro _ | exact st_161_raw_id _ | exact st_161_meta_level _ | exact st_204_name _ | exact st_204_id _ | exact st_204_upper_bound _ | exact st_204_values _ | exact st_204_variance _ | exact st_238_type_of_any _ | exact st_238_source_any _ | exact st_272_ambiguous _ | exact st_312_type _ | exact st_312_args _ | exact st_353_items _ | exact st_475_variables _ | exact st_615_right _ | exact st_615_proper_subtype _)); (case z => kernel_rfl); (case p => kct_strs)))
  | (((with_reducible refine' T.isinst ?O ?I ?D ?T ?e ?_); (case O => assumption); (case I => ktu_offL); (case D => (with_reducible first | exact isd_204 _ | exact isd_238 _ | exact isd_272 _ | exact isd_312 _ | exact isd_353 _ | exact isd_161 _)); (case T => exact isi_top _); (case e => (with_reducible first | exact kit_204_204 _ | exact kit_204_238 _ | exact kit_204_272 _ | exact kit_204_312 _ | exact kit_204_353 _ | exact kit_238_204 _ | exact kit_238_238 _ | exact kit_238_272 _ | exact kit_238_312 _ | exact kit_238_353 _ | exact kit_272_204 _ | exact kit_272_238 _ | exact kit_272_272 _ | exact kit_272_312 _ | exact kit_272_353 _ | exact kit_312_204 _ | exact kit_312_238 _ | exact kit_312_272 _ | exact kit_312_312 _ | exact kit_312_353 _ | exact kit_353_204 _ | exact kit_353_238 _ | exact kit_353_272 _ | exact kit_353_312 _ | exact kit_353_353 _ | exact kit_161_161 _))))
  | with_reducible refine T.eqI ?_
  | with_reducible refine T.neI ?_
  | with_reducible refine T.eqS ?_
  | (with_reducible refine T.addI fun _ => ?_))
local macro_rules | `(tactic| tb_start) => `(tactic| repeat' tb_rel)
section
variable {prog : Program} {w : World} {g : G} {n : Nat}
inductive Ty where
  | var (d : Addr)
  | inst (C : Addr) (as : List Ty)
def Cl (g : G) (C : Addr) : Prop := ∃ d, g C = some (.inst 64 d)
theorem Cl.mono {g g' : G} {C : Addr} (h : Cl g C) (l : Le g g') : Cl g' C := let ⟨d, e⟩ := h; ⟨d, l _ _ e⟩
def TvId (g : G) (a : Addr) (i : Int) : Prop := ∃ t u, Inst g a 161 [("raw_id", .int i t), ("meta_level", .int 0 u)]
theorem TvId.mono {g g' : G} {a : Addr} {i : Int} (h : TvId g a i) (l : Le g g') : TvId g' a i := let ⟨t, u, e⟩ := h; ⟨t, u, e.mono l⟩
mutual
inductive TyR (g : G) : Addr → Ty → Prop
  | var {a d ub vl : Addr} {nm : Str} {t0 t1 : Tok} {v i : Int} : Inst g a 204 [("name", .str nm t0), ("id", .ref d), ("upper_bound", .ref ub), ("values", .ref vl), ("variance", .int v t1)] → TvId g d i → TyR g a (.var d)
  | inst {a e C : Addr} {as : List Addr} {ts : List Ty} : Inst g a 312 [("type", .ref C), ("args", .ref e)] → Cl g C → Tup g e (as.map .ref) → TysR g as ts → ts.length ≤ 9 → TyR g a (.inst C ts)
inductive TysR (g : G) : List Addr → List Ty → Prop
  | nil : TysR g [] []
  | cons {a : Addr} {t : Ty} {as : List Addr} {ts : List Ty} : TyR g a t → TysR g as ts → TysR g (a :: as) (t :: ts)
end
mutual
theorem TyR.mono {g g' : G} (l : Le g g') : ∀ {a : Addr} {t : Ty}, TyR g a t → TyR g' a t
  | _, _, .var i d => .var (i.mono l) (d.mono l)
  | _, _, .inst i c e as z => .inst (i.mono l) (c.mono l) (e.mono l) (as.mono l) z
theorem TysR.mono {g g' : G} (l : Le g g') : ∀ {as : List Addr} {ts : List Ty}, TysR g as ts → TysR g' as ts
  | _, _, .nil => .nil
  | _, _, .cons h t => .cons (h.mono l) (t.mono l)
end
theorem TysR.length {g : G} : ∀ {as : List Addr} {ts : List Ty}, TysR g as ts → as.length = ts.length
  | _, _, .nil => rfl
  | _, _, .cons _ t => congrArg (· + 1) t.length
theorem TysR.get {g : G} : ∀ {as : List Addr} {ts : List Ty} {j : Nat} {a : Addr} {t : Ty}, TysR g as ts → as[j]? = some a → ts[j]? = some t → TyR g a t
  | _, _, 0, _, _, .cons h _, e, e' => by cases e; cases e'; exact h
  | _, _, j + 1, _, _, .cons _ t, e, e' => TysR.get (j := j) t e e'
mutual
def Ty.depth : Ty → Nat | .var _ => 1 | .inst _ as => depths as + 1
def depths : List Ty → Nat | [] => 0 | t :: ts => max t.depth (depths ts)
end
theorem depths_mem {t : Ty} : ∀ {ts : List Ty}, t ∈ ts → t.depth ≤ depths ts
  | t' :: ts, h => by
    rw [depths]
    rcases List.mem_cons.mp h with rfl | h
    · exact Nat.le_max_left ..
    · exact Nat.le_trans (depths_mem h) (Nat.le_max_right ..)
mutual
/-- no variable -/
def Ty.closed : Ty → Bool | .var _ => false | .inst _ as => closeds as
def closeds : List Ty → Bool | [] => true | t :: ts => t.closed && closeds ts
end
theorem closeds_mem {t : Ty} : ∀ {ts : List Ty}, closeds ts = true → t ∈ ts → t.closed = true
  | t' :: ts, e, h => by
    rw [closeds, Bool.and_eq_true] at e
    rcases List.mem_cons.mp h with rfl | h
    · exact e.1
    · exact closeds_mem e.2 h
mutual
theorem TyR.inj {g : G} : ∀ {a : Addr} {s t : Ty}, TyR g a s → TyR g a t → s = t
  | _, _, _, .var ⟨d, i1, i2⟩ ⟨t, u, e, d1, d2⟩, .var ⟨d', j1, j2⟩ ⟨t', u', e', d1', d2'⟩ => by
    rw [i1] at j1; cases j1
    rw [i2] at j2; cases j2
    rfl
  | _, _, _, .var ⟨d, i1, i2⟩ _, .inst ⟨d', j1, j2⟩ _ _ _ _ => by rw [i1] at j1; cases j1
  | _, _, _, .inst ⟨d, i1, i2⟩ _ _ _ _, .var ⟨d', j1, j2⟩ _ => by rw [i1] at j1; cases j1
  | _, _, _, .inst ⟨d, i1, i2⟩ _ e as _, .inst ⟨d', j1, j2⟩ _ e' as' _ => by
    rw [i1] at j1; cases j1
    rw [i2] at j2; cases j2
    have q := e.symm.trans e'
    have q' := MO.tup.inj (Option.some.inj q)
    have q2 : _ := List.map_inj_right (f := Value.ref) (fun _ _ h => Value.ref.inj h) |>.mp q'
    subst q2
    rw [as.inj as']
theorem TysR.inj {g : G} : ∀ {as : List Addr} {ss ts : List Ty}, TysR g as ss → TysR g as ts → ss = ts
  | _, _, _, .nil, .nil => rfl
  | _, _, _, .cons h t, .cons h' t' => by rw [h.inj h', t.inj t']
end

theorem eq_of_pairs {ss ts : List Ty} {e : Nat → Bool} (he : ∀ j s t, ss[j]? = some s → ts[j]? = some t → e j = decide (s = t)) : ((List.range (min ss.length ts.length)).all e && ss.length == ts.length) = decide (ss = ts) := by
  rw [Bool.eq_iff_iff]
  simp only [Bool.and_eq_true, List.all_eq_true, beq_iff_eq, decide_eq_true_eq, List.mem_range]
  constructor
  · rintro ⟨h, hl⟩
    refine List.ext_getElem? fun j => ?_
    by_cases q : j < ss.length
    · have q' : j < ts.length := hl ▸ q
      have := h j (by omega)
      rw [he j _ _ (List.getElem?_eq_getElem q) (List.getElem?_eq_getElem q')] at this
      rw [List.getElem?_eq_getElem q, List.getElem?_eq_getElem q', of_decide_eq_true this]
    · rw [List.getElem?_eq_none (by omega), List.getElem?_eq_none (by omega)]
  · rintro rfl
    refine ⟨fun j hj => ?_, rfl⟩
    have q : j < ss.length := by omega
    rw [he j _ _ (List.getElem?_eq_getElem q) (List.getElem?_eq_getElem q)]
    simp

/-- == of two types -/
theorem eqTy : ∀ (k : Nat) {x y : Addr} {s t : Ty}, s.depth ≤ k → s.closed = true → t.closed = true → TyR g x s → TyR g y t → Pu prog w (KP w.params) (6 * k + 2) (compareOp .Eq (.ref x) (.ref y)) (fun r g' => r = .bool (decide (s = t)) ∧ g' = g) g := by
  intro k
  induction k with
  | zero => intro x y s t hs; cases s <;> (simp only [Ty.depth] at hs; omega)
  | succ k ih =>
    intro x y s t hs hc hc' hx hy
    cases hx with
    | var => cases hc
    | @inst x e C as ss I1 c1 e1 a1 z1 =>
    cases hy with
    | var => cases hc'
    | @inst y f D bs ts I2 c2 e2 a2 z2 =>
    rw [Ty.closed] at hc hc'
    rw [Ty.depth] at hs
    have args : Pu prog w (KP w.params) (6 * k + 3) (compareOp .Eq (.ref e) (.ref f)) (fun r g' => r = .bool (decide (ss = ts)) ∧ g' = g) g := by
      refine (Pu.eqTup (n := 6 * k + 2) (e := fun j => match ss[j]?, ts[j]? with | some s, some t => decide (s = t) | _, _ => false) e1 e2 ?_).mono (Nat.le_refl _) fun r g' _ ⟨q1, q2⟩ => ⟨q1.trans ?_, q2⟩
      · intro j u v hu hv
        obtain ⟨u', hu', rfl⟩ := by simpa using hu
        obtain ⟨v', hv', rfl⟩ := by simpa using hv
        have l1 : j < ss.length := by rw [← a1.length]; exact (List.getElem?_eq_some_iff.mp hu').1
        have l2 : j < ts.length := by rw [← a2.length]; exact (List.getElem?_eq_some_iff.mp hv').1
        have g1 := a1.get hu' (List.getElem?_eq_getElem l1)
        have g2 := a2.get hv' (List.getElem?_eq_getElem l2)
        simp only [List.getElem?_eq_getElem l1, List.getElem?_eq_getElem l2]
        exact Pu.eqBoolRef (fun q => by subst q; rw [g1.inj g2]; simp) (ih (Nat.le_trans (depths_mem (List.getElem_mem l1)) (by omega)) (closeds_mem hc (List.getElem_mem l1)) (closeds_mem hc' (List.getElem_mem l2)) g1 g2)
      · rw [List.length_map, List.length_map, a1.length, a2.length]
        congr 1
        exact eq_of_pairs fun j s t h1 h2 => by simp only [h1, h2]
    obtain ⟨dC, hC⟩ := c1
    obtain ⟨dD, hD⟩ := c2
    refine (Pu.eqInst (n := 6 * k + 7) (f := 302) (f' := 302) I1 I2 (ef_312_312 _) (eqf_312 _) (fnn_302 _) ?_)
    refine (Fn.def (f := 302) (n := 6 * k + 7) (Q := fun r g' => r = .bool (decide (Ty.inst C ss = .inst D ts)) ∧ g' = g) (binds := [("self", .ref x), ("other", .ref y)]) rfl ⟨rfl, rfl, rfl, rfl, rfl, rfl, by kernel_rfl, by decide +kernel, by kernel_rfl⟩ rfl (fun s X => BindsTo.of_eq rfl) rfl fun c O W hS => ?_).mono (Nat.le_refl _) fun r g' _ q => by rw [q.1]; exact ⟨rfl, q.2⟩
    dsimp only [ofBinds, List.foldl_cons, List.foldl_nil] at hS ⊢
    tb_start
    refine T.isRef hC hD (fun _ q => nomatch q) (fun _ q => nomatch q) ?_
    refine T.truthy_bool (IfK.split (fun q => ?_) fun q => ?_)
    · have q' : C = D := of_decide_eq_true q
      tb_start
      refine T.pu_same O args (by omega) ?_
      tb_start
      refine ⟨?_, rfl⟩
      show Value.bool _ = _
      subst q'
      congr 1
      simp
    · have q' : C ≠ D := of_decide_eq_false q
      tb_start
      refine ⟨?_, rfl⟩
      show Value.bool _ = _
      rw [q]
      simp [q']

end
section
variable {prog : Program} {w : World} {g : G} {n : Nat}
theorem mk_TypeVarId {i : Int} {t : Tok} : Pu prog w (KP w.params) 5 (call (.ref 161) [.int i t] []) (fun r g' => ∃ x, r = .ref x ∧ TvId g' x i) g := by
  refine Pu.make (n := 3) (fI := 130) (binds := fun x => [("self", .ref x), ("raw_id", .int i t), ("meta_level", .int 0 _)]) (mk_161 _) (in_161 _) (ty_130 _) rfl ⟨rfl, rfl, rfl, rfl, rfl, rfl, by kernel_rfl, by decide +kernel, by kernel_rfl⟩ rfl (fun s x X => binds_K X rfl rfl rfl rfl rfl) (fun x => rfl) fun x d c O W hS hx hd => ?_
  dsimp only [ofBinds, List.foldl_cons, List.foldl_nil] at hS ⊢
  tb_start
  exact ⟨rfl, _, rfl, fun g'' l I => ⟨x, rfl, _, _, I⟩⟩
theorem mk_ClassDef {v : Value} : Pu prog w (KP w.params) 5 (call (.ref 38) [v] []) (fun r g' => ∃ x, r = .ref x ∧ Inst g' x 38 [("type_vars", v)]) g := by
  refine Pu.make (n := 3) (fI := 35) (binds := fun x => [("self", .ref x), ("type_vars", v)]) (mk_38 _) (in_38 _) (ty_35 _) rfl ⟨rfl, rfl, rfl, rfl, rfl, rfl, by kernel_rfl, by decide +kernel, by kernel_rfl⟩ rfl (fun s x X => BindsTo.of_eq rfl) (fun x => rfl) fun x d c O W hS hx hd => ?_
  dsimp only [ofBinds, List.foldl_cons, List.foldl_nil] at hS ⊢
  tb_start
  exact ⟨rfl, _, rfl, fun g'' l I => ⟨x, rfl, I⟩⟩
theorem mk_TypeVarType {nm : Str} {t : Tok} {d vl ub : Addr} {i : Int} (hd : TvId g d i) : Pu prog w (KP w.params) 5 (call (.ref 204) [.str nm t, .ref d, .ref vl, .ref ub] []) (fun r g' => ∃ x v, r = .ref x ∧ Inst g' x 204 [("name", .str nm t), ("id", .ref d), ("upper_bound", .ref ub), ("values", .ref vl), ("variance", .int 0 v)]) g := by
  refine Pu.make (n := 3) (fI := 180) (binds := fun x => [("self", .ref x), ("name", .str nm t), ("own", .ref d), ("values", .ref vl), ("upper_bound", .ref ub), ("variance", .int 0 _)]) (mk_204 _) (in_204 _) (ty_180 _) rfl ⟨rfl, rfl, rfl, rfl, rfl, rfl, by kernel_rfl, by decide +kernel, by kernel_rfl⟩ rfl (fun s x X => binds_K X rfl rfl rfl rfl rfl) (fun x => rfl) fun x d c O W hS hx hd => ?_
  dsimp only [ofBinds, List.foldl_cons, List.foldl_nil] at hS ⊢
  tb_start
  exact ⟨rfl, _, rfl, fun g'' l I => ⟨x, _, rfl, I⟩⟩
theorem mk_AnyType {k : Int} {t : Tok} : Pu prog w (KP w.params) 5 (call (.ref 238) [.int k t] []) (fun r g' => ∃ x, r = .ref x ∧ Inst g' x 238 [("type_of_any", .int k t), ("source_any", .none)]) g := by
  refine Pu.make (n := 3) (fI := 221) (binds := fun x => [("self", .ref x), ("type_of_any", .int k t), ("source_any", .none)]) (mk_238 _) (in_238 _) (ty_221 _) rfl ⟨rfl, rfl, rfl, rfl, rfl, rfl, by kernel_rfl, by decide +kernel, by kernel_rfl⟩ rfl (fun s x X => binds_K X rfl rfl rfl rfl rfl) (fun x => rfl) fun x d c O W hS hx hd => ?_
  dsimp only [ofBinds, List.foldl_cons, List.foldl_nil] at hS ⊢
  tb_start
  exact ⟨rfl, _, rfl, fun g'' l I => ⟨x, rfl, I⟩⟩
theorem mk_Instance {C a : Addr} {vs : List Value} (S : Lst g a vs) (hz : vs.length ≤ 900) : Pu prog w (KP w.params) 5 (call (.ref 312) [.ref C, .ref a] []) (fun r g' => ∃ x e, r = .ref x ∧ Inst g' x 312 [("type", .ref C), ("args", .ref e)] ∧ Tup g' e vs) g := by
  refine Pu.make (n := 3) (fI := 288) (binds := fun x => [("self", .ref x), ("typ", .ref C), ("args", .ref a)]) (mk_312 _) (in_312 _) (ty_288 _) rfl ⟨rfl, rfl, rfl, rfl, rfl, rfl, by kernel_rfl, by decide +kernel, by kernel_rfl⟩ rfl (fun s x X => BindsTo.of_eq rfl) (fun x => rfl) fun x d c O W hS hx hd => ?_
  dsimp only [ofBinds, List.foldl_cons, List.foldl_nil] at hS ⊢
  tb_start
  have S' : Lst (setG g x (.inst 312 d)) a vs := S.mono (Le.setG hx)
  refine T.tupleOf (.inl S') (by omega) fun b hb => ?_
  tb_start
  exact ⟨rfl, _, rfl, fun g'' l I => ⟨x, b, rfl, I, l _ _ setG_self⟩⟩
theorem mk_ExpandTypeVisitor {v : Value} : Pu prog w (KP w.params) 5 (call (.ref 475) [v] []) (fun r g' => ∃ x, r = .ref x ∧ Inst g' x 475 [("variables", v)]) g := by
  refine Pu.make (n := 3) (fI := 451) (binds := fun x => [("self", .ref x), ("variables", v)]) (mk_475 _) (in_475 _) (ty_451 _) rfl ⟨rfl, rfl, rfl, rfl, rfl, rfl, by kernel_rfl, by decide +kernel, by kernel_rfl⟩ rfl (fun s x X => BindsTo.of_eq rfl) (fun x => rfl) fun x d c O W hS hx hd => ?_
  dsimp only [ofBinds, List.foldl_cons, List.foldl_nil] at hS ⊢
  tb_start
  exact ⟨rfl, _, rfl, fun g'' l I => ⟨x, rfl, I⟩⟩
theorem mk_SubtypeVisitor {v : Value} {b : Bool} : Pu prog w (KP w.params) 5 (call (.ref 615) [v, .bool b] []) (fun r g' => ∃ x, r = .ref x ∧ Inst g' x 615 [("right", v), ("proper_subtype", .bool b)]) g := by
  refine Pu.make (n := 3) (fI := 565) (binds := fun x => [("self", .ref x), ("right", v), ("proper_subtype", .bool b)]) (mk_615 _) (in_615 _) (ty_565 _) rfl ⟨rfl, rfl, rfl, rfl, rfl, rfl, by kernel_rfl, by decide +kernel, by kernel_rfl⟩ rfl (fun s x X => BindsTo.of_eq rfl) (fun x => rfl) fun x d c O W hS hx hd => ?_
  dsimp only [ofBinds, List.foldl_cons, List.foldl_nil] at hS ⊢
  tb_start
  exact ⟨rfl, _, rfl, fun g'' l I => ⟨x, rfl, I⟩⟩

end
section
variable {prog : Program} {w : World} {g : G} {n : Nat}
theorem bitXor_zero (i : Int) (h0 : 0 ≤ i) (h1 : i < 1000000) : Builtin.bitXor i (0 * 2 ^ (8 : Int).toNat) = i := by
  obtain ⟨k, rfl⟩ := Int.eq_ofNat_of_zero_le h0
  rw [Int.zero_mul]
  have b1 : ∀ x : Int, Builtin.bitNot x = -x - 1 := fun _ => rfl
  have b2 : ∀ x : Int, Builtin.bitNot (Builtin.bitNot x) = x := fun x => by rw [b1, b1]; omega
  have o : Builtin.bitOr (Int.ofNat k) 0 = Int.ofNat k := by
    unfold Builtin.bitOr Builtin.bitAnd
    have e1 : decide (0 ≤ Builtin.bitNot (Int.ofNat k)) = false := decide_eq_false (by rw [b1]; simp; omega)
    have e2 : decide (0 ≤ Builtin.bitNot 0) = false := decide_eq_false (by rw [b1]; omega)
    rw [e1, e2]
    simp only [b2]
    simp
  have a : Builtin.bitAnd (Int.ofNat k) 0 = 0 := by unfold Builtin.bitAnd; simp
  show Builtin.bitXor (Int.ofNat k) 0 = Int.ofNat k
  unfold Builtin.bitXor
  rw [o, a]; omega
theorem hashTv {x : Addr} {i : Int} (hx : TvId g x i) (h0 : 0 ≤ i) (h1 : i < 1000000) : Pu prog w (KP w.params) 4 (pyHash (.ref x)) (fun r g' => r = i ∧ g' = g) g := by
  obtain ⟨t, u, I⟩ := hx
  refine Pu.hash (f := 151) I (by kernel_rfl) (by kernel_rfl) h0 h1 ?_
  refine Fn.def (f := 151) (n := 3) (binds := [("self", .ref x)]) rfl ⟨rfl, rfl, rfl, rfl, rfl, rfl, by kernel_rfl, by decide +kernel, by kernel_rfl⟩ rfl (fun s X => BindsTo.of_eq rfl) rfl fun c O W hS => ?_
  dsimp only [ofBinds, List.foldl_cons, List.foldl_nil] at hS ⊢
  tb_start
  refine T.shlI (by decide) (by decide) (by decide) fun t1 => T.xorI fun t2 => ?_
  tb_start
  rw [bitXor_zero i h0 h1]
  exact ⟨⟨_, rfl⟩, rfl⟩

end
section
variable {prog : Program} {w : World} {g : G} {n : Nat}
mutual
def Ty.subst (σ : Addr → Option Ty) : Ty → Ty | .var d => (σ d).getD (.var d) | .inst C as => .inst C (substs σ as)
def substs (σ : Addr → Option Ty) : List Ty → List Ty | [] => [] | t :: ts => t.subst σ :: substs σ ts
end
mutual
def Ty.inDom (σ : Addr → Option Ty) : Ty → Bool | .var d => (σ d).isSome | .inst _ as => inDoms σ as
def inDoms (σ : Addr → Option Ty) : List Ty → Bool | [] => true | t :: ts => t.inDom σ && inDoms σ ts
end
theorem inDoms_mem {σ : Addr → Option Ty} {t : Ty} : ∀ {ts : List Ty}, inDoms σ ts = true → t ∈ ts → t.inDom σ = true
  | t' :: ts, e, h => by
    rw [inDoms, Bool.and_eq_true] at e
    rcases List.mem_cons.mp h with rfl | h
    · exact e.1
    · exact inDoms_mem e.2 h
theorem substs_map {σ : Addr → Option Ty} : ∀ {ts : List Ty}, substs σ ts = ts.map (Ty.subst σ)
  | [] => rfl
  | t :: ts => by rw [substs, substs_map]; rfl
/-- the dict of a visitor holds what is put for each variable -/
structure VarD (g : G) (D : Addr) (xs : List (Addr × Int × Value)) (σ : Addr → Option Ty) : Prop where
  dict : g D = some (.vd xs)
  nd : (xs.map (·.2.1)).Nodup
  ids : ∀ x ∈ xs, TvId g x.1 x.2.1 ∧ 0 ≤ x.2.1 ∧ x.2.1 < 1000000
  val : ∀ d t, σ d = some t → ∃ (j : Nat) (i : Int) (a : Addr), xs[j]? = some (d, i, Value.ref a) ∧ TyR g a t
theorem VarD.mono {g g' : G} {D : Addr} {xs : List (Addr × Int × Value)} {σ : Addr → Option Ty} (h : VarD g D xs σ) (l : Le g g') : VarD g' D xs σ :=
  ⟨l _ _ h.dict, h.nd, fun x hx => let ⟨a, b⟩ := h.ids x hx; ⟨a.mono l, b⟩, fun d t e => let ⟨j, i, a, q, r⟩ := h.val d t e; ⟨j, i, a, q, r.mono l⟩⟩
theorem TvId.inj {g : G} {d : Addr} {i j : Int} (h : TvId g d i) (k : TvId g d j) : i = j := by
  obtain ⟨t, u, D, a, b⟩ := h
  obtain ⟨t', u', D', a', b'⟩ := k
  rw [a] at a'; cases a'
  rw [b] at b'; cases b'; rfl
def Vis (g : G) (V D : Addr) : Prop := Inst g V 475 [("variables", .ref D)]

def ExpInst (prog : Program) (w : World) (k : Nat) : Prop := ∀ (g : G) (x V D : Addr) (C : Addr) (ts : List Ty) (xs : List (Addr × Int × Value)) (σ : Addr → Option Ty), depths ts < k → inDoms σ ts = true → TyR g x (.inst C ts) → Vis g V D → VarD g D xs σ →
  Pu prog w (KP w.params) (3 * k + 10) (call (.ref 295) [.ref x, .ref V]) (fun r g' => ∃ y, r = .ref y ∧ TyR g' y ((Ty.inst C ts).subst σ)) g
theorem expVar {x V D d : Addr} {xs : List (Addr × Int × Value)} {σ : Addr → Option Ty} (hx : TyR g x (.var d)) (hV : Vis g V D) (hD : VarD g D xs σ) (hd : (σ d).isSome = true) :
    Pu prog w (KP w.params) 8 (call (.ref 194) [.ref x, .ref V]) (fun r g' => ∃ y, r = .ref y ∧ TyR g' y ((Ty.var d).subst σ)) g := by
  cases hx with
  | @var a d ub vl nm t0 t1 v i I Tv =>
  obtain ⟨t, ht⟩ := Option.isSome_iff_exists.mp hd
  obtain ⟨j, i', b, hj, hb⟩ := hD.val d t ht
  have hm := hD.ids _ (List.mem_of_getElem? hj)
  have inner : Pu prog w (KP w.params) 7 (call (.ref 465) [.ref V, .ref x]) (fun r g' => r = .ref b ∧ g' = g) g := by
    refine Fn.def (f := 465) (n := 6) (binds := [("self", .ref V), ("t", .ref x)]) rfl ⟨rfl, rfl, rfl, rfl, rfl, rfl, by kernel_rfl, by decide +kernel, by kernel_rfl⟩ rfl (fun s X => BindsTo.of_eq rfl) rfl fun c O W hS => ?_
    dsimp only [ofBinds, List.foldl_cons, List.foldl_nil] at hS ⊢
    tb_start
    refine T.methodGetV (.inl hD.dict) ?_
    tb_start
    refine T.getV (n := 5) O (.inl hD.dict) hj hD.nd (fun y hy e => ?_) ((hashTv hm.1 hm.2.1 hm.2.2).of_room (by omega)) ?_
    · have := (hD.ids y hy).1
      rw [e] at this
      exact this.inj hm.1
    tb_start
    exact ⟨rfl, rfl⟩
  refine Fn.def (f := 194) (n := 7) (binds := [("self", .ref x), ("visitor", .ref V)]) rfl ⟨rfl, rfl, rfl, rfl, rfl, rfl, by kernel_rfl, by decide +kernel, by kernel_rfl⟩ rfl (fun s X => BindsTo.of_eq rfl) rfl fun c O W hS => ?_
  dsimp only [ofBinds, List.foldl_cons, List.foldl_nil] at hS ⊢
  tb_start
  refine T.pu_same O inner (by omega) ?_
  tb_start
  exact ⟨b, rfl, by rw [Ty.subst, ht]; exact hb⟩

theorem refs_get {as : List Addr} {i : Nat} {v : Value} (h : (as.map Value.ref)[i]? = some v) : ∃ a, as[i]? = some a ∧ v = .ref a := by
  rw [List.getElem?_map] at h
  cases q : as[i]? with
  | none => rw [q] at h; cases h
  | some a => rw [q] at h; exact ⟨a, rfl, (Option.some.inj h).symm⟩
/-- the items of a list, each shown to stand for a type, put together -/
theorem gatherTy {g : G} {ts : List Ty} {ys : List Value} (hl : ys.length = ts.length) (h : ∀ (i : Nat) (y : Value), ys[i]? = some y → ∃ a t, ts[i]? = some t ∧ y = .ref a ∧ TyR g a t) : ∃ bs : List Addr, ys = bs.map .ref ∧ TysR g bs ts := by
  induction ts generalizing ys with
  | nil => cases ys with
    | nil => exact ⟨[], rfl, .nil⟩
    | cons => cases hl
  | cons t ts ih => cases ys with
    | nil => cases hl
    | cons y ys =>
      obtain ⟨a, t', e, rfl, r⟩ := h 0 y rfl
      cases e
      obtain ⟨bs, e, rs⟩ := ih (by simpa using hl) fun i y q => h (i + 1) y (by simpa using q)
      exact ⟨a :: bs, by rw [e]; rfl, .cons r rs⟩
theorem expList {k : Nat} (ih : ExpInst prog w k) {e V D : Addr} {as : List Addr} {ts : List Ty} {xs : List (Addr × Int × Value)} {σ : Addr → Option Ty} (hk : depths ts ≤ k) (hc : inDoms σ ts = true) (hz : ts.length ≤ 900) (he : Tup g e (as.map .ref)) (ha : TysR g as ts) (hV : Vis g V D) (hD : VarD g D xs σ) :
    Pu prog w (KP w.params) (3 * k + 11) (call (.ref 416) [.ref V, .ref e]) (fun r g' => ∃ a bs, r = .ref a ∧ Lst g' a (bs.map .ref) ∧ TysR g' bs (substs σ ts)) g := by
  refine Fn.defM (f := 416) (n := (3 * k + 10)) (binds := [("self", .ref V), ("types", .ref e)]) rfl ⟨rfl, rfl, rfl, rfl, rfl, rfl, by kernel_rfl, by decide +kernel, by kernel_rfl⟩ rfl (fun s X => BindsTo.of_eq rfl) rfl fun c O W hS => ?_
  dsimp only [ofBinds, List.foldl_cons, List.foldl_nil] at hS ⊢
  tb_start
  refine T.lc O hS (by kernel_rfl) (by kernel_rfl) (fun _ => rfl) ?_
  tb_start
  refine Seqs.tuple O he (LcK.map (fun i v g' => ∃ a t, (substs σ ts)[i]? = some t ∧ v = .ref a ∧ TyR g' a t) (fun i v g1 g2 l ⟨a, t, e1, e2, r⟩ => ⟨a, t, e1, e2, r.mono l⟩) (by kernel_rfl) (by rw [List.length_map, ha.length]; omega) ?_ ?_)
  · intro D' c' O' hS' i v g' ρ' acc hi hv l hρ
    obtain ⟨a, ha', rfl⟩ := refs_get hv
    have hi' : i < ts.length := by rw [← ha.length]; exact (List.getElem?_eq_some_iff.mp ha').1
    have hr := (ha.get ha' (List.getElem?_eq_getElem hi')).mono l
    have hV' : Vis g' V D := hV.mono l
    have hD' := hD.mono l
    have hm := List.getElem_mem hi'
    have hdom := inDoms_mem hc hm
    have hdep := depths_mem hm
    have hres : (substs σ ts)[i]? = some ((ts[i]).subst σ) := by rw [substs_map, List.getElem?_map, List.getElem?_eq_getElem hi']; rfl
    have hself : ρ' "self" = some (.ref V) := (hρ "self" (by kernel_rfl)).trans (by k_subL)
    generalize ts[i] = t at hr hdom hdep hres
    tb_start
    cases t with
    | var d =>
      have I := hr
      cases I with
      | @var _ _ ub vl nm t0 t1 v i I Tv =>
      tb_start
      rw [Ty.inDom] at hdom
      refine T.pu O' (expVar hr hV' hD' hdom) (by omega) fun r g'' l' ⟨y, e, q⟩ => ?_
      exact ⟨rfl, y, _, hres, e, q⟩
    | inst C ss =>
      have I := hr
      cases I with
      | @inst _ e C as' ss I c1 e1 a1 z1 =>
      tb_start
      rw [Ty.inDom] at hdom
      rw [Ty.depth] at hdep
      refine T.pu O' (ih g' a V D C ss xs σ (by omega) hdom hr hV' hD') (by omega) fun r g'' l' ⟨y, e, q⟩ => ?_
      exact ⟨rfl, y, _, hres, e, q⟩
  · intro D' ys g' l hlen hys
    obtain ⟨bs, rfl, rs⟩ := gatherTy (by rw [hlen, List.length_map, ha.length, substs_map, List.length_map]) fun i y e => let ⟨a, t, e1, e2, r⟩ := hys i y e; ⟨a, t, e1, e2, r⟩
    tb_start
    exact fun g'' l' hM => ⟨D', bs, rfl, hM _ (.head _), rs.mono l'⟩

theorem copyMod {x C e a : Addr} {vs : List Value} (I : Inst g x 312 [("type", .ref C), ("args", .ref e)]) (S : Lst g a vs) (hz : vs.length ≤ 900) :
    Pu prog w (KP w.params) 7 (call (.ref 309) [.ref x] [("args", .ref a)]) (fun r g' => ∃ y e, r = .ref y ∧ Inst g' y 312 [("type", .ref C), ("args", .ref e)] ∧ Tup g' e vs) g := by
  refine Fn.def (f := 309) (n := 6) (binds := [("self", .ref x), ("args", .ref a)]) rfl ⟨rfl, rfl, rfl, rfl, rfl, rfl, by kernel_rfl, by decide +kernel, by kernel_rfl⟩ rfl (fun s X => BindsTo.of_eq rfl) rfl fun c O W hS => ?_
  dsimp only [ofBinds, List.foldl_cons, List.foldl_nil] at hS ⊢
  tb_start
  refine T.pu O (mk_Instance S hz) (by omega) fun r g' l ⟨y, e', q1, q2, q3⟩ => ?_
  tb_start
  exact ⟨y, e', q1, q2, q3⟩
theorem expInst : ∀ k, ExpInst prog w k := by
  intro k
  induction k with
  | zero => intro g x V D C ts xs σ h; omega
  | succ k ih =>
    intro g x V D C ts xs σ hk hc hx hV hD
    have hx' := hx
    cases hx' with
    | @inst _ e _ as _ I c1 e1 a1 z1 =>
    have inner : Pu prog w (KP w.params) (3 * k + 12) (call (.ref 458) [.ref V, .ref x]) (fun r g' => ∃ y, r = .ref y ∧ TyR g' y ((Ty.inst C ts).subst σ)) g := by
      refine Fn.def (f := 458) (n := (3 * k + 11)) (binds := [("self", .ref V), ("t", .ref x)]) rfl ⟨rfl, rfl, rfl, rfl, rfl, rfl, by kernel_rfl, by decide +kernel, by kernel_rfl⟩ rfl (fun s X => BindsTo.of_eq rfl) rfl fun c O W hS => ?_
      dsimp only [ofBinds, List.foldl_cons, List.foldl_nil] at hS ⊢
      tb_start
      refine T.lenT e1 (by rw [List.length_map, a1.length]; omega) fun t1 => ?_
      tb_start
      refine IfK.split (fun q => ?_) fun q => ?_
      · tb_start
        have : ts = [] := by
          have q' : ((as.map Value.ref).length : Int) = 0 := by simpa using q
          cases ts with
          | nil => rfl
          | cons t ts => rw [List.length_map, a1.length, List.length_cons] at q'; omega
        subst this
        exact ⟨x, rfl, hx⟩
      · tb_start
        refine T.pu O (expList ih (by omega) hc (by omega) e1 a1 hV hD) (by omega) fun r g1 l1 ⟨a, bs, q1, q2, q3⟩ => ?_
        subst q1
        have I' := I.mono l1
        tb_start
        have hlen : bs.length = ts.length := by rw [q3.length, substs_map, List.length_map]
        refine T.pu O (copyMod I' q2 (by rw [List.length_map]; omega)) (by omega) fun r g2 l2 ⟨y, e', p1, p2, p3⟩ => ?_
        tb_start
        exact ⟨y, p1, .inst p2 (c1.mono (l1.trans l2)) p3 (q3.mono l2) (by rw [substs_map, List.length_map]; exact z1)⟩
    refine Fn.def (f := 295) (n := (3 * k + 12)) (binds := [("self", .ref x), ("visitor", .ref V)]) rfl ⟨rfl, rfl, rfl, rfl, rfl, rfl, by kernel_rfl, by decide +kernel, by kernel_rfl⟩ rfl (fun s X => BindsTo.of_eq rfl) rfl fun c O W hS => ?_
    dsimp only [ofBinds, List.foldl_cons, List.foldl_nil] at hS ⊢
    tb_start
    refine T.pu O inner (by omega) fun r g' l ⟨y, q1, q2⟩ => ?_
    tb_start
    exact ⟨y, q1, q2⟩

end
section
variable {prog : Program} {w : World} {g : G} {n : Nat}
theorem expandType {k : Nat} {x D C : Addr} {ts : List Ty} {xs : List (Addr × Int × Value)} {σ : Addr → Option Ty} (hk : depths ts < k) (hc : inDoms σ ts = true) (hx : TyR g x (.inst C ts)) (hD : VarD g D xs σ) :
    Pu prog w (KP w.params) (3 * k + 12) (call (.ref 430) [.ref x, .ref D]) (fun r g' => ∃ y, r = .ref y ∧ TyR g' y ((Ty.inst C ts).subst σ)) g := by
  have hx' := hx
  cases hx' with
  | @inst _ e _ as _ I c1 e1 a1 z1 =>
  refine Fn.def (f := 430) (n := (3 * k + 11)) (binds := [("typ", .ref x), ("env", .ref D)]) rfl ⟨rfl, rfl, rfl, rfl, rfl, rfl, by kernel_rfl, by decide +kernel, by kernel_rfl⟩ rfl (fun s X => BindsTo.of_eq rfl) rfl fun c O W hS => ?_
  dsimp only [ofBinds, List.foldl_cons, List.foldl_nil] at hS ⊢
  tb_start
  refine T.pu O mk_ExpandTypeVisitor (by omega) fun r g' l ⟨V, q1, q2⟩ => ?_
  subst q1
  tb_start
  refine T.pu O (expInst k g' x V D C ts xs σ hk hc (hx.mono l) q2 (hD.mono l)) (by omega) fun r g'' l' ⟨y, p1, p2⟩ => ?_
  tb_start
  exact ⟨y, p1, p2⟩
/-- one class of the text's world, as an object -/
structure ClsA (g : G) (C : Addr) (nm : Str) (tvs bs mro : List Addr) : Prop where
  obj : ∃ t dd tvl nml bl ml names, Inst g C 64 [("fullname", .str nm t), ("defn", .ref dd), ("type_vars", .ref nml), ("bases", .ref bl), ("mro", .ref ml)] ∧ Inst g dd 38 [("type_vars", .ref tvl)] ∧
    Lst g tvl (tvs.map .ref) ∧ Lst g nml names ∧ names.length = tvs.length ∧ Lst g bl (bs.map .ref) ∧ Lst g ml (mro.map .ref)
  few : tvs.length ≤ 9 ∧ bs.length ≤ 9 ∧ mro.length ≤ 99
theorem ClsA.mono {g g' : G} {C : Addr} {nm : Str} {tvs bs mro : List Addr} (h : ClsA g C nm tvs bs mro) (l : Le g g') : ClsA g' C nm tvs bs mro :=
  ⟨let ⟨t, dd, tvl, nml, bl, ml, names, a, b, c, d, e, f, h⟩ := h.obj; ⟨t, dd, tvl, nml, bl, ml, names, a.mono l, b.mono l, c.mono l, d.mono l, e, f.mono l, h.mono l⟩, h.few⟩
structure Bind (g : G) (tv : Addr) (d : Addr) (i : Int) : Prop where
  ty : TyR g tv (.var d)
  id : TvId g d i
  lo : 0 ≤ i
  hi : i < 1000000
theorem Bind.mono {g g' : G} {tv d : Addr} {i : Int} (h : Bind g tv d i) (l : Le g g') : Bind g' tv d i := ⟨h.ty.mono l, h.id.mono l, h.lo, h.hi⟩
/-- the entries that the loop lays down -/
def ents (ds : List (Addr × Int)) (as : List Addr) : List (Addr × Int × Value) := (ds.zip as).map fun p => (p.1.1, p.1.2, .ref p.2)
def sig (ds : List (Addr × Int)) (ts : List Ty) : Addr → Option Ty := fun d => ((ds.zip ts).find? fun p => p.1.1 == d).map (·.2)
mutual
theorem subst_none : ∀ (t : Ty), t.inDom (fun _ => none) = true → t.subst (fun _ => none) = t
  | .var d, h => by rw [Ty.inDom] at h; cases h
  | .inst C as, h => by rw [Ty.inDom] at h; rw [Ty.subst, substs_none as h]
theorem substs_none : ∀ (ts : List Ty), inDoms (fun _ => none) ts = true → substs (fun _ => none) ts = ts
  | [], _ => rfl
  | t :: ts, h => by rw [inDoms, Bool.and_eq_true] at h; rw [substs, subst_none t h.1, substs_none ts h.2]
end
theorem dictDisplay_nil : dictDisplay [] = newDict := by
  unfold dictDisplay
  simp
theorem T.dict0 {c : Cx} {ρ : Str → Option Value} {M : Mem} {pos : Pos} {Q : Post Value} (h : T prog w c (PySem.newDict) Q g ρ M) : T prog w c (eval (.Dict [] [] pos) c.env) Q g ρ M := by
  rw [arm_eval_Dict]
  refine T.bind (T.standAt ?_)
  show T prog w c (dictDisplay []) Q g ρ M
  rw [dictDisplay_nil]
  exact h
structure Binds (g : G) (tvs : List Addr) (ds : List (Addr × Int)) : Prop where
  len : ds.length = tvs.length
  at_ : ∀ (j : Nat) (tv d : Addr) (i : Int), tvs[j]? = some tv → ds[j]? = some (d, i) → Bind g tv d i
  nd1 : (ds.map (·.1)).Nodup
  nd2 : (ds.map (·.2)).Nodup
theorem Binds.mono {g g' : G} {tvs : List Addr} {ds : List (Addr × Int)} (h : Binds g tvs ds) (l : Le g g') : Binds g' tvs ds := ⟨h.len, fun j tv d i a b => (h.at_ j tv d i a b).mono l, h.nd1, h.nd2⟩
theorem ents_get {ds : List (Addr × Int)} {as : List Addr} {j : Nat} {d a : Addr} {i : Int} (h : ds[j]? = some (d, i)) (h' : as[j]? = some a) : (ents ds as)[j]? = some (d, i, .ref a) := by
  unfold ents
  rw [List.getElem?_map, (List.getElem?_zip_eq_some (z := ((d, i), a))).mpr ⟨h, h'⟩]; rfl
theorem ents_of {ds : List (Addr × Int)} {as : List Addr} {j : Nat} {y : Addr × Int × Value} (h : (ents ds as)[j]? = some y) : ∃ d i a, ds[j]? = some (d, i) ∧ as[j]? = some a ∧ y = (d, i, .ref a) := by
  unfold ents at h
  rw [List.getElem?_map] at h
  cases q : (ds.zip as)[j]? with
  | none => rw [q] at h; cases h
  | some p =>
    rw [q] at h
    obtain ⟨⟨d, i⟩, a⟩ := p
    have := List.getElem?_zip_eq_some.mp q
    exact ⟨d, i, a, this.1, this.2, (Option.some.inj h).symm⟩
theorem ents_fst {ds : List (Addr × Int)} {as : List Addr} (h : ds.length = as.length) : (ents ds as).map (·.2.1) = ds.map (·.2) ∧ (ents ds as).map (·.1) = ds.map (·.1) := by
  induction ds generalizing as with
  | nil => exact ⟨rfl, rfl⟩
  | cons p ds ih => cases as with
    | nil => cases h
    | cons a as =>
      have := ih (as := as) (by simpa using h)
      exact ⟨by show p.2 :: _ = p.2 :: _; rw [← this.1]; rfl, by show p.1 :: _ = p.1 :: _; rw [← this.2]; rfl⟩
theorem sig_some {ds : List (Addr × Int)} {ts : List Ty} {d : Addr} {t : Ty} (h : sig ds ts d = some t) : ∃ (j : Nat) (i : Int), ds[j]? = some (d, i) ∧ ts[j]? = some t := by
  unfold sig at h
  cases q : (ds.zip ts).find? fun p => p.1.1 == d with
  | none => rw [q] at h; cases h
  | some p =>
    rw [q] at h
    obtain ⟨⟨d', i⟩, t'⟩ := p
    have h1 := List.find?_some q
    have h2 := List.mem_of_find?_eq_some q
    obtain ⟨j, hj⟩ := List.mem_iff_getElem?.mp h2
    have := List.getElem?_zip_eq_some.mp hj
    have e : d' = d := by simpa using h1
    subst e
    cases h
    exact ⟨j, i, this.1, this.2⟩
theorem varD {g : G} {D : Addr} {tvs as : List Addr} {ds : List (Addr × Int)} {ts : List Ty} (h : g D = some (.vd (ents ds as))) (hB : Binds g tvs ds) (ha : TysR g as ts) (ht : ts.length = tvs.length) : VarD g D (ents ds as) (sig ds ts) := by
  have hl : ds.length = as.length := by rw [hB.len, ha.length, ht]
  refine ⟨h, by rw [(ents_fst hl).1]; exact hB.nd2, fun y hy => ?_, fun d t e => ?_⟩
  · obtain ⟨j, hj⟩ := List.mem_iff_getElem?.mp hy
    obtain ⟨d, i, a, e1, e2, rfl⟩ := ents_of hj
    have hlt : j < tvs.length := by rw [← hB.len]; exact (List.getElem?_eq_some_iff.mp e1).1
    have b := hB.at_ j _ d i (List.getElem?_eq_getElem hlt) e1
    exact ⟨b.id, b.lo, b.hi⟩
  · obtain ⟨j, i, e1, e2⟩ := sig_some e
    have hlt : j < as.length := by rw [ha.length]; exact (List.getElem?_eq_some_iff.mp e2).1
    exact ⟨j, i, as[j], ents_get e1 (List.getElem?_eq_getElem hlt), ha.get (List.getElem?_eq_getElem hlt) e2⟩
theorem expandBy {k : Nat} {b x C' C : Addr} {hd ts : List Ty} {nm : Str} {tvs bs mro : List Addr} {ds : List (Addr × Int)} (hk : depths hd < k) (hb : TyR g b (.inst C' hd)) (hx : TyR g x (.inst C ts)) (hC : ClsA g C nm tvs bs mro) (hB : Binds g tvs ds)
    (ht : ts.length = tvs.length) (hc : inDoms (sig ds ts) hd = true) :
    Pu prog w (KP w.params) (3 * k + 14) (call (.ref 437) [.ref b, .ref x]) (fun r g' => ∃ y, r = .ref y ∧ TyR g' y ((Ty.inst C' hd).subst (sig ds ts))) g := by
  have hx' := hx
  cases hx' with
  | @inst _ e _ as _ I c1 e1 a1 z1 =>
  obtain ⟨t0, dd, tvl, nml, bl, ml, names, o1, o2, o3, o4, o5, o6, o7⟩ := hC.obj
  refine Fn.def (f := 437) (n := (3 * k + 13)) (binds := [("typ", .ref b), ("instance", .ref x)]) rfl ⟨rfl, rfl, rfl, rfl, rfl, rfl, by kernel_rfl, by decide +kernel, by kernel_rfl⟩ rfl (fun s X => BindsTo.of_eq rfl) rfl fun c O W hS => ?_
  dsimp only [ofBinds, List.foldl_cons, List.foldl_nil] at hS ⊢
  tb_start
  refine T.truthyT e1 (by rw [List.length_map, a1.length]; omega) ?_
  refine IfK.split (fun q => ?_) fun q => ?_
  · tb_start
    have : ts = [] := by
      cases ts with
      | nil => rfl
      | cons t ts => cases as with
        | nil => have := a1.length; simp at this
        | cons => simp at q
    subst this
    have hs : sig ds [] = fun _ => none := by funext d; simp [sig]
    rw [hs] at hc ⊢
    refine ⟨b, rfl, ?_⟩
    rw [subst_none _ (by rw [Ty.inDom]; exact hc)]
    exact hb
  · tb_start
    refine T.dict0 (T.newDictV fun D => ?_)
    tb_start
    refine T.tupleOf (.inl o3) (by have := hC.few.1; rw [List.length_map]; omega) fun tt htt => ?_
    have S1 : Tup (setG g tt (.tup (tvs.map .ref))) tt (tvs.map .ref) := setG_self
    have lg := Le.setG (m := .tup (tvs.map Value.ref)) htt
    have e1' := e1.mono lg
    have I' := I.mono lg
    have hB' := hB.mono lg
    have a1' := a1.mono lg
    have hb' := hb.mono lg
    generalize setG g tt (.tup (tvs.map .ref)) = g1 at S1 lg e1' I' hB' a1' hb'
    tb_start
    refine T.for_ O W hS (fun _ => rfl) ?_
    tb_start
    refine T.zipTT S1 e1' fun z TI TO i1 i2 => ?_
    refine Seqs.zip (m := tvs.length) O (fun d hd => ?_) (fun d hd => ?_) (by simp) ⟨fun j g' ρ' M => ρ' "variables" = some (.ref D) ∧ ρ' "typ" = some (.ref b) ∧ M = [(D, .vd ((ents ds as).take j))], ⟨by k_subL, by k_subL, by simp⟩, ?_, ?_⟩
    · rcases List.mem_cons.mp hd with rfl | hd
      · exact S1
      · rw [List.mem_singleton.mp hd]; exact e1'
    · rcases List.mem_cons.mp hd with rfl | hd
      · simp
      · rw [List.mem_singleton.mp hd]; simp [a1'.length, ht]
    · rintro c' O' W' hS' j v g' ρ' M hj ⟨T0, vals, rfl, hv, hT0⟩ l ⟨v1, v2, rfl⟩
      have hlen : ds.length = as.length := by rw [hB.len, a1.length, ht]
      have h1 : j < ds.length := by rw [hB.len]; exact hj
      have h2 : j < as.length := by omega
      obtain ⟨d, i, hd⟩ : ∃ d i, ds[j]? = some (d, i) := ⟨_, _, List.getElem?_eq_getElem h1⟩
      have hb := (hB'.mono l).at_ j tvs[j] d i (List.getElem?_eq_getElem hj) hd
      have hvals : vals = [.ref tvs[j], .ref as[j]] := by
        have : vals.map some = [some (Value.ref tvs[j]), some (.ref as[j])] := by
          rw [hv]; simp [List.getElem?_eq_getElem hj, List.getElem?_eq_getElem h2]
        exact List.map_inj_right (f := some) (fun _ _ h => Option.some.inj h) |>.mp this
      subst hvals
      generalize tvs[j] = tv at hb hT0
      have hbty := hb.ty
      cases hbty with
      | @var _ _ ub vl nm' t1 t2 vv ii Iv Tv =>
      refine T.unpackT O' (.inl hT0) rfl rfl ?_
      refine T.inOrder_cons (T.assign_stored ?_)
      tb_start
      refine T.inOrder_cons (T.assign_stored ?_)
      tb_start
      refine T.inOrder_nil ?_
      tb_start
      have hent := ents_get hd (List.getElem?_eq_getElem h2)
      have hel : (ents ds as).length = tvs.length := by have := hB.len; unfold ents; rw [List.length_map, List.length_zip]; omega
      refine T.setItemV (n := 3 * k + 12) O' (by rw [List.length_take]; have := hC.few.1; omega) (fun y hy => ?_) ((hashTv hb.id hb.lo hb.hi).of_room (by omega)) ?_
      · obtain ⟨m, hm⟩ := List.mem_iff_getElem?.mp hy
        have hmj : m < j := by
          have := (List.getElem?_eq_some_iff.mp hm).1
          rw [List.length_take] at this; omega
        rw [List.getElem?_take_of_lt hmj] at hm
        obtain ⟨d', i', a', q1, q2, rfl⟩ := ents_of hm
        have f1 : (ds.map (·.2))[m]? = some i' := by rw [List.getElem?_map, q1]; rfl
        have f2 : (ds.map (·.2))[j]? = some i := by rw [List.getElem?_map, hd]; rfl
        have f3 : (ds.map (·.1))[m]? = some d' := by rw [List.getElem?_map, q1]; rfl
        have f4 : (ds.map (·.1))[j]? = some d := by rw [List.getElem?_map, hd]; rfl
        refine ⟨fun z => ?_, fun z => ?_⟩
        · have z' : i' = i := z
          rw [z', ← f2] at f1
          have := (List.getElem?_inj (by rw [List.length_map]; omega) hB.nd2).mp f1
          omega
        · have z' : d' = d := z
          rw [z', ← f4] at f3
          have := (List.getElem?_inj (by rw [List.length_map]; omega) hB.nd1).mp f3
          omega
      tb_start
      refine ⟨by k_subL, by k_subL, ?_⟩
      rw [List.take_add_one, hent]; rfl
    · rintro g' ρ' M l ⟨v1, v2, rfl⟩
      rw [List.take_of_length_le (by unfold ents; rw [List.length_map, List.length_zip, hB.len]; omega)]
      refine ExecK.next (T.freeze0 fun hn => ?_)
      have l2 : Le g' (setG g' D (.vd (ents ds as))) := Le.setG hn
      have hV := varD (g := setG g' D (.vd (ents ds as))) setG_self (hB'.mono (l.trans l2)) (a1'.mono (l.trans l2)) ht
      tb_start
      refine T.pu O (expandType hk hc (hb'.mono (l.trans l2)) hV) (by omega) fun r g3 l3 ⟨y, p1, p2⟩ => ?_
      tb_start
      exact ⟨y, p1, p2⟩

end
section
variable {prog : Program} {w : World} {g : G} {n : Nat}
theorem mapDirect {k : Nat} {b x B C : Addr} {hd ts : List Ty} {nm : Str} {tvs mro : List Addr} {ds : List (Addr × Int)} (hk : depths hd < k) (hb : TyR g b (.inst B hd)) (hx : TyR g x (.inst C ts)) (hC : ClsA g C nm tvs [b] mro) (hB : Binds g tvs ds)
    (ht : ts.length = tvs.length) (hc : inDoms (sig ds ts) hd = true) :
    Pu prog w (KP w.params) (3 * k + 16) (call (.ref 512) [.ref x, .ref B]) (fun r g' => ∃ l y, r = .ref l ∧ Lst g' l [.ref y] ∧ TyR g' y ((Ty.inst B hd).subst (sig ds ts))) g := by
  have hx' := hx
  have hb0 := hb
  cases hx' with
  | @inst _ e _ as _ I c1 e1 a1 z1 =>
  cases hb0 with
  | @inst _ eb _ ab _ Ib cb eb1 ab1 zb =>
  obtain ⟨t0, dd, tvl, nml, bl, ml, names, o1, o2, o3, o4, o5, o6, o7⟩ := hC.obj
  refine Fn.defM (f := 512) (n := (3 * k + 15)) (binds := [("instance", .ref x), ("supertype", .ref B)]) rfl ⟨rfl, rfl, rfl, rfl, rfl, rfl, by kernel_rfl, by decide +kernel, by kernel_rfl⟩ rfl (fun s X => BindsTo.of_eq rfl) rfl fun c O W hS => ?_
  dsimp only [ofBinds, List.foldl_cons, List.foldl_nil] at hS ⊢
  tb_start
  refine T.newList (by simp) fun R => ?_
  tb_start
  refine T.for_ O W hS (fun _ => rfl) ?_
  tb_start
  refine Seqs.list O o6 ⟨fun j g' ρ' M => ρ' "result" = some (.ref R) ∧ ρ' "instance" = some (.ref x) ∧ ρ' "supertype" = some (.ref B) ∧ (j = 0 → M = [(R, .list [])]) ∧ (j = 1 → ∃ y, M = [(R, .list [.ref y])] ∧ TyR g' y ((Ty.inst B hd).subst (sig ds ts))),
    ⟨by k_subL, by k_subL, by k_subL, fun _ => rfl, fun e => by cases e⟩, ?_, ?_⟩
  · rintro c' O' W' hS' j v g' ρ' M hj hv l ⟨v1, v2, v3, m0, _⟩
    have hj0 : j = 0 := by simpa using hj
    subst hj0
    have hv' : v = .ref b := by simpa using hv.symm
    subst hv'
    have hM := m0 rfl
    subst hM
    have hb' := hb.mono l
    have hx2 := hx.mono l
    have Ib' := Ib.mono l
    obtain ⟨dB, hdB⟩ := cb.mono l
    refine T.assign_stored ?_
    tb_start
    refine T.isRef hdB hdB (fun _ q => nomatch q) (fun _ q => nomatch q) ?_
    rw [decide_eq_true rfl]
    tb_start
    refine T.pu O' (expandBy hk hb' hx2 (hC.mono l) (hB.mono l) ht hc) (by omega) fun r g2 l2 ⟨y, q1, q2⟩ => ?_
    subst q1
    have q2' := q2
    rw [Ty.subst] at q2'
    cases q2' with
    | @inst _ ey _ ay _ Iy cy ey1 ay1 zy =>
    tb_start
    refine ⟨rfl, ?_⟩
    tb_start
    refine T.methodL (.inr (.head _)) F.slot_list_append F.type_list_append ?_
    tb_start
    refine T.appendL (pre := []) O' (by simp) ?_
    tb_start
    refine ⟨rfl, ?_⟩
    tb_start
    exact ⟨by k_subL, by k_subL, by k_subL, (fun e => by cases e), fun _ => ⟨y, rfl, q2⟩⟩
  · rintro g' ρ' M l ⟨v1, v2, v3, _, m1⟩
    obtain ⟨y, rfl, hy⟩ := m1 rfl
    refine ExecK.next ?_
    tb_start
    refine T.truthyL (.inr (.head _)) (by simp) ?_
    refine IfK.t ?_
    tb_start
    exact fun g'' l' hM => ⟨R, y, rfl, hM _ (.head _), hy.mono l'⟩

end
section
variable {prog : Program} {w : World} {g : G} {n : Nat}
/-- the path from a class up to another: each class has one base at most -/
inductive Pth (g : G) (D : Addr) : Nat → Addr → Option (List Addr) → Prop
  | none {C : Addr} {nm : Str} {tvs mro : List Addr} : ClsA g C nm tvs [] mro → Pth g D 0 C none
  | one {C b : Addr} {nm : Str} {tvs mro : List Addr} {hd : List Ty} {n : Nat} : ClsA g C nm tvs [b] mro → TyR g b (.inst D hd) → Pth g D n C (some [D])
  | more {C B b : Addr} {nm : Str} {tvs mro : List Addr} {hd : List Ty} {n : Nat} {p : Option (List Addr)} : ClsA g C nm tvs [b] mro → TyR g b (.inst B hd) → B ≠ D → Pth g D n B p → Pth g D (n + 1) C (p.map (B :: ·))
theorem Pth.mono {g g' : G} {D C : Addr} {n : Nat} {p : Option (List Addr)} (h : Pth g D n C p) (l : Le g g') : Pth g' D n C p := by
  induction h with
  | none a => exact .none (a.mono l)
  | one a b => exact .one (a.mono l) (b.mono l)
  | more a b c _ ih => exact .more (a.mono l) (b.mono l) c ih
def PathsAt (g : G) (l : Addr) : Option (List Addr) → Prop
  | none => Lst g l []
  | some p => ∃ q, Lst g l [.ref q] ∧ Lst g q (p.map .ref)
theorem PathsAt.mono {g g' : G} {a : Addr} {p : Option (List Addr)} (h : PathsAt g a p) (l : Le g g') : PathsAt g' a p := by
  cases p with
  | none => exact Lst.mono h l
  | some p => obtain ⟨q, a, b⟩ := h; exact ⟨q, a.mono l, b.mono l⟩
theorem pathOne {D C b : Addr} {nm : Str} {tvs mro : List Addr} {hd : List Ty} (hC : ClsA g C nm tvs [b] mro) (hb : TyR g b (.inst D hd)) :
    Pu prog w (KP w.params) 3 (call (.ref 505) [.ref C, .ref D]) (fun r g' => ∃ l, r = .ref l ∧ PathsAt g' l (some [D])) g := by
  cases hb with
  | @inst _ eb _ ab _ Ib cb eb1 ab1 zb =>
  obtain ⟨t0, dd, tvl, nml, bl, ml, names, o1, o2, o3, o4, o5, o6, o7⟩ := hC.obj
  refine Fn.defM (f := 505) (n := 2) (binds := [("typ", .ref C), ("supertype", .ref D)]) rfl ⟨rfl, rfl, rfl, rfl, rfl, rfl, by kernel_rfl, by decide +kernel, by kernel_rfl⟩ rfl (fun s X => BindsTo.of_eq rfl) rfl fun c O W hS => ?_
  dsimp only [ofBinds, List.foldl_cons, List.foldl_nil] at hS ⊢
  tb_start
  refine T.newList (by simp) fun R => ?_
  tb_start
  refine T.for_ O W hS (fun _ => rfl) ?_
  tb_start
  refine Seqs.list O o6 ⟨fun j g' ρ' M => ρ' "result" = some (.ref R) ∧ ρ' "supertype" = some (.ref D) ∧ (j = 0 → M = [(R, .list [])]) ∧ (j = 1 → ∃ q, M = [(R, .list [.ref q])] ∧ Lst g' q [.ref D]), ⟨by k_subL, by k_subL, fun _ => rfl, fun e => by cases e⟩, ?_, ?_⟩
  · rintro c' O' W' hS' j v g' ρ' M hj hv l ⟨v1, v2, m0, _⟩
    have hj0 : j = 0 := by simpa using hj
    subst hj0
    have hv' : v = .ref b := by simpa using hv.symm
    subst hv'
    have hM := m0 rfl
    subst hM
    have Ib' := Ib.mono l
    obtain ⟨dB, hdB⟩ := cb.mono l
    refine T.assign_stored ?_
    tb_start
    refine T.isRef hdB hdB (fun _ q => nomatch q) (fun _ q => nomatch q) ?_
    rw [decide_eq_true rfl]
    tb_start
    refine T.methodL (.inr (.head _)) F.slot_list_append F.type_list_append ?_
    tb_start
    refine T.newListF (by simp) fun q hq => ?_
    tb_start
    refine T.appendL (pre := []) O' (by simp) ?_
    tb_start
    refine ⟨rfl, ?_⟩
    tb_start
    exact ⟨by k_subL, by k_subL, (fun e => by cases e), fun _ => ⟨q, rfl, setG_self⟩⟩
  · rintro g' ρ' M l ⟨v1, v2, _, m1⟩
    obtain ⟨q, rfl, hq⟩ := m1 rfl
    refine ExecK.next ?_
    tb_start
    exact fun g'' l' hM => ⟨R, rfl, q, hM _ (.head _), hq.mono l'⟩
theorem pathMore {k : Nat} {D C B b : Addr} {nm : Str} {tvs mro : List Addr} {hd : List Ty} {p : Option (List Addr)} (hD : Cl g D) (hC : ClsA g C nm tvs [b] mro) (hb : TyR g b (.inst B hd)) (hne : B ≠ D) (hz : ∀ q, p = some q → q.length ≤ 99)
    (ih : ∀ g', Le g g' → Pu prog w (KP w.params) (k + 3) (call (.ref 505) [.ref B, .ref D]) (fun r g' => ∃ l, r = .ref l ∧ PathsAt g' l p) g') :
    Pu prog w (KP w.params) (k + 4) (call (.ref 505) [.ref C, .ref D]) (fun r g' => ∃ l, r = .ref l ∧ PathsAt g' l (p.map (B :: ·))) g := by
  cases hb with
  | @inst _ eb _ ab _ Ib cb eb1 ab1 zb =>
  obtain ⟨t0, dd, tvl, nml, bl, ml, names, o1, o2, o3, o4, o5, o6, o7⟩ := hC.obj
  refine Fn.defM (f := 505) (n := (k + 3)) (binds := [("typ", .ref C), ("supertype", .ref D)]) rfl ⟨rfl, rfl, rfl, rfl, rfl, rfl, by kernel_rfl, by decide +kernel, by kernel_rfl⟩ rfl (fun s X => BindsTo.of_eq rfl) rfl fun c O W hS => ?_
  dsimp only [ofBinds, List.foldl_cons, List.foldl_nil] at hS ⊢
  tb_start
  refine T.newList (by simp) fun R => ?_
  tb_start
  refine T.for_ O W hS (fun _ => rfl) ?_
  tb_start
  refine Seqs.list O o6 ⟨fun j g' ρ' M => ρ' "result" = some (.ref R) ∧ ρ' "supertype" = some (.ref D) ∧ (j = 0 → M = [(R, .list [])]) ∧ (j = 1 → match p with | none => M = [(R, .list [])] | some p => ∃ q, M = [(R, .list [.ref q])] ∧ Lst g' q ((B :: p).map .ref)),
    ⟨by k_subL, by k_subL, fun _ => rfl, fun e => by cases e⟩, ?_, ?_⟩
  · rintro c' O' W' hS' j v g' ρ' M hj hv l ⟨v1, v2, m0, _⟩
    have hj0 : j = 0 := by simpa using hj
    subst hj0
    have hv' : v = .ref b := by simpa using hv.symm
    subst hv'
    have hM := m0 rfl
    subst hM
    have Ib' := Ib.mono l
    obtain ⟨dB, hdB⟩ := cb.mono l
    obtain ⟨dD, hdD⟩ := hD.mono l
    refine T.assign_stored ?_
    tb_start
    refine T.isRef hdB hdD (fun _ q => nomatch q) (fun _ q => nomatch q) ?_
    rw [decide_eq_false hne]
    tb_start
    refine T.for_ O' W' hS' (fun _ => rfl) ?_
    tb_start
    refine T.pu O' (ih _ l) (by omega) fun r g1 l1 ⟨il, q1, q2⟩ => ?_
    subst q1
    cases p with
    | none =>
      refine Seqs.list O' q2 ⟨fun j g' ρ' M => ρ' "result" = some (.ref R) ∧ ρ' "supertype" = some (.ref D) ∧ M = [(R, .list [])], ⟨by k_subL, by k_subL, rfl⟩, ?_, ?_⟩
      · rintro c2 O2 W2 hS2 j v g' ρ' M hj
        exact absurd hj (Nat.not_lt_zero _)
      · rintro g2 ρ2 M2 l2 ⟨u1, u2, rfl⟩
        refine ExecK.next ?_
        tb_start
        exact ⟨u1, u2, (fun e => by cases e), fun _ => rfl⟩
    | some p =>
      obtain ⟨qq, q3, q4⟩ := q2
      have hzp := hz p rfl
      refine Seqs.list O' q3 ⟨fun j g' ρ' M => ρ' "result" = some (.ref R) ∧ ρ' "supertype" = some (.ref D) ∧ ρ' "btype" = some (.ref B) ∧ (j = 0 → M = [(R, .list [])]) ∧ (j = 1 → ∃ q, M = [(R, .list [.ref q])] ∧ Lst g' q ((B :: p).map .ref)),
        ⟨by k_subL, by k_subL, by k_subL, fun _ => rfl, fun e => by cases e⟩, ?_, ?_⟩
      · rintro c2 O2 W2 hS2 j v g2 ρ2 M2 hj hv l2 ⟨u1, u2, u3, n0, _⟩
        have hj0 : j = 0 := by simpa using hj
        subst hj0
        have hv' : v = .ref qq := by simpa using hv.symm
        subst hv'
        have hM := n0 rfl
        subst hM
        have q5 := q4.mono l2
        refine T.assign_stored ?_
        tb_start
        refine T.methodL (.inr (.head _)) F.slot_list_append F.type_list_append ?_
        tb_start
        refine T.newListF (by simp) fun a1 ha1 => ?_
        tb_start
        refine T.addL (.inl setG_self) (.inl (q5.mono (Le.setG ha1))) (by simp; omega) fun a2 ha2 => ?_
        tb_start
        refine T.appendL (pre := []) O2 (by simp) ?_
        tb_start
        refine ⟨rfl, ?_⟩
        tb_start
        exact ⟨by k_subL, by k_subL, by k_subL, (fun e => by cases e), fun _ => ⟨a2, rfl, setG_self⟩⟩
      · rintro g2 ρ2 M2 l2 ⟨u1, u2, u3, _, n1⟩
        obtain ⟨q, rfl, hq⟩ := n1 rfl
        refine ExecK.next ?_
        tb_start
        exact ⟨u1, u2, (fun e => by cases e), fun _ => ⟨q, rfl, hq⟩⟩
  · rintro g' ρ' M l ⟨v1, v2, _, m1⟩
    refine ExecK.next ?_
    cases p with
    | none =>
      have hM := m1 rfl
      subst hM
      tb_start
      exact fun g'' l' hM => ⟨R, rfl, hM _ (.head _)⟩
    | some p =>
      obtain ⟨q, rfl, hq⟩ := m1 rfl
      tb_start
      exact fun g'' l' hM => ⟨R, rfl, q, hM _ (.head _), hq.mono l'⟩
theorem pathsOf {D : Addr} : ∀ (n : Nat) {g : G} {C : Addr} {p : Option (List Addr)}, Cl g D → Pth g D n C p → (∀ q, p = some q → q.length ≤ 99) →
    Pu prog w (KP w.params) (n + 3) (call (.ref 505) [.ref C, .ref D]) (fun r g' => ∃ l, r = .ref l ∧ PathsAt g' l p) g := by
  intro n
  induction n with
  | zero =>
    intro g C p hD h hz
    cases h with
    | none hC =>
      obtain ⟨t0, dd, tvl, nml, bl, ml, names, o1, o2, o3, o4, o5, o6, o7⟩ := hC.obj
      refine Fn.defM (f := 505) (n := 2) (binds := [("typ", .ref C), ("supertype", .ref D)]) rfl ⟨rfl, rfl, rfl, rfl, rfl, rfl, by kernel_rfl, by decide +kernel, by kernel_rfl⟩ rfl (fun s X => BindsTo.of_eq rfl) rfl fun c O W hS => ?_
      dsimp only [ofBinds, List.foldl_cons, List.foldl_nil] at hS ⊢
      tb_start
      refine T.newList (by simp) fun R => ?_
      tb_start
      refine T.for_ O W hS (fun _ => rfl) ?_
      tb_start
      refine Seqs.list O o6 ⟨fun j g' ρ' M => ρ' "result" = some (.ref R) ∧ M = [(R, .list [])], ⟨by k_subL, rfl⟩, ?_, ?_⟩
      · rintro c' O' W' hS' j v g' ρ' M hj
        exact absurd hj (Nat.not_lt_zero _)
      · rintro g' ρ' M l ⟨v1, rfl⟩
        refine ExecK.next ?_
        tb_start
        exact fun g'' l' hM => ⟨R, rfl, hM _ (.head _)⟩
    | one hC hb => exact (pathOne hC hb).of_room (by omega)
  | succ n ih =>
    intro g C p hD h hz
    cases h with
    | one hC hb => exact (pathOne hC hb).of_room (by omega)
    | more hC hb hne hp =>
      rename_i p
      have hz' : ∀ q, p = some q → q.length ≤ 99 := fun q e => by
        have := hz (_ :: q) (by rw [e]; rfl)
        simp at this; omega
      exact pathMore hD hC hb hne hz' fun g' l => ih (hD.mono l) (hp.mono l) hz'

end
section
variable {prog : Program} {w : World} {g : G} {n : Nat}
/-- what a type of a class becomes on a path up -/
inductive Walkp (g : G) (k : Nat) : Addr → List Ty → List Addr → Addr → List Ty → Prop
  | nil {C : Addr} {ts : List Ty} : Walkp g k C ts [] C ts
  | cons {C B b D : Addr} {nm : Str} {tvs mro p : List Addr} {hd ts us : List Ty} {ds : List (Addr × Int)} : ClsA g C nm tvs [b] mro → TyR g b (.inst B hd) → Binds g tvs ds → ts.length = tvs.length → inDoms (sig ds ts) hd = true → depths hd < k →
      Walkp g k B (substs (sig ds ts) hd) p D us → Walkp g k C ts (B :: p) D us
theorem Walkp.mono {g g' : G} {k : Nat} (l : Le g g') {C D : Addr} {ts us : List Ty} {p : List Addr} (h : Walkp g k C ts p D us) : Walkp g' k C ts p D us := by
  induction h with
  | nil => exact .nil
  | cons a b c d e f _ ih => exact .cons (a.mono l) (b.mono l) (c.mono l) d e f ih
theorem upPath {k m : Nat} {x C D C0 : Addr} {ts us : List Ty} {p : List Addr} (hx : TyR g x (.inst C ts)) (hD : Cl g D) (hP : Pth g D m C (some p)) (hW : Walkp g k C ts p C0 us) (hz : p.length ≤ 99) (hm : m ≤ 99) :
    Pu prog w (KP w.params) (3 * k + 120) (call (.ref 498) [.ref x, .ref D]) (fun r g' => ∃ l y, r = .ref l ∧ Lst g' l [.ref y] ∧ TyR g' y (.inst C0 us)) g := by
  have hx' := hx
  cases hx' with
  | @inst _ e _ as _ I c1 e1 a1 z1 =>
  refine Fn.defM (f := 498) (n := (3 * k + 119)) (binds := [("instance", .ref x), ("supertype", .ref D)]) rfl ⟨rfl, rfl, rfl, rfl, rfl, rfl, by kernel_rfl, by decide +kernel, by kernel_rfl⟩ rfl (fun s X => BindsTo.of_eq rfl) rfl fun c O W hS => ?_
  dsimp only [ofBinds, List.foldl_cons, List.foldl_nil] at hS ⊢
  tb_start
  refine T.newList (by simp) fun R => ?_
  tb_start
  refine T.for_ O W hS (fun _ => rfl) ?_
  tb_start
  refine T.pu O (pathsOf m hD hP (fun q e => by cases e; exact hz)) (by omega) fun r g1 l1 ⟨pl, q1, qq, q2, q3⟩ => ?_
  subst q1
  have hx1 := hx.mono l1
  have hW1 := hW.mono l1
  refine Seqs.list O q2 ⟨fun j g' ρ' M => ρ' "result" = some (.ref R) ∧ (j = 0 → ρ' "instance" = some (.ref x) ∧ M = [(R, .list [])]) ∧ (j = 1 → ∃ y tl, M = [(tl, .list [.ref y]), (R, .list [.ref y])] ∧ TyR g' y (.inst C0 us)),
    ⟨by k_subL, fun _ => ⟨by k_subL, rfl⟩, fun e => by cases e⟩, ?_, ?_⟩
  · rintro c' O' W' hS' j v g2 ρ2 M2 hj hv l2 ⟨v1, m0, _⟩
    have hj0 : j = 0 := by simpa using hj
    subst hj0
    have hv' : v = .ref qq := by simpa using hv.symm
    subst hv'
    obtain ⟨v2, hM⟩ := m0 rfl
    subst hM
    have q4 := q3.mono l2
    refine T.assign_stored ?_
    tb_start
    refine T.newList (by simp) fun tl => ?_
    tb_start
    refine T.for_ O' W' hS' (fun _ => rfl) ?_
    tb_start
    refine Seqs.list O' q4 ⟨fun i g' ρ' M => ∃ tl y Ci tsi, ρ' "result" = some (.ref R) ∧ ρ' "types" = some (.ref tl) ∧ M = [(tl, .list [.ref y]), (R, .list [])] ∧ TyR g' y (.inst Ci tsi) ∧ Walkp g' k Ci tsi (p.drop i) C0 us,
      ⟨tl, x, C, ts, by k_subL, by k_subL, rfl, hx1.mono l2, hW1.mono l2⟩, ?_, ?_⟩
    · rintro c2 O2 W2 hS2 i v g3 ρ3 M3 hi hv l3 ⟨tl, y, Ci, tsi, u1, u2, rfl, hy, hw⟩
      obtain ⟨B, hB, rfl⟩ := refs_get hv
      have hdrop : p.drop i = B :: p.drop (i + 1) := by
        have hlt := (List.getElem?_eq_some_iff.mp hB).1
        rw [List.drop_eq_getElem_cons hlt, (List.getElem?_eq_some_iff.mp hB).2]
      rw [hdrop] at hw
      cases hw with
      | @cons _ _ b _ nm tvs mro _ hd _ _ ds wC wb wB wl wd wk wn =>
      refine T.freeze0 fun htl => ?_
      have l4 : Le g3 (setG g3 tl (.list [.ref y])) := Le.setG htl
      have S4 : Lst (setG g3 tl (.list [.ref y])) tl [.ref y] := setG_self
      have hy4 := hy.mono l4
      have wC4 := wC.mono l4
      have wb4 := wb.mono l4
      have wB4 := wB.mono l4
      have wn4 := wn.mono l4
      generalize setG g3 tl (.list [.ref y]) = g4 at l4 S4 hy4 wC4 wb4 wB4 wn4
      refine T.assign_stored ?_
      tb_start
      refine T.newList (by simp) fun aa => ?_
      tb_start
      refine T.for_ O2 W2 hS2 (fun _ => rfl) ?_
      tb_start
      refine Seqs.list O2 S4 ⟨fun j g' ρ' M => ρ' "result" = some (.ref R) ∧ ρ' "a" = some (.ref aa) ∧ ρ' "sup" = some (.ref B) ∧ (j = 0 → M = [(aa, .list []), (R, .list [])]) ∧ (j = 1 → ∃ y', M = [(aa, .list [.ref y']), (R, .list [])] ∧ TyR g' y' (.inst B (substs (sig ds tsi) hd))),
        ⟨by k_subL, by k_subL, by k_subL, fun _ => rfl, fun e => by cases e⟩, ?_, ?_⟩
      · rintro c3 O3 W3 hS3 j v g5 ρ5 M5 hj hv5 l5 ⟨z1, z2, z3, n0, _⟩
        have hj0 : j = 0 := by simpa using hj
        subst hj0
        have hv' : v = .ref y := by simpa using hv5.symm
        subst hv'
        have hM := n0 rfl
        subst hM
        refine T.assign_stored ?_
        tb_start
        refine T.methodL (.inr (.head _)) F.slot_list_extend F.type_list_extend ?_
        tb_start
        refine T.pu O3 (mapDirect wk (wb4.mono l5) (hy4.mono l5) (wC4.mono l5) (wB4.mono l5) wl wd) (by omega) fun r g6 l6 ⟨ll, y', r1, r2, r3⟩ => ?_
        subst r1
        tb_start
        refine T.extendL (pre := []) O3 (.inl r2) (by simp) ?_
        tb_start
        refine ⟨rfl, ?_⟩
        tb_start
        exact ⟨by k_subL, by k_subL, by k_subL, (fun e => by cases e), fun _ => ⟨y', rfl, r3⟩⟩
      · rintro g5 ρ5 M5 l5 ⟨z1, z2, z3, _, n1⟩
        obtain ⟨y', rfl, hy'⟩ := n1 rfl
        refine ExecK.next ?_
        tb_start
        exact ⟨aa, y', B, _, by k_subL, by k_subL, rfl, hy', wn4.mono l5⟩
    · rintro g3 ρ3 M3 l3 ⟨tl, y, Ci, tsi, u1, u2, rfl, hy, hw⟩
      rw [List.length_map, List.drop_length] at hw
      cases hw with
      | nil =>
      refine ExecK.next ?_
      tb_start
      refine T.methodL (.inr (.tail _ (.head _))) F.slot_list_extend F.type_list_extend ?_
      tb_start
      refine T.extendL (pre := [(tl, .list [.ref y])]) (post := []) O' (.inr (.head _)) (by simp) ?_
      tb_start
      refine ⟨rfl, ?_⟩
      tb_start
      exact ⟨by k_subL, (fun e => by cases e), fun _ => ⟨y, tl, rfl, hy⟩⟩
  · rintro g2 ρ2 M2 l2 ⟨v1, _, m1⟩
    obtain ⟨y, tl, rfl, hy⟩ := m1 rfl
    refine ExecK.next ?_
    tb_start
    refine T.truthyL (.inr (.tail _ (.head _))) (by simp) ?_
    refine IfK.t ?_
    tb_start
    exact fun g'' l' hM => ⟨R, y, rfl, hM _ (.tail _ (.head _)), hy.mono l'⟩

end
section
variable {prog : Program} {w : World} {g : G} {n : Nat}
theorem ClsA.cl {C : Addr} {nm : Str} {tvs bs mro : List Addr} (h : ClsA g C nm tvs bs mro) : Cl g C := let ⟨_, _, _, _, _, _, _, ⟨d, e, _⟩, _⟩ := h.obj; ⟨d, e⟩
theorem mapSelf {x C : Addr} {ts : List Ty} (hx : TyR g x (.inst C ts)) : Pu prog w (KP w.params) 3 (call (.ref 491) [.ref x, .ref C]) (fun r g' => r = .ref x ∧ g' = g) g := by
  cases hx with
  | @inst _ e _ as _ I c1 e1 a1 z1 =>
  obtain ⟨dC, hdC⟩ := c1
  refine Fn.def (f := 491) (n := 2) (binds := [("instance", .ref x), ("superclass", .ref C)]) rfl ⟨rfl, rfl, rfl, rfl, rfl, rfl, by kernel_rfl, by decide +kernel, by kernel_rfl⟩ rfl (fun s X => BindsTo.of_eq rfl) rfl fun c O W hS => ?_
  dsimp only [ofBinds, List.foldl_cons, List.foldl_nil] at hS ⊢
  tb_start
  refine T.isRef hdC hdC (fun _ q => nomatch q) (fun _ q => nomatch q) ?_
  rw [decide_eq_true rfl]
  tb_start
  exact ⟨rfl, rfl⟩
theorem mapBare {x C D : Addr} {ts : List Ty} {nm : Str} {bs mro : List Addr} (hx : TyR g x (.inst C ts)) (hD : ClsA g D nm [] bs mro) (hne : C ≠ D) :
    Pu prog w (KP w.params) 9 (call (.ref 491) [.ref x, .ref D]) (fun r g' => ∃ y, r = .ref y ∧ TyR g' y (.inst D [])) g := by
  cases hx with
  | @inst _ e _ as _ I c1 e1 a1 z1 =>
  obtain ⟨dC, hdC⟩ := c1
  obtain ⟨dD, hdD⟩ := hD.cl
  obtain ⟨t0, dd, tvl, nml, bl, ml, names, o1, o2, o3, o4, o5, o6, o7⟩ := hD.obj
  have hn : names = [] := List.eq_nil_of_length_eq_zero (by simpa using o5)
  subst hn
  refine Fn.def (f := 491) (n := 8) (binds := [("instance", .ref x), ("superclass", .ref D)]) rfl ⟨rfl, rfl, rfl, rfl, rfl, rfl, by kernel_rfl, by decide +kernel, by kernel_rfl⟩ rfl (fun s X => BindsTo.of_eq rfl) rfl fun c O W hS => ?_
  dsimp only [ofBinds, List.foldl_cons, List.foldl_nil] at hS ⊢
  tb_start
  refine T.isRef hdC hdD (fun _ q => nomatch q) (fun _ q => nomatch q) ?_
  rw [decide_eq_false hne]
  tb_start
  refine T.truthyL (.inl o4) (by simp) ?_
  tb_start
  refine T.newListF (by simp) fun a ha => ?_
  tb_start
  refine T.pu O (mk_Instance (vs := []) setG_self (by simp)) (by omega) fun r g' l ⟨y, e', q1, q2, q3⟩ => ?_
  tb_start
  exact ⟨y, q1, .inst (as := []) q2 (hD.cl.mono ((Le.setG ha).trans l)) q3 .nil (by simp)⟩
theorem mapUp {k m : Nat} {x C D : Addr} {nm : Str} {tvs bs mro : List Addr} {ts us : List Ty} {p : List Addr} (hx : TyR g x (.inst C ts)) (hD : ClsA g D nm tvs bs mro) (hv : tvs ≠ []) (hne : C ≠ D) (hP : Pth g D m C (some p)) (hW : Walkp g k C ts p D us) (hz : p.length ≤ 99) (hm : m ≤ 99) :
    Pu prog w (KP w.params) (3 * k + 121) (call (.ref 491) [.ref x, .ref D]) (fun r g' => ∃ y, r = .ref y ∧ TyR g' y (.inst D us)) g := by
  have hx' := hx
  cases hx' with
  | @inst _ e _ as _ I c1 e1 a1 z1 =>
  obtain ⟨dC, hdC⟩ := c1
  obtain ⟨dD, hdD⟩ := hD.cl
  obtain ⟨t0, dd, tvl, nml, bl, ml, names, o1, o2, o3, o4, o5, o6, o7⟩ := hD.obj
  refine Fn.def (f := 491) (n := (3 * k + 120)) (binds := [("instance", .ref x), ("superclass", .ref D)]) rfl ⟨rfl, rfl, rfl, rfl, rfl, rfl, by kernel_rfl, by decide +kernel, by kernel_rfl⟩ rfl (fun s X => BindsTo.of_eq rfl) rfl fun c O W hS => ?_
  dsimp only [ofBinds, List.foldl_cons, List.foldl_nil] at hS ⊢
  tb_start
  refine T.isRef hdC hdD (fun _ q => nomatch q) (fun _ q => nomatch q) ?_
  rw [decide_eq_false hne]
  tb_start
  refine T.truthyL (.inl o4) (by have := hD.few.1; omega) ?_
  have hn : (!names.isEmpty) = true := by cases names with
    | nil => exact absurd (List.eq_nil_of_length_eq_zero (by simpa using o5.symm)) hv
    | cons => rfl
  rw [hn]
  tb_start
  refine T.pu O (upPath hx ⟨dD, hdD⟩ hP hW hz hm) (by omega) fun r g' l ⟨ll, y, q1, q2, q3⟩ => ?_
  subst q1
  tb_start
  refine T.itemL (.inl q2) (by decide) (by decide) rfl (by rfl) ?_
  tb_start
  exact ⟨y, rfl, q3⟩

end
section
variable {prog : Program} {w : World} {g : G} {n : Nat}
/-- the names along an mro -/
def MroN (g : G) (mro : List Addr) (nms : List Str) : Prop := mro.length = nms.length ∧ ∀ (j : Nat) (c : Addr) (nm : Str), mro[j]? = some c → nms[j]? = some nm → ∃ tvs bs m, ClsA g c nm tvs bs m
theorem MroN.mono {g g' : G} {mro : List Addr} {nms : List Str} (h : MroN g mro nms) (l : Le g g') : MroN g' mro nms := ⟨h.1, fun j c nm a b => let ⟨x, y, z, q⟩ := h.2 j c nm a b; ⟨x, y, z, q.mono l⟩⟩
theorem hasBase {C : Addr} {nm fn : Str} {t : Tok} {tvs bs mro : List Addr} {nms : List Str} (hC : ClsA g C nm tvs bs mro) (hM : MroN g mro nms) :
    Pu prog w (KP w.params) 3 (call (.ref 61) [.ref C, .str fn t]) (fun r g' => r = .bool (nms.any (· == fn))) g := by
  obtain ⟨t0, dd, tvl, nml, bl, ml, names, o1, o2, o3, o4, o5, o6, o7⟩ := hC.obj
  refine Fn.def (f := 61) (n := 2) (binds := [("self", .ref C), ("fullname", .str fn t)]) rfl ⟨rfl, rfl, rfl, rfl, rfl, rfl, by kernel_rfl, by decide +kernel, by kernel_rfl⟩ rfl (fun s X => BindsTo.of_eq rfl) rfl fun c O W hS => ?_
  dsimp only [ofBinds, List.foldl_cons, List.foldl_nil] at hS ⊢
  tb_start
  refine T.for_ O W hS (fun _ => rfl) ?_
  tb_start
  refine Seqs.list O o7 ⟨fun j g' ρ' M => ρ' "fullname" = some (.str fn t) ∧ (nms.take j).any (· == fn) = false, ⟨by k_subL, by simp⟩, ?_, ?_⟩
  · rintro c' O' W' hS' j v g' ρ' M hj hv l ⟨v1, ha⟩
    obtain ⟨c, hc, rfl⟩ := refs_get hv
    have hjl : j < nms.length := by rw [← hM.1]; exact (List.getElem?_eq_some_iff.mp hc).1
    obtain ⟨tvs', bs', m', hc'⟩ := (hM.mono l).2 j c nms[j] hc (List.getElem?_eq_getElem hjl)
    obtain ⟨t0', dd', tvl', nml', bl', ml', names', p1, p2, p3, p4, p5, p6, p7⟩ := hc'.obj
    have htake : (nms.take (j + 1)).any (· == fn) = (nms[j] == fn) := by
      rw [List.take_add_one, List.getElem?_eq_getElem hjl, List.any_append, ha]; simp
    have hall : (nms[j] == fn) = true → nms.any (· == fn) = true := fun q => List.any_eq_true.mpr ⟨_, List.getElem_mem hjl, q⟩
    generalize nms[j] = nj at p1 htake hall
    refine T.assign_stored ?_
    tb_start
    refine IfK.split (fun q => ?_) fun q => ?_
    · tb_start
      rw [hall q]; rfl
    · tb_start
      exact ⟨by k_subL, by rw [htake, q]⟩
  · rintro g' ρ' M l ⟨v1, ha⟩
    refine ExecK.next ?_
    tb_start
    rw [List.length_map, hM.1, List.take_length] at ha
    show Value.bool false = _
    rw [ha]

end
section
variable {prog : Program} {w : World} {g : G} {n : Nat}
theorem isEquiv {m : Nat} {x y : Value} {b1 b2 : Bool} (h1 : Pu prog w (KP w.params) m (call (.ref 520) [x, y] []) (fun r g' => r = .bool b1) g)
    (h2 : ∀ g', Le g g' → Pu prog w (KP w.params) m (call (.ref 520) [y, x] []) (fun r g' => r = .bool b2) g') :
    Pu prog w (KP w.params) (m + 1) (call (.ref 534) [x, y]) (fun r g' => r = .bool (b1 && b2)) g := by
  refine Fn.def (f := 534) (n := m) (binds := [("a", x), ("b", y)]) rfl ⟨rfl, rfl, rfl, rfl, rfl, rfl, by kernel_rfl, by decide +kernel, by kernel_rfl⟩ rfl (fun s X => BindsTo.of_eq rfl) rfl fun c O W hS => ?_
  dsimp only [ofBinds, List.foldl_cons, List.foldl_nil] at hS ⊢
  tb_start
  refine T.pu O h1 (Nat.le_refl _) fun r g' l q => ?_
  subst q
  tb_start
  refine IfK.split (fun q => ?_) fun q => ?_
  · subst q
    tb_start
    refine T.pu O (h2 g' l) (Nat.le_refl _) fun r g'' l' q => ?_
    tb_start
    exact q
  · subst q
    tb_start
    rfl
def isIntAt (r : Option (Option Value)) (k : Int) : Bool := match r with | some (some (.int i _)) => i == k | _ => false
theorem isIntAt.ex {r : Option (Option Value)} {k : Int} (h : isIntAt r k = true) : ∃ t, r = some (some (.int k t)) := by
  unfold isIntAt at h
  split at h
  · rename_i i t; have := beq_iff_eq.mp h; subst this; exact ⟨t, rfl⟩
  · cases h
theorem gl_INVARIANT (P : Params) : ∃ t, nsIn (KP P) mainGlobals "INVARIANT" = some (some (.int 0 t)) := isIntAt.ex (by kernel_rfl)
theorem gl_COVARIANT (P : Params) : ∃ t, nsIn (KP P) mainGlobals "COVARIANT" = some (some (.int 1 t)) := isIntAt.ex (by kernel_rfl)
theorem gl_CONTRAVARIANT (P : Params) : ∃ t, nsIn (KP P) mainGlobals "CONTRAVARIANT" = some (some (.int 2 t)) := isIntAt.ex (by kernel_rfl)
theorem checkInv {m : Nat} {x y : Addr} {t : Tok} {C e : Addr} {b1 b2 : Bool} (hm : 3 ≤ m) (hx : Inst g x 312 [("type", .ref C), ("args", .ref e)]) (h1 : Pu prog w (KP w.params) m (call (.ref 520) [.ref x, .ref y] []) (fun r g' => r = .bool b1) g)
    (h2 : ∀ g', Le g g' → Pu prog w (KP w.params) m (call (.ref 520) [.ref y, .ref x] []) (fun r g' => r = .bool b2) g') :
    Pu prog w (KP w.params) (m + 2) (call (.ref 551) [.ref x, .ref y, .int 0 t, .bool false]) (fun r g' => r = .bool (b1 && b2)) g := by
  obtain ⟨k0, gi⟩ := gl_INVARIANT w.params
  obtain ⟨k1, gc⟩ := gl_COVARIANT w.params
  obtain ⟨k2, gd⟩ := gl_CONTRAVARIANT w.params
  refine Fn.def (f := 551) (n := (m + 1)) (binds := [("left", .ref x), ("right", .ref y), ("variance", .int 0 t), ("proper_subtype", .bool false)]) rfl ⟨rfl, rfl, rfl, rfl, rfl, rfl, by kernel_rfl, by decide +kernel, by kernel_rfl⟩ rfl (fun s X => BindsTo.of_eq rfl) rfl fun c O W hS => ?_
  dsimp only [ofBinds, List.foldl_cons, List.foldl_nil] at hS ⊢
  tb_start
  refine T.glob O hS gi (by kernel_rfl) (by kernel_rfl) ?_
  tb_start
  refine T.glob O hS gc (by kernel_rfl) (by kernel_rfl) ?_
  tb_start
  refine T.glob O hS gd (by kernel_rfl) (by kernel_rfl) ?_
  tb_start
  refine T.pu O (isEquiv h1 h2) (by omega) fun r g' l q => ?_
  tb_start
  exact q

end
section
variable {prog : Program} {w : World} {g : G} {n : Nat}
theorem isSub {m k : Nat} {x y : Addr} {s t : Ty} {b : Bool} (hk : s.depth ≤ k) (hm : 6 * k + 2 ≤ m) (hc : s.closed = true) (hc' : t.closed = true) (hx : TyR g x s) (hy : TyR g y t)
    (h : s ≠ t → Pu prog w (KP w.params) m (call (.ref 544) [.ref x, .ref y, .bool false] []) (fun r g' => r = .bool b) g) :
    Pu prog w (KP w.params) (m + 1) (call (.ref 520) [.ref x, .ref y]) (fun r g' => r = .bool (decide (s = t) || b)) g := by
  refine Fn.def (f := 520) (n := m) (binds := [("left", .ref x), ("right", .ref y), ("proper_subtype", .bool false)]) rfl ⟨rfl, rfl, rfl, rfl, rfl, rfl, by kernel_rfl, by decide +kernel, by kernel_rfl⟩ rfl (fun s X => binds_K X rfl rfl rfl rfl rfl) rfl fun c O W hS => ?_
  dsimp only [ofBinds, List.foldl_cons, List.foldl_nil] at hS ⊢
  tb_start
  refine T.pu_same O (eqTy k hk hc hc' hx hy) hm ?_
  tb_start
  refine IfK.split (fun q => ?_) fun q => ?_
  · tb_start
    rw [q]; rfl
  · tb_start
    refine T.pu O (h (of_decide_eq_false q)) (Nat.le_refl _) fun r g' l e => ?_
    tb_start
    rw [q]; exact e
theorem isSub_ {m : Nat} {x y : Addr} {C D e f : Addr} {b : Bool} (hm : 5 ≤ m) (hx : Inst g x 312 [("type", .ref C), ("args", .ref e)]) (hy : Inst g y 312 [("type", .ref D), ("args", .ref f)])
    (h : ∀ g' V, Le g g' → Inst g' V 615 [("right", .ref y), ("proper_subtype", .bool false)] → Pu prog w (KP w.params) m (call (.ref 600) [.ref V, .ref x] []) (fun r g' => r = .bool b) g') :
    Pu prog w (KP w.params) (m + 2) (call (.ref 544) [.ref x, .ref y, .bool false]) (fun r g' => r = .bool b) g := by
  have acc : ∀ g' V, Le g g' → Inst g' V 615 [("right", .ref y), ("proper_subtype", .bool false)] → Pu prog w (KP w.params) (m + 1) (call (.ref 295) [.ref x, .ref V] []) (fun r g' => r = .bool b) g' := by
    intro g' V l hV
    have hx' := hx.mono l
    refine Fn.def (f := 295) (n := m) (binds := [("self", .ref x), ("visitor", .ref V)]) rfl ⟨rfl, rfl, rfl, rfl, rfl, rfl, by kernel_rfl, by decide +kernel, by kernel_rfl⟩ rfl (fun s X => BindsTo.of_eq rfl) rfl fun c O W hS => ?_
    dsimp only [ofBinds, List.foldl_cons, List.foldl_nil] at hS ⊢
    tb_start
    refine T.pu O (h g' V l hV) (Nat.le_refl _) fun r g2 l2 q => ?_
    tb_start
    exact q
  refine Fn.def (f := 544) (n := (m + 1)) (binds := [("left", .ref x), ("right", .ref y), ("proper_subtype", .bool false)]) rfl ⟨rfl, rfl, rfl, rfl, rfl, rfl, by kernel_rfl, by decide +kernel, by kernel_rfl⟩ rfl (fun s X => BindsTo.of_eq rfl) rfl fun c O W hS => ?_
  dsimp only [ofBinds, List.foldl_cons, List.foldl_nil] at hS ⊢
  tb_start
  refine T.pu O mk_SubtypeVisitor (by omega) fun r g' l ⟨V, q1, q2⟩ => ?_
  subst q1
  tb_start
  refine T.pu O (acc g' V l q2) (Nat.le_refl _) fun r g2 l2 q => ?_
  tb_start
  exact q

end
section
variable {prog : Program} {w : World} {g : G} {n : Nat}
theorem visitNo {V x y C D e f : Addr} {nmC nmD : Str} {tvs bs mro tvs' bs' mro' : List Addr} {nms : List Str} (hV : Inst g V 615 [("right", .ref y), ("proper_subtype", .bool false)]) (hx : Inst g x 312 [("type", .ref C), ("args", .ref e)]) (hy : Inst g y 312 [("type", .ref D), ("args", .ref f)])
    (hC : ClsA g C nmC tvs bs mro) (hM : MroN g mro nms) (hD : ClsA g D nmD tvs' bs' mro') (hn : nms.any (· == nmD) = false) :
    Pu prog w (KP w.params) 5 (call (.ref 600) [.ref V, .ref x]) (fun r g' => r = .bool false) g := by
  obtain ⟨t0, dd, tvl, nml, bl, ml, names, o1, o2, o3, o4, o5, o6, o7⟩ := hC.obj
  obtain ⟨t0', dd', tvl', nml', bl', ml', names', p1, p2, p3, p4, p5, p6, p7⟩ := hD.obj
  refine Fn.def (f := 600) (n := 4) (binds := [("self", .ref V), ("left", .ref x)]) rfl ⟨rfl, rfl, rfl, rfl, rfl, rfl, by kernel_rfl, by decide +kernel, by kernel_rfl⟩ rfl (fun s X => BindsTo.of_eq rfl) rfl fun c O W hS => ?_
  dsimp only [ofBinds, List.foldl_cons, List.foldl_nil] at hS ⊢
  tb_start
  refine T.pu O (hasBase hC hM) (by omega) fun r g' l q => ?_
  subst q
  tb_start
  rw [hn]
  refine IfK.f ?_
  tb_start
  rfl
/-- the variables of a class go neither up nor down -/
def InvV (g : G) (tvs : List Addr) : Prop := ∀ (j : Nat) (tv : Addr), tvs[j]? = some tv → ∃ nm t0 d ub vl t1, Inst g tv 204 [("name", .str nm t0), ("id", .ref d), ("upper_bound", .ref ub), ("values", .ref vl), ("variance", .int 0 t1)]
theorem InvV.mono {g g' : G} {tvs : List Addr} (h : InvV g tvs) (l : Le g g') : InvV g' tvs := fun j tv e => let ⟨nm, t0, d, ub, vl, t1, i⟩ := h j tv e; ⟨nm, t0, d, ub, vl, t1, i.mono l⟩
theorem visitYes {m : Nat} {V x y C D : Addr} {ec : Addr} {nmC nmD : Str} {tvs bs mro tvs' bs' mro' : List Addr} {nms : List Str} {us ws : List Ty} {e : Nat → Bool} (hm : 5 ≤ m) (hV : Inst g V 615 [("right", .ref y), ("proper_subtype", .bool false)]) (hx : Inst g x 312 [("type", .ref C), ("args", .ref ec)]) (hy : TyR g y (.inst D ws))
    (hC : ClsA g C nmC tvs bs mro) (hM : MroN g mro nms) (hD : ClsA g D nmD tvs' bs' mro') (hn : nms.any (· == nmD) = true) (hI : InvV g tvs') (hl1 : us.length = tvs'.length) (hl2 : ws.length = tvs'.length)
    (hmap : ∀ g', Le g g' → Pu prog w (KP w.params) m (call (.ref 491) [.ref x, .ref D]) (fun r g' => ∃ y, r = .ref y ∧ TyR g' y (.inst D us)) g')
    (heq : ∀ g' (j : Nat) (a b : Addr) (t : Tok) (u v : Ty), Le g g' → us[j]? = some u → ws[j]? = some v → TyR g' a u → TyR g' b v → Pu prog w (KP w.params) m (call (.ref 551) [.ref a, .ref b, .int 0 t, .bool false]) (fun r g' => r = .bool (e j)) g') :
    Pu prog w (KP w.params) (m + 1) (call (.ref 600) [.ref V, .ref x]) (fun r g' => r = .bool ((List.range tvs'.length).all e)) g := by
  have hy0 := hy
  cases hy0 with
  | @inst _ f _ bs2 _ Iy cy f1 b1 zb =>
  obtain ⟨t0, dd, tvl, nml, bl, ml, names, o1, o2, o3, o4, o5, o6, o7⟩ := hC.obj
  obtain ⟨t0', dd', tvl', nml', bl', ml', names', p1, p2, p3, p4, p5, p6, p7⟩ := hD.obj
  refine Fn.def (f := 600) (n := m) (binds := [("self", .ref V), ("left", .ref x)]) rfl ⟨rfl, rfl, rfl, rfl, rfl, rfl, by kernel_rfl, by decide +kernel, by kernel_rfl⟩ rfl (fun s X => BindsTo.of_eq rfl) rfl fun c O W hS => ?_
  dsimp only [ofBinds, List.foldl_cons, List.foldl_nil] at hS ⊢
  tb_start
  refine T.pu O (hasBase hC hM) (by omega) fun r g1 l1 q => ?_
  subst q
  tb_start
  rw [hn]
  refine IfK.t ?_
  tb_start
  refine T.pu O (hmap g1 l1) (Nat.le_refl _) fun r g2 l2 ⟨y2, q1, q2⟩ => ?_
  subst q1
  have q2' := q2
  cases q2' with
  | @inst _ f2 _ b2 _ I2 c2 f2' bb2 zb2 =>
  have l12 := l1.trans l2
  have Iy2 := Iy.mono l12
  have p1' := p1.mono l12
  have p2' := p2.mono l12
  have p3' := p3.mono l12
  have f1' := f1.mono l12
  have b1' := b1.mono l12
  have hI' := hI.mono l12
  have hV' := hV.mono l12
  tb_start
  refine T.zipTTL f2' f1' p3' fun z TI TO i1 i2 i3 => ?_
  tb_start
  refine T.for_ O W hS (fun _ => rfl) ?_
  tb_start
  refine Seqs.zip (m := tvs'.length) O (fun d hd => ?_) (fun d hd => ?_) (by simp) ⟨fun j g' ρ' M => ρ' "nominal" = some (.bool ((List.range j).all e)) ∧ ρ' "self" = some (.ref V) ∧ M = [], ⟨by show _ = some (Value.bool true); k_subL, by k_subL, rfl⟩, ?_, ?_⟩
  · simp only [List.mem_cons, List.not_mem_nil, or_false] at hd
    rcases hd with rfl | rfl | rfl
    · exact f2'
    · exact f1'
    · exact p3'
  · simp only [List.mem_cons, List.not_mem_nil, or_false] at hd
    rcases hd with rfl | rfl | rfl
    · simp [bb2.length, hl1]
    · simp [b1.length, hl2]
    · simp
  · rintro c' O' W' hS' j v g' ρ' M hj ⟨T0, vals, rfl, hv, hT0⟩ l ⟨v1, v2, rfl⟩
    have hu : j < us.length := by omega
    have hw : j < ws.length := by omega
    have hb2 : j < b2.length := by rw [bb2.length]; exact hu
    have hbs2 : j < bs2.length := by rw [b1.length]; exact hw
    have hvals : vals = [.ref b2[j], .ref bs2[j], .ref tvs'[j]] := by
      have : vals.map some = [some (Value.ref b2[j]), some (.ref bs2[j]), some (.ref tvs'[j])] := by
        rw [hv]; simp [List.getElem?_eq_getElem hj, List.getElem?_eq_getElem hb2, List.getElem?_eq_getElem hbs2]
      exact List.map_inj_right (f := some) (fun _ _ h => Option.some.inj h) |>.mp this
    subst hvals
    have ta := (bb2.get (List.getElem?_eq_getElem hb2) (List.getElem?_eq_getElem hu)).mono l
    have tb := (b1'.get (List.getElem?_eq_getElem hbs2) (List.getElem?_eq_getElem hw)).mono l
    obtain ⟨nm, t3, d, ub, vl, t4, Iv⟩ := (hI'.mono l) j tvs'[j] (List.getElem?_eq_getElem hj)
    have hV2 := hV'.mono l
    generalize tvs'[j] = tv at hT0 Iv
    generalize b2[j] = ba at hT0 ta
    generalize bs2[j] = bb at hT0 tb
    refine T.unpackT O' (.inl hT0) rfl rfl ?_
    refine T.inOrder_cons (T.assign_stored ?_)
    tb_start
    refine T.inOrder_cons (T.assign_stored ?_)
    tb_start
    refine T.inOrder_cons (T.assign_stored ?_)
    tb_start
    refine T.inOrder_nil ?_
    tb_start
    refine T.pu O' (heq g' j ba bb t4 us[j] ws[j] (l12.trans l) (List.getElem?_eq_getElem hu) (List.getElem?_eq_getElem hw) ta tb) (Nat.le_refl _) fun r g5 l5 q => ?_
    subst q
    tb_start
    have hr : (List.range (j + 1)).all e = ((List.range j).all e && e j) := by rw [List.range_succ, List.all_append]; simp
    refine IfK.split (fun q => ?_) fun q => ?_
    · have q' : e j = false := by simpa using q
      tb_start
      exact ⟨by rw [hr, q', Bool.and_false]; k_subL, by k_subL, rfl⟩
    · have q' : e j = true := by simpa using q
      tb_start
      exact ⟨by rw [hr, q', Bool.and_true]; k_subL, by k_subL, rfl⟩
  · rintro g' ρ' M l ⟨v1, v2, rfl⟩
    refine ExecK.next ?_
    tb_start
    rfl

end
section
variable {prog : Program} {w : World} {g : G} {n : Nat}
/-- which classes of a list have bases -/
def FlB (g : G) (mb : List Addr) (fl : Addr → Bool) : Prop := ∀ x ∈ mb, ∃ nm tvs bs m, ClsA g x nm tvs bs m ∧ fl x = !bs.isEmpty
theorem FlB.mono {g g' : G} {mb : List Addr} {fl : Addr → Bool} (h : FlB g mb fl) (l : Le g g') : FlB g' mb fl := fun x hx => let ⟨a, b, c, d, e, f⟩ := h x hx; ⟨a, b, c, d, e.mono l, f⟩
theorem mk_TypeInfo {nm : Str} {t : Tok} {tvl bl : Addr} {tvs bs mb : List Addr} {fl : Addr → Bool} (hT : InvV g tvs) (hl : Lst g tvl (tvs.map .ref)) (hb : Lst g bl (bs.map .ref)) (hz : tvs.length ≤ 9) (hzb : mb.length ≤ 90)
    (hB : (bs = [] ∧ mb = []) ∨ ∃ b B hd nmB tvB bsB, bs = [b] ∧ TyR g b (.inst B hd) ∧ ClsA g B nmB tvB bsB mb) (hnd : mb.Nodup) (hfl : FlB g mb fl) (hmb : mb.filter fl ++ mb.filter (fun x => !fl x) = mb) :
    Pu prog w (KP w.params) 10 (call (.ref 64) [.str nm t, .ref tvl, .ref bl] []) (fun r g' => ∃ C, r = .ref C ∧ g C = none ∧ ClsA g' C nm tvs bs (C :: mb)) g := by
  have hbz : bs.length ≤ 1 := by
    rcases hB with ⟨rfl, _⟩ | ⟨b, _, _, _, _, _, rfl, _⟩ <;> simp
  refine Pu.make (n := 8) (fI := 54) (binds := fun x => [("self", .ref x), ("fullname", .str nm t), ("type_vars", .ref tvl), ("bases", .ref bl)]) (mk_64 _) (in_64 _) (ty_54 _) rfl ⟨rfl, rfl, rfl, rfl, rfl, rfl, by kernel_rfl, by decide +kernel, by kernel_rfl⟩ rfl (fun s x X => BindsTo.of_eq rfl) (fun x => rfl) fun x d c O W hS hx hd => ?_
  dsimp only [ofBinds, List.foldl_cons, List.foldl_nil] at hS ⊢
  tb_start
  have lx := Le.setG (m := .inst 64 d) hx
  refine T.pu O mk_ClassDef (by omega) fun r g1 l1 ⟨dd, q1, q2⟩ => ?_
  subst q1
  have l01 := lx.trans l1
  have hxg : g1 x = some (.inst 64 d) := l1 _ _ setG_self
  tb_start
  refine T.lc O hS (by kernel_rfl) (by kernel_rfl) (fun _ => rfl) ?_
  tb_start
  refine Seqs.list O (hl.mono l01) (LcK.map (fun i v g' => True) (fun _ _ _ _ _ _ => trivial) (by kernel_rfl) (by rw [List.length_map]; omega) ?_ ?_)
  · intro D' c' O' hS' i v g' ρ' acc hi hv l hρ
    obtain ⟨a, ha', rfl⟩ := refs_get hv
    obtain ⟨nm0, t0, d0, ub, vl, t1, Iv⟩ := (hT.mono (l01.trans l)) i a ha'
    tb_start
    exact ⟨rfl, trivial⟩
  intro NL names g2 l2 hnl _
  refine T.freeze0 fun hNL => ?_
  have SN : Lst (setG g2 NL (.list names)) NL names := setG_self
  have l3 : Le g2 (setG g2 NL (.list names)) := Le.setG hNL
  have hxg3 := (l2.trans l3) _ _ hxg
  have l03 := l01.trans (l2.trans l3)
  have q3 := q2.mono (l2.trans l3)
  generalize setG g2 NL (.list names) = g3 at SN l3 hxg3 l03 q3
  tb_start
  refine T.newList (by simp) fun ab => ?_
  tb_start
  refine T.for_ O W hS (fun _ => rfl) ?_
  tb_start
  have KV : List (Str × Value) := []
  refine Seqs.list O (hb.mono l03) ⟨fun j g' ρ' M => ρ' "self" = some (.ref x) ∧ ρ' "above" = some (.ref ab) ∧ ∃ kv, kv = [(("fullname" : Str), Value.str nm t), ("defn", .ref dd), ("type_vars", .ref NL), ("bases", .ref bl)] ∧ (j = 0 → M = [(ab, .list []), (d, .sd kv)]) ∧ (j = 1 → M = [(ab, .list (mb.map .ref)), (d, .sd kv)]),
    ⟨by k_subL, by k_subL, _, rfl, fun _ => rfl, fun e => by cases e⟩, ?_, ?_⟩
  · rintro c' O' W' hS' j v g' ρ' M hj hv l ⟨v1, v2, kv, rfl, m0, _⟩
    have hj0 : j = 0 := by rw [List.length_map] at hj; omega
    subst hj0
    have hM := m0 rfl
    subst hM
    rcases hB with ⟨rfl, _⟩ | ⟨b, B, hd, nmB, tvB, bsB, rfl, tb, cB⟩
    · cases hv
    have hv' : v = .ref b := by simpa using hv.symm
    subst hv'
    have l0 := l03.trans l
    have tb' := tb.mono l0
    cases tb' with
    | @inst _ eb _ ab' _ Ib cb eb1 ab1 zb =>
    obtain ⟨t0, dd', tvl', nml, bl', ml, names', o1, o2, o3, o4, o5, o6, o7⟩ := (cB.mono l0).obj
    refine T.assign_stored ?_
    tb_start
    refine T.for_ O' W' hS' (fun _ => rfl) ?_
    tb_start
    refine Seqs.list O' o7 ⟨fun j g' ρ' M => ρ' "self" = some (.ref x) ∧ ρ' "above" = some (.ref ab) ∧ M = [(ab, .list ((mb.take j).map .ref)), (d, .sd [(("fullname" : Str), Value.str nm t), ("defn", .ref dd), ("type_vars", .ref NL), ("bases", .ref bl)])],
      ⟨by k_subL, by k_subL, rfl⟩, ?_, ?_⟩
    · rintro c2 O2 W2 hS2 i v g4 ρ4 M4 hi hv l4 ⟨u1, u2, rfl⟩
      obtain ⟨c0, hc0, rfl⟩ := refs_get hv
      have hiz := (List.getElem?_eq_some_iff.mp hc0).1
      refine T.assign_stored ?_
      tb_start
      refine T.lend (pre := []) fun hab => ?_
      refine T.lc O2 hS2 (by kernel_rfl) (by kernel_rfl) (fun _ => rfl) ?_
      tb_start
      refine Seqs.list O2 (setG_self : Lst (setG g4 ab (.list ((mb.take i).map .ref))) ab _) (LcK.refs (fun _ => false) (by kernel_rfl) (by rw [List.length_take]; omega) ?_ ?_)
      · intro D3 c3 O3 hS3 a g5 ρ5 acc ha l5 hρ
        have hcls : ρ5 "cls" = some (.ref c0) := (hρ "cls" (by kernel_rfl)).trans (by k_subL)
        have hne : a ≠ c0 := fun q => by
          obtain ⟨m, hm⟩ := List.mem_iff_getElem?.mp ha
          have hmi : m < i := by
            have := (List.getElem?_eq_some_iff.mp hm).1
            rw [List.length_take] at this; omega
          rw [List.getElem?_take_of_lt hmi, q, ← hc0] at hm
          have := (List.getElem?_inj (by have := (List.getElem?_eq_some_iff.mp hc0).1; omega) hnd).mp hm
          omega
        have l05 : Le g g5 := (l0.trans l4).trans ((Le.setG hab).trans l5)
        obtain ⟨_, _, _, _, ca, _⟩ := (hfl.mono l05) a (List.mem_of_mem_take ha)
        obtain ⟨_, _, _, _, cc, _⟩ := (hfl.mono l05) c0 (List.mem_of_getElem? hc0)
        obtain ⟨da, hda⟩ := ca.cl
        obtain ⟨dc, hdc⟩ := cc.cl
        tb_start
        refine T.isRef hda hdc (fun _ q => nomatch q) (fun _ q => nomatch q) ?_
        rw [decide_eq_false hne]
        tb_start
        exact ⟨rfl, rfl, fun e => nomatch e⟩
      · intro D3 g5 l5
        rw [List.filter_eq_nil_iff.mpr (fun _ _ => Bool.false_ne_true), List.map_nil]
        intro g6 l6 hg6 e6
        refine T.lend (pre := [(ab, _)]) fun hD3 => T.truthyL (.inl setG_self) (by simp) fun g7 l7 hg7 e7 => ?_
        show IfK _ _ _
        have e8 : (mb.take (i + 1)).map Value.ref = (mb.take i).map .ref ++ [.ref c0] := by rw [List.take_add_one, hc0, List.map_append]; rfl
        refine IfK.t (T.drop ?_)
        tb_start
        refine T.methodL (.inr (.head _)) F.slot_list_append F.type_list_append ?_
        tb_start
        refine T.appendL (pre := []) O2 (by rw [List.length_map, List.length_take]; omega) ?_
        tb_start
        refine ⟨rfl, ?_⟩
        tb_start
        exact ⟨by k_subL, by k_subL, by rw [e8]; rfl⟩
    · rintro g4 ρ4 M4 l4 ⟨u1, u2, rfl⟩
      refine ExecK.next ?_
      tb_start
      rw [List.length_map, List.take_length]
      exact ⟨u1, u2, _, rfl, (fun e => by cases e), fun _ => rfl⟩
  · rintro g' ρ' M l ⟨v1, v2, kv, rfl, m0, m1⟩
    have hM : M = [(ab, .list (mb.map .ref)), (d, .sd [(("fullname" : Str), Value.str nm t), ("defn", .ref dd), ("type_vars", .ref NL), ("bases", .ref bl)])] := by
      rcases hB with ⟨rfl, rfl⟩ | ⟨b, B, hd, nmB, tvB, bsB, rfl, tb, cB⟩
      · exact m0 rfl
      · exact m1 rfl
    subst hM
    refine ExecK.next (T.freeze0 fun hab => ?_)
    have SA : Lst (setG g' ab (.list (mb.map .ref))) ab (mb.map .ref) := setG_self
    have l4 : Le g' (setG g' ab (.list (mb.map .ref))) := Le.setG hab
    have l04 := l03.trans (l.trans l4)
    have hxg4 := (l.trans l4) _ _ hxg3
    have SN4 := SN.mono (l.trans l4)
    have q4 := q3.mono (l.trans l4)
    generalize setG g' ab (.list (mb.map .ref)) = g4 at SA l4 l04 hxg4 SN4 q4
    tb_start
    refine T.newListF (by simp) fun L1 hL1 => ?_
    have S1 : Lst (setG g4 L1 (.list [.ref x])) L1 [.ref x] := setG_self
    have l5 : Le g4 (setG g4 L1 (.list [.ref x])) := Le.setG hL1
    have l05 := l04.trans l5
    have SA5 := SA.mono l5
    generalize setG g4 L1 (.list [.ref x]) = g5 at S1 l5 l05 SA5
    tb_start
    refine T.lc O hS (by kernel_rfl) (by kernel_rfl) (fun _ => rfl) ?_
    tb_start
    refine Seqs.list O SA5 (LcK.refs fl (by kernel_rfl) (by omega) ?_ ?_)
    · intro D3 c3 O3 hS3 a g6 ρ6 acc ha l6 hρ
      obtain ⟨_, _, _, _, ca, ef⟩ := (hfl.mono (l05.trans l6)) a ha
      obtain ⟨t0, dd', tvl', nml, bl', ml, names', o1, o2, o3, o4, o5, o6, o7⟩ := ca.obj
      tb_start
      refine T.truthyL (.inl o6) (by have := ca.few; rw [List.length_map]; omega) ?_
      refine ⟨by rw [ef]; simp, rfl, fun _ => ?_⟩
      tb_start
      exact ⟨rfl, rfl⟩
    intro F1 g6 l6
    refine T.freeze0 fun hF1 => ?_
    have S2 : Lst (setG g6 F1 (.list ((mb.filter fl).map .ref))) F1 ((mb.filter fl).map .ref) := setG_self
    have l7 : Le g6 (setG g6 F1 (.list ((mb.filter fl).map .ref))) := Le.setG hF1
    have l57 := l6.trans l7
    generalize setG g6 F1 (.list ((mb.filter fl).map .ref)) = g7 at S2 l7 l57
    refine T.addL (.inl (S1.mono l57)) (.inl S2) (by have := List.length_filter_le fl mb; simp; omega) fun L2 hL2 => ?_
    have S3 : Lst (setG g7 L2 (.list ([.ref x] ++ (mb.filter fl).map .ref))) L2 ([.ref x] ++ (mb.filter fl).map .ref) := setG_self
    have l8 : Le g7 (setG g7 L2 (.list ([.ref x] ++ (mb.filter fl).map .ref))) := Le.setG hL2
    have l58 := l57.trans l8
    generalize setG g7 L2 (.list ([.ref x] ++ (mb.filter fl).map .ref)) = g8 at S3 l8 l58
    refine T.lc O hS (by kernel_rfl) (by kernel_rfl) (fun _ => rfl) ?_
    tb_start
    refine Seqs.list O (SA5.mono l58) (LcK.refs (fun a => !fl a) (by kernel_rfl) (by omega) ?_ ?_)
    · intro D3 c3 O3 hS3 a g9 ρ9 acc ha l9 hρ
      obtain ⟨_, _, _, _, ca, ef⟩ := (hfl.mono ((l05.trans l58).trans l9)) a ha
      obtain ⟨t0, dd', tvl', nml, bl', ml, names', o1, o2, o3, o4, o5, o6, o7⟩ := ca.obj
      tb_start
      refine T.truthyL (.inl o6) (by have := ca.few; rw [List.length_map]; omega) ?_
      refine ⟨by rw [ef]; simp, rfl, fun _ => ?_⟩
      tb_start
      exact ⟨rfl, rfl⟩
    intro F2 g9 l9
    refine T.freeze0 fun hF2 => ?_
    have S4 : Lst (setG g9 F2 (.list ((mb.filter fun a => !fl a).map .ref))) F2 ((mb.filter fun a => !fl a).map .ref) := setG_self
    have l10 : Le g9 (setG g9 F2 (.list ((mb.filter fun a => !fl a).map .ref))) := Le.setG hF2
    have l510 := l58.trans (l9.trans l10)
    have l810 := l9.trans l10
    generalize setG g9 F2 (.list ((mb.filter fun a => !fl a).map .ref)) = g10 at S4 l10 l510 l810
    refine T.addL (.inl (S3.mono l810)) (.inl S4) (by have h1 := List.length_filter_le fl mb; have h2 := List.length_filter_le (fun a => !fl a) mb; simp; omega) fun L3 hL3 => ?_
    have em : ([.ref x] ++ (mb.filter fl).map Value.ref) ++ (mb.filter fun a => !fl a).map .ref = (x :: mb).map .ref := by
      rw [List.append_assoc, ← List.map_append, hmb]; rfl
    rw [em]
    have S5 : Lst (setG g10 L3 (.list ((x :: mb).map .ref))) L3 ((x :: mb).map .ref) := setG_self
    have l11 : Le g10 (setG g10 L3 (.list ((x :: mb).map .ref))) := Le.setG hL3
    have hxg11 := l11 _ _ (l510 _ _ (l5 _ _ hxg4))
    have l411 := l5.trans (l510.trans l11)
    generalize setG g10 L3 (.list ((x :: mb).map .ref)) = g11 at S5 l11 hxg11 l411
    tb_start
    refine ⟨rfl, _, rfl, fun g'' lz I => ⟨x, rfl, hx, ⟨t, dd, tvl, NL, bl, L3, names, I, (q4.mono l411).mono lz, (hl.mono (l04.trans l411)).mono lz, (SN4.mono l411).mono lz, by rw [hnl, List.length_map], (hb.mono (l04.trans l411)).mono lz, S5.mono lz⟩, hz, by omega, by simp; omega⟩⟩

end
section
variable {prog : Program} {w : World} {g : G} {n : Nat}
def isIntCls (r : Option CFound) (k : Int) : Bool := match r with | some (.val (.int i _)) => i == k | _ => false
theorem T.clsInt {c : Cx} {K : Frag} {ρ : Str → Option Value} {M : Mem} {C : Addr} {k : Int} {name : Str} {ex : Bool} {Q : Post Value} (O : c.Ok K n) (hr : readsIn K C (.type "type") = true) (e : isIntCls (findCls K (.ref C) (.type "type") name) k = true) (h : ∀ t, Q (.int k t) g ρ M) :
    T prog w c (getAttr (.ref C) name ex) Q g ρ M := T.tok fun s hA R kk => by
  unfold isIntCls at e
  split at e
  · rename_i i t q
    have := beq_iff_eq.mp e
    subst this
    exact cls_value (hA.wd O).X hr q rfl (kk _ _ (h _))
  · cases e
def AnyI (g : G) (a : Addr) : Prop := ∃ k t, Inst g a 238 [("type_of_any", .int k t), ("source_any", .none)]
theorem AnyI.mono {g g' : G} {a : Addr} (h : AnyI g a) (l : Le g g') : AnyI g' a := let ⟨k, t, i⟩ := h; ⟨k, t, i.mono l⟩
theorem upNone {m : Nat} {x C D : Addr} {nm : Str} {tvs bs mro : List Addr} {ts : List Ty} (hx : TyR g x (.inst C ts)) (hD : ClsA g D nm tvs bs mro) (hv : tvs ≠ []) (hP : Pth g D m C none) (hm : m ≤ 99) :
    Pu prog w (KP w.params) 120 (call (.ref 498) [.ref x, .ref D]) (fun r g' => ∃ l y e any, r = .ref l ∧ Lst g' l [.ref y] ∧ Inst g' y 312 [("type", .ref D), ("args", .ref e)] ∧ Tup g' e (List.replicate tvs.length (.ref any)) ∧ AnyI g' any) g := by
  have hx' := hx
  cases hx' with
  | @inst _ e _ as _ I c1 e1 a1 z1 =>
  obtain ⟨t0, dd, tvl, nml, bl, ml, names, o1, o2, o3, o4, o5, o6, o7⟩ := hD.obj
  refine Fn.def (f := 498) (n := 119) (binds := [("instance", .ref x), ("supertype", .ref D)]) rfl ⟨rfl, rfl, rfl, rfl, rfl, rfl, by kernel_rfl, by decide +kernel, by kernel_rfl⟩ rfl (fun s X => BindsTo.of_eq rfl) rfl fun c O W hS => ?_
  dsimp only [ofBinds, List.foldl_cons, List.foldl_nil] at hS ⊢
  tb_start
  refine T.newList (by simp) fun R => ?_
  tb_start
  refine T.for_ O W hS (fun _ => rfl) ?_
  tb_start
  refine T.pu O (pathsOf m hD.cl hP (fun q e => by cases e)) (by omega) fun r g1 l1 ⟨pl, q1, q2⟩ => ?_
  subst q1
  refine Seqs.list O q2 ⟨fun j g' ρ' M => ρ' "result" = some (.ref R) ∧ ρ' "supertype" = some (.ref D) ∧ M = [(R, .list [])], ⟨by k_subL, by k_subL, rfl⟩, ?_, ?_⟩
  · rintro c2 O2 W2 hS2 j v g' ρ' M hj
    exact absurd hj (Nat.not_lt_zero _)
  rintro g2 ρ2 M2 l2 ⟨u1, u2, rfl⟩
  have l02 := l1.trans l2
  refine ExecK.next ?_
  tb_start
  refine T.truthyL (.inr (.head _)) (by simp) ?_
  refine IfK.f ?_
  tb_start
  refine T.clsInt (k := 5) O (by kernel_rfl) (by kernel_rfl) fun t => ?_
  tb_start
  refine T.pu O mk_AnyType (by omega) fun r g3 l3 ⟨any, q1, q3⟩ => ?_
  subst q1
  have o1' := o1.mono (l02.trans l3)
  tb_start
  refine T.newListF (by simp) fun L1 hL1 => ?_
  have S1 : Lst (setG g3 L1 (.list [.ref any])) L1 [.ref any] := setG_self
  have l4 : Le g3 (setG g3 L1 (.list [.ref any])) := Le.setG hL1
  have o1'' := o1'.mono l4
  have o4' := o4.mono ((l02.trans l3).trans l4)
  have q3' := q3.mono l4
  have hDc := hD.cl.mono ((l02.trans l3).trans l4)
  generalize setG g3 L1 (.list [.ref any]) = g4 at S1 l4 o1'' o4' q3' hDc
  tb_start
  refine T.lenL (.inl o4') (by have := hD.few.1; omega) fun t2 => ?_
  tb_start
  refine T.mulL' (.inl S1) (by have := hD.few.1; simp; omega) (by omega) (by have := hD.few.1; omega) (by simp) fun L2 hL2 => ?_
  have e2 : (List.replicate (names.length : Int).toNat [Value.ref any]).flatten = List.replicate tvs.length (.ref any) := by
    rw [Int.toNat_natCast, o5]
    induction tvs.length with
    | zero => rfl
    | succ k ih => rw [List.replicate_succ, List.flatten_cons, ih]; rfl
  rw [e2]
  have l5 := Le.setG (m := .list (List.replicate tvs.length (Value.ref any))) hL2
  tb_start
  refine T.pu O (mk_Instance setG_self (by have := hD.few.1; simp; omega)) (by omega) fun r g5 l6 ⟨y, e', q4, q5, q6⟩ => ?_
  subst q4
  tb_start
  refine T.newListF (by simp) fun L3 hL3 => ?_
  have l7 := Le.setG (m := .list [Value.ref y]) hL3
  tb_start
  exact ⟨L3, y, e', any, rfl, setG_self, q5.mono l7, q6.mono l7, _, _, q3'.mono (l5.trans (l6.trans l7))⟩
theorem mapNone {m : Nat} {x C D : Addr} {nm : Str} {tvs bs mro : List Addr} {ts : List Ty} (hx : TyR g x (.inst C ts)) (hD : ClsA g D nm tvs bs mro) (hv : tvs ≠ []) (hne : C ≠ D) (hP : Pth g D m C none) (hm : m ≤ 99) :
    Pu prog w (KP w.params) 121 (call (.ref 491) [.ref x, .ref D]) (fun r g' => ∃ y e any, r = .ref y ∧ Inst g' y 312 [("type", .ref D), ("args", .ref e)] ∧ Tup g' e (List.replicate tvs.length (.ref any)) ∧ AnyI g' any) g := by
  have hx' := hx
  cases hx' with
  | @inst _ e _ as _ I c1 e1 a1 z1 =>
  obtain ⟨dC, hdC⟩ := c1
  obtain ⟨dD, hdD⟩ := hD.cl
  obtain ⟨t0, dd, tvl, nml, bl, ml, names, o1, o2, o3, o4, o5, o6, o7⟩ := hD.obj
  refine Fn.def (f := 491) (n := 120) (binds := [("instance", .ref x), ("superclass", .ref D)]) rfl ⟨rfl, rfl, rfl, rfl, rfl, rfl, by kernel_rfl, by decide +kernel, by kernel_rfl⟩ rfl (fun s X => BindsTo.of_eq rfl) rfl fun c O W hS => ?_
  dsimp only [ofBinds, List.foldl_cons, List.foldl_nil] at hS ⊢
  tb_start
  refine T.isRef hdC hdD (fun _ q => nomatch q) (fun _ q => nomatch q) ?_
  rw [decide_eq_false hne]
  tb_start
  refine T.truthyL (.inl o4) (by have := hD.few.1; omega) ?_
  have hn : (!names.isEmpty) = true := by cases names with
    | nil => exact absurd (List.eq_nil_of_length_eq_zero (by simpa using o5.symm)) hv
    | cons => rfl
  rw [hn]
  tb_start
  refine T.pu O (upNone hx hD hv hP hm) (by omega) fun r g' l ⟨ll, y, e, any, q1, q2, q3⟩ => ?_
  subst q1
  tb_start
  refine T.itemL (.inl q2) (by decide) (by decide) rfl (by rfl) ?_
  tb_start
  exact ⟨y, e, any, rfl, q3⟩

end
section
variable {prog : Program} {w : World} {g : G} {n : Nat}
theorem subSame {k : Nat} {x y : Addr} {s : Ty} (hk : s.depth ≤ k) (hc : s.closed = true) (hx : TyR g x s) (hy : TyR g y s) :
    Pu prog w (KP w.params) (6 * k + 3) (call (.ref 520) [.ref x, .ref y] []) (fun r g' => r = .bool true) g :=
  (isSub (b := true) hk (Nat.le_refl _) hc hc hx hy (fun q => absurd rfl q)).mono (Nat.le_refl _) fun r g' _ q => by rw [q]; simp
/-- the class of t is not above that of s -/
structure NotUp (g : G) (C D : Addr) : Prop where
  ne : C ≠ D
  ex : ∃ nmC tvs bs mro nmD tvs' bs' mro' nms, ClsA g C nmC tvs bs mro ∧ MroN g mro nms ∧ ClsA g D nmD tvs' bs' mro' ∧ nms.any (· == nmD) = false
theorem NotUp.mono {g g' : G} {C D : Addr} (h : NotUp g C D) (l : Le g g') : NotUp g' C D := ⟨h.ne, let ⟨a, b, c, d, e, f, i, j, k, p, q, r, s⟩ := h.ex; ⟨a, b, c, d, e, f, i, j, k, p.mono l, q.mono l, r.mono l, s⟩⟩
theorem subNo {k : Nat} {x y C D : Addr} {ts ws : List Ty} (hk : (Ty.inst C ts).depth ≤ k) (hc : (Ty.inst C ts).closed = true) (hc' : (Ty.inst D ws).closed = true) (hx : TyR g x (.inst C ts)) (hy : TyR g y (.inst D ws)) (hN : NotUp g C D) :
    Pu prog w (KP w.params) (6 * k + 11) (call (.ref 520) [.ref x, .ref y] []) (fun r g' => r = .bool false) g := by
  obtain ⟨nmC, tvs, bs, mro, nmD, tvs', bs', mro', nms, h1, h2, h3, h4⟩ := hN.ex
  have hx' := hx
  have hy' := hy
  cases hx' with
  | @inst _ e _ as _ I c1 e1 a1 z1 =>
  cases hy' with
  | @inst _ f _ bs2 _ Iy cy f1 b1 zb =>
  refine (isSub (m := 6 * k + 10) (b := false) hk (by omega) hc hc' hx hy (fun _ => ?_)).mono (Nat.le_refl _) fun r g' _ q => ?_
  · exact (isSub_ (m := 5) (Nat.le_refl _) I Iy fun g' V l hV => visitNo hV (I.mono l) (Iy.mono l) (h1.mono l) (h2.mono l) (h3.mono l) h4).of_room (by omega)
  · rw [q, decide_eq_false (fun e => hN.ne (by injection e))]; rfl
/-- two types that have nothing to do with each other -/
def Apart (g : G) (u v : Ty) : Prop := ∃ C ts D ws, u = .inst C ts ∧ v = .inst D ws ∧ NotUp g C D ∧ NotUp g D C
theorem Apart.mono {g g' : G} {u v : Ty} (h : Apart g u v) (l : Le g g') : Apart g' u v := let ⟨a, b, c, d, e, f, i, j⟩ := h; ⟨a, b, c, d, e, f, i.mono l, j.mono l⟩
theorem checkPair {k : Nat} {x y : Addr} {t : Tok} {u v : Ty} (hu : u.depth ≤ k) (hv : v.depth ≤ k) (cu : u.closed = true) (cv : v.closed = true) (hx : TyR g x u) (hy : TyR g y v) (h : u = v ∨ Apart g u v) :
    Pu prog w (KP w.params) (6 * k + 13) (call (.ref 551) [.ref x, .ref y, .int 0 t, .bool false]) (fun r g' => r = .bool (decide (u = v))) g := by
  have hI : ∃ C e, Inst g x 312 [("type", .ref C), ("args", .ref e)] := by
    cases hx with
    | var => cases cu
    | inst I => exact ⟨_, _, I⟩
  obtain ⟨C0, e0, I0⟩ := hI
  rcases h with rfl | h
  · refine (checkInv (m := 6 * k + 11) (b1 := true) (b2 := true) (by omega) I0 ((subSame hu cu hx hy).of_room (by omega)) fun g' l => (subSame hu cu (hy.mono l) (hx.mono l)).of_room (by omega)).mono (Nat.le_refl _) fun r g' _ q => by rw [q]; simp
  · have h0 := h
    obtain ⟨C, ts, D, ws, rfl, rfl, n1, n2⟩ := h
    refine (checkInv (m := 6 * k + 11) (b1 := false) (b2 := false) (by omega) I0 (subNo hu cu cv hx hy n1) fun g' l => subNo hv cv cu (hy.mono l) (hx.mono l) (n2.mono l)).mono (Nat.le_refl _) fun r g' _ q => ?_
    rw [q, decide_eq_false (fun e => n1.ne (by injection e))]; rfl
theorem subUp {k : Nat} {x y C D : Addr} {nmC nmD : Str} {tvs bs mro tvs' bs' mro' : List Addr} {nms : List Str} {ts us ws : List Ty} (hk : (Ty.inst C ts).depth ≤ k) (hku : depths us ≤ k) (hkw : depths ws ≤ k)
    (hc : (Ty.inst C ts).closed = true) (hcu : closeds us = true) (hcw : closeds ws = true) (hx : TyR g x (.inst C ts)) (hy : TyR g y (.inst D ws))
    (hC : ClsA g C nmC tvs bs mro) (hM : MroN g mro nms) (hD : ClsA g D nmD tvs' bs' mro') (hn : nms.any (· == nmD) = true) (hI : InvV g tvs') (hl1 : us.length = tvs'.length) (hl2 : ws.length = tvs'.length)
    (hmap : ∀ g', Le g g' → Pu prog w (KP w.params) 140 (call (.ref 491) [.ref x, .ref D]) (fun r g' => ∃ y, r = .ref y ∧ TyR g' y (.inst D us)) g')
    (hp : ∀ (j : Nat) (u v : Ty), us[j]? = some u → ws[j]? = some v → u = v ∨ Apart g u v) :
    Pu prog w (KP w.params) (6 * k + 144) (call (.ref 520) [.ref x, .ref y] []) (fun r g' => r = .bool (decide (Ty.inst C ts = .inst D ws) || decide (us = ws))) g := by
  have hx' := hx
  have hy' := hy
  cases hx' with
  | @inst _ e _ as _ I c1 e1 a1 z1 =>
  cases hy' with
  | @inst _ f _ bs2 _ Iy cy f1 b1 zb =>
  refine isSub (m := 6 * k + 143) (b := decide (us = ws)) hk (by omega) hc (by rw [Ty.closed]; exact hcw) hx hy (fun _ => ?_)
  refine isSub_ (m := 6 * k + 141) (by omega) I Iy fun g' V l hV => ?_
  have l0 := l
  refine (visitYes (m := 6 * k + 140) (e := fun j => match us[j]?, ws[j]? with | some s, some t => decide (s = t) | _, _ => false) (by omega) hV (I.mono l) (hy.mono l) (hC.mono l) (hM.mono l) (hD.mono l) hn (hI.mono l) hl1 hl2
    (fun g2 l2 => (hmap g2 (l.trans l2)).of_room (by omega)) fun g2 j a b t u v l2 e1 e2 ta tb => ?_).mono (Nat.le_refl _) fun r g' _ q => ?_
  · simp only [e1, e2]
    exact (checkPair (Nat.le_trans (depths_mem (List.mem_of_getElem? e1)) hku) (Nat.le_trans (depths_mem (List.mem_of_getElem? e2)) hkw) (closeds_mem hcu (List.mem_of_getElem? e1)) (closeds_mem hcw (List.mem_of_getElem? e2)) ta tb
      ((hp j u v e1 e2).imp id fun h => h.mono (l.trans l2))).of_room (by omega)
  · rw [q]
    congr 1
    have := eq_of_pairs (ss := us) (ts := ws) (e := fun j => match us[j]?, ws[j]? with | some s, some t => decide (s = t) | _, _ => false) fun j s t h1 h2 => by simp only [h1, h2]
    rw [← this, hl1, hl2]
    simp

end
section
variable {prog : Program} {w : World} {g : G} {n : Nat}
section
variable {c : Cx} {K : Frag} {ρ : Str → Option Value} {M : Mem}
theorem T.neEmpty {a b : Addr} {vs : List Value} {Q : Post Value} (O : c.Ok K (n + 1)) (S : Tup g a vs) (S' : Tup g b []) (h : Q (.bool (!vs.isEmpty)) g ρ M) : T prog w c (compareOp .NotEq (.ref a) (.ref b)) Q g ρ M := T.tok fun s hA R k => by
  have h1 : s.heap.IsTuple a vs.toArray := ⟨_, S.at hA, rfl, 0, rfl⟩
  have h2 : s.heap.IsTuple b ([] : List Value).toArray := ⟨_, S'.at hA, rfl, 0, rfl⟩
  refine SeqAt.RcNeAt.tuples (e := fun _ => true) h1 h2 (by have := O.room.units; omega) (fun j h1 h2 => absurd h2 (Nat.not_lt_zero _)) prog w _ _ (k _ s.toks ?_)
  have e : (!((List.range (min vs.toArray.size ([] : List Value).toArray.size)).all (fun _ => true) && vs.toArray.size == ([] : List Value).toArray.size)) = !vs.isEmpty := by cases vs <;> simp
  rw [e]; exact h
theorem T.isiStrL {x : Str} {u : Tok} {Q : Post Value} (h : Q (.bool false) g ρ M) : T prog w c (call (.builtin "isinstance") [.str x u, .type "list"]) Q g ρ M := T.tok fun s hA R k => IsiPair.str_list (k _ _ h)
theorem T.isiListL {a : Addr} {vs : List Value} {Q : Post Value} (S : Lst g a vs) (h : Q (.bool true) g ρ M) : T prog w c (call (.builtin "isinstance") [.ref a, .type "list"]) Q g ρ M := T.tok fun s hA R k => by
  obtain ⟨_, hl⟩ := SrcL.at (.inl S) hA
  exact IsiPair.list_list hl rfl (k _ s.toks h)
end
/-- the trees of the law's text -/
inductive Tr where
  | leaf (s : Str)
  | row (t : Tr)
def Tr.data : Tr → PyData | .leaf s => .str s | .row t => .list [.str "row", t.data]
def Tr.depth : Tr → Nat | .leaf _ => 1 | .row t => t.depth + 1
def Tr.leafIn (p : Str → Prop) : Tr → Prop | .leaf s => p s | .row t => t.leafIn p
def Tr.repl (f : Str → Option Tr) : Tr → Tr | .leaf s => (f s).getD (.leaf s) | .row t => .row (t.repl f)
def Tr.ty (σ : Str → Ty) (R : Addr) : Tr → Ty | .leaf s => σ s | .row t => .inst R [t.ty σ R]
def TrV (g : G) (v : Value) (t : Tr) : Prop := Rd g v t.data
theorem TrV.mono {g g' : G} {v : Value} {t : Tr} (h : TrV g v t) (l : Le g g') : TrV g' v t := Rd.mono l h
theorem TrV.leaf {v : Value} {s : Str} (h : TrV g v (.leaf s)) : ∃ t, v = .str s t := by
  unfold TrV Tr.data at h
  cases h with
  | str x t => exact ⟨t, rfl⟩
theorem TrV.row {v : Value} {t : Tr} (h : TrV g v (.row t)) : ∃ a k u, v = .ref a ∧ Lst g a [.str "row" k, u] ∧ TrV g u t := by
  unfold TrV Tr.data at h
  cases h with
  | list e r =>
    cases r with
    | cons h1 r =>
    cases r with
    | cons h2 r =>
    cases r with
    | nil =>
    cases h1 with
    | str x k => exact ⟨_, k, _, rfl, e, h2⟩
theorem TrV.mkRow {a : Addr} {k : Tok} {u : Value} {t : Tr} (S : Lst g a [.str "row" k, u]) (h : TrV g u t) : TrV g (.ref a) (.row t) := .list S (.cons (.str _ k) (.cons h .nil))
theorem rowOk : PyData.strOk ("row" : Str) = true := by decide +kernel
theorem Tr.shaped : ∀ t : Tr, t.leafIn (fun s => PyData.strOk s = true) → t.depth ≤ 60 → SeqAt.shaped t.data = true := by
  have h1 : ∀ t : Tr, t.leafIn (fun s => PyData.strOk s = true) → t.data.canLay0 = true := by
    intro t ht
    induction t with
    | leaf s => simpa [Tr.data, PyData.canLay0] using (show PyData.strOk s = true from ht)
    | row t ih => simp [Tr.data, PyData.canLay0, PyData.canLayAll0, ih ht, rowOk]
  have h2 : ∀ t : Tr, t.data.depth ≤ t.depth := by
    intro t
    induction t with
    | leaf s => simp [Tr.data, PyData.depth]
    | row t ih => simp only [Tr.data, PyData.depth, PyData.depthAll, Tr.depth]; omega
  intro t ht h
  unfold SeqAt.shaped
  rw [h1 t ht, Bool.true_and]
  exact decide_eq_true (Nat.le_trans (h2 t) (by omega))
def IntV (v : Value) : Prop := ∃ i t, v = .int i t
theorem lawAt {a : Addr} {vs : List Value} {k : Int} {t : Tok} {o : Value} (S : Lst g a vs) (hz : vs.length ≤ 63) (hi : ∀ v ∈ vs, IntV v) (ho : IntV o) (hk : 0 ≤ k) :
    Pu prog w (KP w.params) 2 (call (.ref 626) [.ref a, .int k t, o]) (fun r _ => IntV r) g := by
  refine Fn.def (f := 626) (n := 1) (binds := [("script", .ref a), ("k", .int k t), ("other", o)]) rfl ⟨rfl, rfl, rfl, rfl, rfl, rfl, by kernel_rfl, by decide +kernel, by kernel_rfl⟩ rfl (fun s X => BindsTo.of_eq rfl) rfl fun c O W hS => ?_
  dsimp only [ofBinds, List.foldl_cons, List.foldl_nil] at hS ⊢
  tb_start
  refine T.lenL (.inl S) (by omega) fun t2 => ?_
  tb_start
  refine T.ltI ?_
  tb_start
  refine IfK.split (fun q => ?_) fun q => ?_
  · have q' : k < vs.length := of_decide_eq_true q
    tb_start
    have hlt : k.toNat < vs.length := by omega
    refine T.itemL (.inl S) hk (by omega) (List.getElem?_eq_getElem hlt) (by rfl) ?_
    tb_start
    exact hi _ (List.getElem_mem hlt)
  · tb_start
    exact ho
/-- a name of the storey, or a row of one -/
def Simple (nms : List Str) (tr : Tr) : Prop := ∃ s ∈ nms, tr = .leaf s ∨ tr = .row (.leaf s)
def StrsV (vs : List Value) (nms : List Str) : Prop := vs.length = nms.length ∧ ∀ (j : Nat) (v : Value) (s : Str), vs[j]? = some v → nms[j]? = some s → ∃ t, v = .str s t
theorem StrsV.rd {vs : List Value} {nms : List Str} (h : StrsV vs nms) {j : Nat} (hj : j < nms.length) : ∃ t, vs[j]? = some (.str nms[j] t) := by
  have h1 : j < vs.length := by rw [h.1]; exact hj
  obtain ⟨t, e⟩ := h.2 j _ _ (List.getElem?_eq_getElem h1) (List.getElem?_eq_getElem hj)
  exact ⟨t, by rw [List.getElem?_eq_getElem h1, e]⟩
theorem noPylong {a b : Int} (h : b = 2) : Builtin.divisionGoesByPylong a b = false := by
  subst h
  unfold Builtin.divisionGoesByPylong
  have e : (decide ((if ((2 : Int) == 0) = true then 0 else (2 : Int).natAbs.log2 / 30 + 1) > 300)) = false := by decide +kernel
  show (decide _ && _) = false
  rw [show (decide ((if ((2 : Int) == 0) = true then 0 else (2 : Int).natAbs.log2 / 30 + 1) > 300)) = false from e]
  rfl
theorem lawPart {i : Int} {t : Tok} {l : Addr} {vs : List Value} {nms : List Str} (S : Lst g l vs) (hn : StrsV vs nms) (h0 : nms ≠ []) (hz : nms.length ≤ 9) :
    Pu prog w (KP w.params) 3 (call (.ref 633) [.int i t, .ref l]) (fun r g' => ∃ tr, TrV g' r tr ∧ Simple nms tr) g := by
  have hpos : 0 < nms.length := List.length_pos_iff.mpr h0
  refine Fn.def (f := 633) (n := 2) (binds := [("number", .int i t), ("names", .ref l)]) rfl ⟨rfl, rfl, rfl, rfl, rfl, rfl, by kernel_rfl, by decide +kernel, by kernel_rfl⟩ rfl (fun s X => BindsTo.of_eq rfl) rfl fun c O W hS => ?_
  dsimp only [ofBinds, List.foldl_cons, List.foldl_nil] at hS ⊢
  tb_start
  refine T.divI (by decide) (noPylong rfl) fun t1 => ?_
  tb_start
  refine T.lenL (.inl S) (by rw [hn.1]; omega) fun t2 => ?_
  refine T.modI (by rw [hn.1]; omega) fun t3 => ?_
  have hb : (0 : Int) < vs.length := by rw [hn.1]; omega
  have m0 := Int.fmod_nonneg_of_pos (i.fdiv 2) hb
  have m1 := Int.fmod_lt_of_pos (i.fdiv 2) hb
  generalize (i.fdiv 2).fmod vs.length = m at m0 m1
  have hlt : m.toNat < nms.length := by rw [← hn.1]; omega
  obtain ⟨tk, hv⟩ := hn.rd hlt
  have hmem := List.getElem_mem hlt
  generalize nms[m.toNat] = nm at hv hmem
  refine T.itemL (.inl S) m0 (by rw [hn.1] at m1; omega) hv (by rfl) ?_
  tb_start
  refine T.modI (by decide) fun t5 => ?_
  tb_start
  refine IfK.split (fun q => ?_) fun q => ?_
  · tb_start
    refine T.newListF (by simp) fun L hL => ?_
    tb_start
    exact ⟨.row (.leaf nm), TrV.mkRow setG_self (.str _ _), nm, hmem, .inr rfl⟩
  · tb_start
    exact ⟨.leaf nm, .str _ _, nm, hmem, .inl rfl⟩

end
section
variable {prog : Program} {w : World} {g : G} {n : Nat}
/-- a dict of texts holds trees -/
structure TabV (g : G) (d : Addr) (tab : Str → Option Tr) : Prop where
  sys : (d == sysModules) = false
  ex : ∃ f m, g d = some (.map f m) ∧ ∀ s, match f s, tab s with | some u, some tr => TrV g u tr | none, none => True | _, _ => False
theorem TabV.mono {g g' : G} {d : Addr} {tab : Str → Option Tr} (h : TabV g d tab) (l : Le g g') : TabV g' d tab := ⟨h.sys, let ⟨f, m, a, b⟩ := h.ex; ⟨f, m, l _ _ a, fun s => by
  have := b s
  cases q : f s <;> cases q' : tab s <;> rw [q, q'] at this <;> first | exact this | exact this.mono l⟩⟩
theorem lawReplaced {d : Addr} {tab : Str → Option Tr} : ∀ (tr : Tr) {g : G} {v : Value}, TrV g v tr → TabV g d tab →
    Pu prog w (KP w.params) (tr.depth + 2) (call (.ref 638) [v, .ref d]) (fun r g' => TrV g' r (tr.repl tab)) g := by
  intro tr
  induction tr with
  | leaf s =>
    intro g v hv hT
    obtain ⟨t, rfl⟩ := hv.leaf
    obtain ⟨f, m, hf, hs⟩ := hT.ex
    refine Fn.def (f := 638) (n := 2) (binds := [("tree", .str s t), ("table", .ref d)]) rfl ⟨rfl, rfl, rfl, rfl, rfl, rfl, by kernel_rfl, by decide +kernel, by kernel_rfl⟩ rfl (fun s X => BindsTo.of_eq rfl) rfl fun c O W hS => ?_
    dsimp only [ofBinds, List.foldl_cons, List.foldl_nil] at hS ⊢
    tb_start
    refine T.isiStrL ?_
    tb_start
    refine T.methodGet ⟨m, .inl hf⟩ ?_
    tb_start
    refine T.getD ⟨m, .inl hf⟩ hT.sys ?_
    have := hs s
    show TrV _ _ (Tr.repl tab (.leaf s))
    unfold Tr.repl
    cases q : f s <;> cases q' : tab s <;> rw [q, q'] at this
    · exact hv
    · exact this.elim
    · exact this.elim
    · exact this
  | row tr ih =>
    intro g v hv hT
    obtain ⟨a, k, u, rfl, S, hu⟩ := hv.row
    refine Fn.def (f := 638) (n := (tr.depth + 2)) (binds := [("tree", .ref a), ("table", .ref d)]) rfl ⟨rfl, rfl, rfl, rfl, rfl, rfl, by kernel_rfl, by decide +kernel, by kernel_rfl⟩ rfl (fun s X => BindsTo.of_eq rfl) rfl fun c O W hS => ?_
    dsimp only [ofBinds, List.foldl_cons, List.foldl_nil] at hS ⊢
    tb_start
    refine T.isiListL S ?_
    tb_start
    refine T.itemL (.inl S) (by decide) (by decide) rfl (by rfl) ?_
    tb_start
    refine T.newListF (by simp) fun L1 hL1 => ?_
    have S1 : Lst (setG g L1 (.list [.str "row" k])) L1 [.str "row" k] := setG_self
    have l1 : Le g (setG g L1 (.list [.str "row" k])) := Le.setG hL1
    have S2 := S.mono l1
    have hu2 := hu.mono l1
    have hT2 := hT.mono l1
    generalize setG g L1 (.list [.str "row" k]) = g1 at S1 l1 S2 hu2 hT2
    refine T.lc O hS (by kernel_rfl) (by kernel_rfl) (fun _ => rfl) ?_
    tb_start
    refine T.slice ?_
    tb_start
    refine ⟨_, _, rfl, fun sl => ?_⟩
    refine T.sliceL (i := 1) (.inl S2) (by simp) (by rfl) (fun _ => rfl) fun L2 hL2 => ?_
    simp only [List.drop_succ_cons, List.drop_zero]
    have S3 : Lst (setG g1 L2 (.list [u])) L2 [u] := setG_self
    have l2 : Le g1 (setG g1 L2 (.list [u])) := Le.setG hL2
    have S12 := S1.mono l2
    have hu3 := hu2.mono l2
    have hT3 := hT2.mono l2
    generalize setG g1 L2 (.list [u]) = g2 at S3 l2 S12 hu3 hT3
    refine Seqs.list O S3 (LcK.map (fun i v g' => TrV g' v (tr.repl tab)) (fun i v _ _ l h => h.mono l) (by kernel_rfl) (by simp) ?_ ?_)
    · intro D' c' O' hS' i v g' ρ' acc hi hv l hρ
      have hi0 : i = 0 := by simpa using hi
      subst hi0
      have hv' : v = u := by simpa using hv.symm
      subst hv'
      have htab : ρ' "table" = some (.ref d) := (hρ "table" (by kernel_rfl)).trans (by k_subL)
      tb_start
      refine T.pu O' (ih (hu3.mono l) (hT3.mono l)) (by omega) fun r g4 l4 q => ?_
      exact ⟨rfl, q⟩
    intro D ys g3 l3 hlen hys
    cases ys with
    | nil => cases hlen
    | cons y ys =>
    cases ys with
    | cons _ _ => simp at hlen
    | nil =>
    have hy := hys 0 y rfl
    refine T.freeze0 fun hD => ?_
    have S4 : Lst (setG g3 D (.list [y])) D [y] := setG_self
    have l4 : Le g3 (setG g3 D (.list [y])) := Le.setG hD
    have hy4 := hy.mono l4
    have S14 := S12.mono (l3.trans l4)
    generalize setG g3 D (.list [y]) = g4 at S4 l4 hy4 S14
    refine T.addL (.inl S14) (.inl S4) (by simp) fun L5 hL5 => ?_
    exact TrV.mkRow setG_self (hy4.mono (Le.setG hL5))
/-- the world of the text: what stands under each name -/
structure WldV (g : G) (d : Addr) (p : Str → Prop) (σ : Str → Ty) (R : Addr) : Prop where
  ex : ∃ f m, g d = some (.map f m) ∧ (∀ s, p s → ∃ a, f s = some (.ref a) ∧ TyR g a (σ s)) ∧ f "row" = some (.ref R)
  cl : Cl g R
theorem WldV.mono {g g' : G} {d : Addr} {p : Str → Prop} {σ : Str → Ty} {R : Addr} (h : WldV g d p σ R) (l : Le g g') : WldV g' d p σ R :=
  ⟨let ⟨f, m, a, b, c⟩ := h.ex; ⟨f, m, l _ _ a, fun s hs => let ⟨x, y, z⟩ := b s hs; ⟨x, y, z.mono l⟩, c⟩, h.cl.mono l⟩
theorem lawMade {d R : Addr} {p : Str → Prop} {σ : Str → Ty} : ∀ (tr : Tr) {g : G} {v : Value}, TrV g v tr → tr.leafIn p → WldV g d p σ R →
    Pu prog w (KP w.params) (tr.depth + 6) (call (.ref 645) [v, .ref d]) (fun r g' => ∃ y, r = .ref y ∧ TyR g' y (tr.ty σ R)) g := by
  intro tr
  induction tr with
  | leaf s =>
    intro g v hv hp hW
    obtain ⟨t, rfl⟩ := hv.leaf
    obtain ⟨f, m, hf, hs, hr⟩ := hW.ex
    obtain ⟨a, ha, hty⟩ := hs s hp
    refine Fn.def (f := 645) (n := 6) (binds := [("tree", .str s t), ("world", .ref d)]) rfl ⟨rfl, rfl, rfl, rfl, rfl, rfl, by kernel_rfl, by decide +kernel, by kernel_rfl⟩ rfl (fun s X => BindsTo.of_eq rfl) rfl fun c O W hS => ?_
    dsimp only [ofBinds, List.foldl_cons, List.foldl_nil] at hS ⊢
    tb_start
    refine T.isiStrL ?_
    tb_start
    refine T.itemD ⟨m, .inl hf⟩ ha (by rfl) ?_
    exact ⟨a, rfl, hty⟩
  | row tr ih =>
    intro g v hv hp hW
    obtain ⟨a, k, u, rfl, S, hu⟩ := hv.row
    obtain ⟨f, m, hf, hs, hr⟩ := hW.ex
    refine Fn.def (f := 645) (n := (tr.depth + 6)) (binds := [("tree", .ref a), ("world", .ref d)]) rfl ⟨rfl, rfl, rfl, rfl, rfl, rfl, by kernel_rfl, by decide +kernel, by kernel_rfl⟩ rfl (fun s X => BindsTo.of_eq rfl) rfl fun c O W hS => ?_
    dsimp only [ofBinds, List.foldl_cons, List.foldl_nil] at hS ⊢
    tb_start
    refine T.isiListL S ?_
    tb_start
    refine T.itemD ⟨m, .inl hf⟩ hr (by rfl) ?_
    tb_start
    refine T.itemL (.inl S) (by decide) (by decide) rfl (by rfl) ?_
    tb_start
    refine T.pu O (ih hu hp hW) (by omega) fun r g1 l1 ⟨y, q1, q2⟩ => ?_
    subst q1
    tb_start
    refine T.newListF (by simp) fun L1 hL1 => ?_
    have l2 := Le.setG (m := .list [Value.ref y]) hL1
    tb_start
    refine T.pu O (mk_Instance setG_self (by simp)) (by omega) fun r g2 l3 ⟨z, e, q3, q4, q5⟩ => ?_
    exact ⟨z, q3, .inst (as := [y]) (ts := [tr.ty σ R]) q4 (hW.cl.mono (l1.trans (l2.trans l3))) q5 (.cons (q2.mono (l2.trans l3)) .nil) (by simp)⟩
/-- each leaf is a bare class of that name -/
def Named (g : G) (σ : Str → Ty) (s : Str) : Prop := ∃ C tvs bs m, σ s = .inst C [] ∧ ClsA g C s tvs bs m
theorem Named.mono {g g' : G} {σ : Str → Ty} {s : Str} (h : Named g σ s) (l : Le g g') : Named g' σ s := let ⟨a, b, c, d, e, f⟩ := h; ⟨a, b, c, d, e, f.mono l⟩
theorem leafIn_mono {p q : Str → Prop} (h : ∀ s, p s → q s) : ∀ {t : Tr}, t.leafIn p → t.leafIn q
  | .leaf s, a => h s a
  | .row t, a => leafIn_mono h (t := t) a
theorem lawShown {v : Value} {R : Addr} {σ : Str → Ty} : ∀ (tr : Tr) {g : G} {a : Addr}, TyR g a (tr.ty σ R) → tr.leafIn (Named g σ) →
    Pu prog w (KP w.params) (tr.depth + 9) (call (.ref 650) [.ref a, v]) (fun r g' => TrV g' r tr) g := by
  intro tr
  induction tr with
  | leaf s =>
    intro g a ha hn
    obtain ⟨C, tvs, bs, m, e1, hC⟩ := hn
    have ha' : TyR g a (.inst C []) := e1 ▸ ha
    cases ha' with
    | @inst _ e _ as _ I c1 e0 a1 z1 =>
    cases a1 with
    | nil =>
    obtain ⟨t0, dd, tvl, nml, bl, ml, names, o1, o2, o3, o4, o5, o6, o7⟩ := hC.obj
    refine Fn.def (f := 650) (n := 9) (binds := [("typ", .ref a), ("world", v)]) rfl ⟨rfl, rfl, rfl, rfl, rfl, rfl, by kernel_rfl, by decide +kernel, by kernel_rfl⟩ rfl (fun s X => BindsTo.of_eq rfl) rfl fun c O W hS => ?_
    dsimp only [ofBinds, List.foldl_cons, List.foldl_nil] at hS ⊢
    tb_start
    refine T.newTuple (by simp) fun b hb => ?_
    have l1 := Le.setG (m := .tup []) hb
    refine T.neEmpty (vs := []) O (l1 _ _ e0) setG_self ?_
    tb_start
    exact .str _ _
  | row tr ih =>
    intro g a ha hn
    have ha' : TyR g a (.inst R [tr.ty σ R]) := ha
    cases ha' with
    | @inst _ e _ as _ I c1 e0 a1 z1 =>
    cases a1 with
    | @cons x _ as _ hx a1 =>
    cases a1 with
    | nil =>
    refine Fn.def (f := 650) (n := (tr.depth + 9)) (binds := [("typ", .ref a), ("world", v)]) rfl ⟨rfl, rfl, rfl, rfl, rfl, rfl, by kernel_rfl, by decide +kernel, by kernel_rfl⟩ rfl (fun s X => BindsTo.of_eq rfl) rfl fun c O W hS => ?_
    dsimp only [ofBinds, List.foldl_cons, List.foldl_nil] at hS ⊢
    tb_start
    refine T.newTuple (by simp) fun b hb => ?_
    have l1 := Le.setG (m := .tup []) hb
    refine T.neEmpty (vs := [.ref x]) O (l1 _ _ e0) setG_self ?_
    have e1 := l1 _ _ e0
    have I1 := I.mono l1
    have hx1 := hx.mono l1
    generalize setG g b (.tup []) = g1 at l1 e1 I1 hx1
    tb_start
    refine T.newListF (by simp) fun L1 hL1 => ?_
    rename_i tk
    have S1 : Lst (setG g1 L1 (.list [.str "row" tk])) L1 [.str "row" tk] := setG_self
    have l2 : Le g1 (setG g1 L1 (.list [.str "row" tk])) := Le.setG hL1
    have e2 := l2 _ _ e1
    have I2 := I1.mono l2
    have hx2 := hx1.mono l2
    generalize setG g1 L1 (.list [.str "row" tk]) = g2 at S1 l2 e2 I2 hx2
    refine T.lc O hS (by kernel_rfl) (by kernel_rfl) (fun _ => rfl) ?_
    tb_start
    refine Seqs.tuple O e2 (LcK.map (fun i v g' => TrV g' v tr) (fun i v _ _ l h => h.mono l) (by kernel_rfl) (by simp) ?_ ?_)
    · intro D' c' O' hS' i v' g' ρ' acc hi hv l hρ
      have hi0 : i = 0 := by simpa using hi
      subst hi0
      have hv' : v' = .ref x := by simpa using hv.symm
      subst hv'
      have hw : ρ' "world" = some v := (hρ "world" (by kernel_rfl)).trans (by k_subL)
      tb_start
      refine T.pu O' (ih (hx2.mono l) (leafIn_mono (fun s h => h.mono ((l1.trans l2).trans l)) (t := tr) hn)) (by omega) fun r g4 l4 q => ?_
      exact ⟨rfl, q⟩
    intro D ys g3 l3 hlen hys
    cases ys with
    | nil => cases hlen
    | cons y ys =>
    cases ys with
    | cons _ _ => simp at hlen
    | nil =>
    have hy := hys 0 y rfl
    refine T.freeze0 fun hD => ?_
    have S4 : Lst (setG g3 D (.list [y])) D [y] := setG_self
    have l4 : Le g3 (setG g3 D (.list [y])) := Le.setG hD
    have hy4 := hy.mono l4
    have S14 := S1.mono (l3.trans l4)
    generalize setG g3 D (.list [y]) = g4 at S4 l4 hy4 S14
    refine T.addL (.inl S14) (.inl S4) (by simp) fun L5 hL5 => ?_
    exact TrV.mkRow setG_self (hy4.mono (Le.setG hL5))
theorem shownAny {v : Value} {a : Addr} (h : AnyI g a) : Pu prog w (KP w.params) 5 (call (.ref 650) [.ref a, v]) (fun r g' => ∃ t, r = .str "any" t) g := by
  obtain ⟨k, t, I⟩ := h
  refine Fn.def (f := 650) (n := 4) (binds := [("typ", .ref a), ("world", v)]) rfl ⟨rfl, rfl, rfl, rfl, rfl, rfl, by kernel_rfl, by decide +kernel, by kernel_rfl⟩ rfl (fun s X => BindsTo.of_eq rfl) rfl fun c O W hS => ?_
  dsimp only [ofBinds, List.foldl_cons, List.foldl_nil] at hS ⊢
  tb_start
  exact ⟨_, rfl⟩

end
section
variable {prog : Program} {w : World} {g : G} {n : Nat}
structure Base where
  root : Addr
  top : Addr
  plain : Addr
  CA : Addr
  CB : Addr
  R : Addr
  aA : Addr
  aB : Addr
structure BaseOk (g : G) (E : Base) : Prop where
  root : ClsA g E.root "object" [] [] [E.root]
  top : TyR g E.top (.inst E.root [])
  plain : ClsA g E.plain "plain" [] [E.top] [E.plain, E.root]
  cA : ClsA g E.CA "A" [] [E.top] [E.CA, E.root]
  cB : ClsA g E.CB "B" [] [E.top] [E.CB, E.root]
  cR : ∃ tvs, ClsA g E.R "row" tvs [E.top] [E.R, E.root]
  tA : TyR g E.aA (.inst E.CA [])
  tB : TyR g E.aB (.inst E.CB [])
  neA : E.CA ≠ E.plain
  neB : E.CB ≠ E.plain
  neR : E.R ≠ E.plain
  neP : E.plain ≠ E.root
theorem BaseOk.mono {g g' : G} {E : Base} (h : BaseOk g E) (l : Le g g') : BaseOk g' E :=
  ⟨h.root.mono l, h.top.mono l, h.plain.mono l, h.cA.mono l, h.cB.mono l, let ⟨t, q⟩ := h.cR; ⟨t, q.mono l⟩, h.tA.mono l, h.tB.mono l, h.neA, h.neB, h.neR, h.neP⟩
noncomputable def Base.σW (E : Base) : Str → Ty := fun s => if s = "A" then .inst E.CA [] else .inst E.CB []
def AB (s : Str) : Prop := s = "A" ∨ s = "B"
noncomputable def Base.ty (E : Base) : Tr → Ty := Tr.ty E.σW E.R
theorem neBA : ("B" : Str) ≠ "A" := by decide +kernel
theorem BaseOk.named {g : G} {E : Base} (h : BaseOk g E) {s : Str} (hs : AB s) : Named g E.σW s := by
  rcases hs with rfl | rfl
  · exact ⟨E.CA, _, _, _, if_pos rfl, h.cA⟩
  · exact ⟨E.CB, _, _, _, if_neg neBA, h.cB⟩
theorem ABok {s : Str} (h : AB s) : PyData.strOk s = true := by
  rcases h with rfl | rfl <;> decide +kernel
theorem MroN.nil {g : G} : MroN g [] [] := ⟨rfl, fun j c nm a => by cases j <;> cases a⟩
theorem MroN.cons {g : G} {C : Addr} {nm : Str} {tvs bs m mro : List Addr} {nms : List Str} (h : ClsA g C nm tvs bs m) (k : MroN g mro nms) : MroN g (C :: mro) (nm :: nms) :=
  ⟨congrArg (· + 1) k.1, fun j c nm' a b => by
    cases j with
    | zero => cases a; cases b; exact ⟨_, _, _, h⟩
    | succ j => exact k.2 j c nm' a b⟩
theorem BaseOk.mroA {g : G} {E : Base} (h : BaseOk g E) : MroN g [E.CA, E.root] ["A", "object"] := .cons h.cA (.cons h.root .nil)
theorem BaseOk.mroB {g : G} {E : Base} (h : BaseOk g E) : MroN g [E.CB, E.root] ["B", "object"] := .cons h.cB (.cons h.root .nil)
theorem BaseOk.mroP {g : G} {E : Base} (h : BaseOk g E) : MroN g [E.plain, E.root] ["plain", "object"] := .cons h.plain (.cons h.root .nil)
theorem BaseOk.mroR {g : G} {E : Base} (h : BaseOk g E) : MroN g [E.R, E.root] ["row", "object"] := let ⟨_, q⟩ := h.cR; .cons q (.cons h.root .nil)
/-- a tree's type has nothing to do with the plain class -/
theorem BaseOk.apart {g : G} {E : Base} (h : BaseOk g E) : ∀ t : Tr, Apart g (E.ty t) (.inst E.plain [])
  | .leaf s => by
    show Apart g (E.σW s) _
    unfold Base.σW
    split
    · exact ⟨E.CA, [], E.plain, [], rfl, rfl, ⟨h.neA, _, _, _, _, _, _, _, _, _, h.cA, h.mroA, h.plain, by decide +kernel⟩, ⟨h.neA.symm, _, _, _, _, _, _, _, _, _, h.plain, h.mroP, h.cA, by decide +kernel⟩⟩
    · exact ⟨E.CB, [], E.plain, [], rfl, rfl, ⟨h.neB, _, _, _, _, _, _, _, _, _, h.cB, h.mroB, h.plain, by decide +kernel⟩, ⟨h.neB.symm, _, _, _, _, _, _, _, _, _, h.plain, h.mroP, h.cB, by decide +kernel⟩⟩
  | .row t => by
    obtain ⟨tv, hR⟩ := h.cR
    exact ⟨E.R, [E.ty t], E.plain, [], rfl, rfl, ⟨h.neR, _, _, _, _, _, _, _, _, _, hR, h.mroR, h.plain, by decide +kernel⟩, ⟨h.neR.symm, _, _, _, _, _, _, _, _, _, h.plain, h.mroP, hR, by decide +kernel⟩⟩
theorem Base.ty_ne {g : G} {E : Base} (h : BaseOk g E) (t : Tr) : E.ty t ≠ .inst E.plain [] := by
  obtain ⟨C, ts, D, ws, e1, e2, n1, _⟩ := h.apart t
  rw [e1]
  intro q
  injection e2 with e2 _
  injection q with q _
  exact n1.ne (q.trans e2)
theorem Base.closed (E : Base) : ∀ t : Tr, (E.ty t).closed = true
  | .leaf s => by
    show (E.σW s).closed = true
    unfold Base.σW
    split <;> rfl
  | .row t => by
    show (closeds [E.ty t]) = true
    rw [closeds, E.closed t, closeds]; rfl
theorem Base.depth (E : Base) : ∀ t : Tr, (E.ty t).depth = t.depth
  | .leaf s => by
    show (E.σW s).depth = 1
    unfold Base.σW
    split <;> rfl
  | .row t => by
    show depths [E.ty t] + 1 = t.depth + 1
    rw [depths, depths, E.depth t]; simp
theorem Base.closeds (E : Base) : ∀ l : List Tr, Mine.closeds (l.map E.ty) = true
  | [] => rfl
  | t :: l => by rw [List.map_cons, Mine.closeds, E.closed, E.closeds l]; rfl
theorem Base.depths (E : Base) {k : Nat} : ∀ l : List Tr, (∀ t ∈ l, t.depth ≤ k) → Mine.depths (l.map E.ty) ≤ k
  | [], _ => Nat.zero_le _
  | t :: l, h => by
    rw [List.map_cons, Mine.depths, E.depth]
    exact Nat.max_le.mpr ⟨h t (.head _), E.depths l fun t ht => h t (.tail _ ht)⟩
-- the storeys
structure Storey where
  nms : List Str
  hd : List Tr
  C : Addr
  b : Addr
  tvs : List Addr
  ds : List (Addr × Int)
def nmS (k : Nat) : Str := Str.ofString "s" ++ Str.ofString (toString (k : Int))
def mroT (E : Base) (sts : List Storey) : List Addr := sts.map (·.C) ++ [E.plain, E.root]
def nmsT : List Storey → List Str | [] => ["plain", "object"] | _ :: r => nmS r.length :: nmsT r
def botC (E : Base) : List Storey → Addr | [] => E.plain | lo :: _ => lo.C
def botN : List Storey → Nat | [] => 0 | lo :: _ => lo.nms.length
def vars : List Str → List (Addr × Int) → Str → Ty
  | m :: ms, d :: ds, s => if s = m then .var d.1 else vars ms ds s
  | _, _, _ => .var 0
def Storey.σ (st : Storey) : Str → Ty := vars st.nms st.ds
theorem vars_at {s : Str} {d : Addr} {i : Int} : ∀ {nms : List Str} {ds : List (Addr × Int)} {j : Nat}, nms.Nodup → nms[j]? = some s → ds[j]? = some (d, i) → vars nms ds s = .var d
  | m :: ms, p :: ds, 0, _, h, k => by cases h; cases k; exact if_pos rfl
  | m :: ms, p :: ds, j + 1, nd, h, k => by
    have nd' := List.nodup_cons.mp nd
    have hne : s ≠ m := fun q => nd'.1 (by rw [← q]; exact List.mem_of_getElem? h)
    show (if s = m then _ else _) = _
    rw [if_neg hne]
    exact vars_at nd'.2 (by simpa using h) (by simpa using k)
  | [], _, _, _, h, _ => by simp at h
  | _ :: _, [], _, _, _, k => by simp at k
theorem sig_at {d : Addr} {i : Int} {t : Ty} : ∀ {ds : List (Addr × Int)} {ts : List Ty} {j : Nat}, (ds.map (·.1)).Nodup → ds[j]? = some (d, i) → ts[j]? = some t → sig ds ts d = some t
  | p :: ds, u :: ts, 0, _, h, k => by cases h; cases k; simp [sig]
  | p :: ds, u :: ts, j + 1, nd, h, k => by
    have nd' := List.nodup_cons.mp nd
    have hm : d ∈ ds.map (·.1) := List.mem_map.mpr ⟨_, List.mem_of_getElem? (by simpa using h), rfl⟩
    have hne : (p.1 == d) = false := beq_eq_false_iff_ne.mpr fun q => nd'.1 (by rw [← q] at hm; exact hm)
    have := sig_at (ds := ds) (ts := ts) (j := j) nd'.2 (by simpa using h) (by simpa using k)
    unfold sig at this ⊢
    rw [List.zip_cons_cons, List.find?_cons]
    simp only [hne]
    exact this
  | [], _, _, _, h, _ => by simp at h
  | _ :: _, [], _, _, _, k => by simp at k
structure StOk (g : G) (E : Base) (st : Storey) (sts : List Storey) : Prop where
  cls : ClsA g st.C (nmS sts.length) st.tvs [st.b] (st.C :: mroT E sts)
  binds : Binds g st.tvs st.ds
  inv : InvV g st.tvs
  nd : st.nms.Nodup
  len : st.nms.length = st.tvs.length
  few : 1 ≤ st.nms.length ∧ st.nms.length ≤ 2
  base : TyR g st.b (.inst (botC E sts) (st.hd.map (Tr.ty st.σ E.R)))
  hdlen : st.hd.length = botN sts
  simple : ∀ tr ∈ st.hd, Simple st.nms tr
  new : st.C ∉ mroT E sts
theorem StOk.mono {g g' : G} {E : Base} {st : Storey} {sts : List Storey} (h : StOk g E st sts) (l : Le g g') : StOk g' E st sts :=
  ⟨h.cls.mono l, h.binds.mono l, h.inv.mono l, h.nd, h.len, h.few, h.base.mono l, h.hdlen, h.simple, h.new⟩
inductive Tower (g : G) (E : Base) : List Storey → Prop
  | nil : Tower g E []
  | cons {st : Storey} {sts : List Storey} : StOk g E st sts → Tower g E sts → Tower g E (st :: sts)
theorem Tower.mono {g g' : G} {E : Base} {sts : List Storey} (l : Le g g') (h : Tower g E sts) : Tower g' E sts := by
  induction h with
  | nil => exact .nil
  | cons a _ ih => exact .cons (a.mono l) ih
theorem Tower.drop {g : G} {E : Base} : ∀ {sts : List Storey} (k : Nat), Tower g E sts → Tower g E (sts.drop k)
  | _, 0, h => h
  | [], _ + 1, h => h
  | _ :: _, k + 1, .cons _ h => Tower.drop k h
theorem Tower.mroN {g : G} {E : Base} (hE : BaseOk g E) : ∀ {sts : List Storey}, Tower g E sts → MroN g (mroT E sts) (nmsT sts)
  | [], _ => hE.mroP
  | _ :: _, .cons a h => .cons a.cls (Tower.mroN hE h)
theorem nmsT_any {k : Nat} : ∀ {sts : List Storey}, k < sts.length → (nmsT sts).any (· == nmS k) = true
  | st :: r, h => by
    rw [nmsT, List.any_cons]
    by_cases q : k = r.length
    · rw [q]; simp
    · rw [nmsT_any (by simp at h; omega)]; simp
theorem nmsT_other : ∀ {sts : List Storey}, sts.length ≤ 5 → (nmsT sts).any (· == ("other" : Str)) = false
  | [], _ => by decide +kernel
  | st :: r, h => by
    rw [nmsT, List.any_cons, nmsT_other (by simp at h; omega)]
    have h5 : r.length < 5 := by simp at h; omega
    have := List.all_eq_true.mp (show ((List.range 5).all fun k => !(nmS k == ("other" : Str))) = true by decide +kernel) r.length (List.mem_range.mpr h5)
    simpa using this
/-- the trees one storey down -/
def tabL (l : List (Str × Tr)) : Str → Option Tr := l.foldl (fun f p y => if y = p.1 then some p.2 else f y) (fun _ => none)
theorem foldl_out {s : Str} : ∀ (l : List (Str × Tr)) (f : Str → Option Tr), s ∉ l.map (·.1) → l.foldl (fun f p y => if y = p.1 then some p.2 else f y) f s = f s
  | [], _, _ => rfl
  | p :: l, f, h => by
    rw [List.map_cons, List.mem_cons, not_or] at h
    rw [List.foldl_cons, foldl_out l _ h.2]
    exact if_neg h.1
theorem foldl_in {s : Str} {v : Tr} : ∀ (l : List (Str × Tr)) (f : Str → Option Tr), (l.map (·.1)).Nodup → (s, v) ∈ l → l.foldl (fun f p y => if y = p.1 then some p.2 else f y) f s = some v
  | p :: l, f, nd, h => by
    have nd' := List.nodup_cons.mp nd
    rw [List.foldl_cons]
    rcases List.mem_cons.mp h with rfl | h
    · rw [foldl_out l _ nd'.1]; exact if_pos rfl
    · exact foldl_in l _ nd'.2 h
theorem map_zip_fst {α β : Type} : ∀ (l : List α) (m : List β), l.length ≤ m.length → (l.zip m).map (·.1) = l
  | [], _, _ => rfl
  | a :: l, [], h => by simp at h
  | a :: l, b :: m, h => by simp [map_zip_fst l m (by simpa using h)]
theorem tabL_at {nms : List Str} {due : List Tr} {j : Nat} {s : Str} {t : Tr} (nd : nms.Nodup) (hl : nms.length ≤ due.length) (h : nms[j]? = some s) (k : due[j]? = some t) : tabL (nms.zip due) s = some t := by
  unfold tabL
  refine foldl_in _ _ (by rw [map_zip_fst _ _ hl]; exact nd) (List.mem_iff_getElem?.mpr ⟨j, List.getElem?_zip_eq_some.mpr ⟨h, k⟩⟩)
def stepT (st : Storey) (due : List Tr) : List Tr := st.hd.map (Tr.repl (tabL (st.nms.zip due)))
theorem step_at {g : G} {E : Base} {st : Storey} {sts : List Storey} (h : StOk g E st sts) {due : List Tr} (hd : due.length = st.nms.length) {tr : Tr} (hs : Simple st.nms tr) :
    (Tr.ty st.σ E.R tr).subst (sig st.ds (due.map E.ty)) = E.ty (tr.repl (tabL (st.nms.zip due))) ∧ (Tr.ty st.σ E.R tr).inDom (sig st.ds (due.map E.ty)) = true ∧ (Tr.ty st.σ E.R tr).depth ≤ 2 ∧
      ∃ d ∈ due, tr.repl (tabL (st.nms.zip due)) = d ∨ tr.repl (tabL (st.nms.zip due)) = .row d := by
  obtain ⟨s, hm, ht⟩ := hs
  obtain ⟨j, hj⟩ := List.mem_iff_getElem?.mp hm
  have hjl : j < st.nms.length := (List.getElem?_eq_some_iff.mp hj).1
  have e1 : due[j]? = some (due[j]'(by omega)) := List.getElem?_eq_getElem (by omega)
  have e2 : st.ds[j]? = some (st.ds[j]'(by have := h.binds.len; have := h.len; omega)) := List.getElem?_eq_getElem _
  have hmem := List.mem_of_getElem? e1
  generalize due[j]'(by omega) = d at e1 hmem
  generalize st.ds[j]'(by have := h.binds.len; have := h.len; omega) = p at e2
  obtain ⟨p, i⟩ := p
  have v1 : st.σ s = .var p := vars_at h.nd hj e2
  have v2 : sig st.ds (due.map E.ty) p = some (E.ty d) := sig_at h.binds.nd1 e2 (by rw [List.getElem?_map, e1]; rfl)
  have v3 : tabL (st.nms.zip due) s = some d := tabL_at h.nd (by omega) hj e1
  rcases ht with rfl | rfl
  · refine ⟨?_, ?_, ?_, d, hmem, .inl ?_⟩
    · show (st.σ s).subst _ = E.ty ((tabL (st.nms.zip due) s).getD _)
      rw [v1, v3, Ty.subst, v2]; rfl
    · show (st.σ s).inDom _ = true
      rw [v1, Ty.inDom, v2]; rfl
    · show (st.σ s).depth ≤ 2
      rw [v1, Ty.depth]; omega
    · show (tabL (st.nms.zip due) s).getD _ = d
      rw [v3]; rfl
  · refine ⟨?_, ?_, ?_, d, hmem, .inr ?_⟩
    · show Ty.inst E.R (substs _ [st.σ s]) = .inst E.R [E.ty ((tabL (st.nms.zip due) s).getD _)]
      rw [v1, v3, substs, substs, Ty.subst, v2]; rfl
    · show inDoms _ [st.σ s] = true
      rw [inDoms, inDoms, v1, Ty.inDom, v2]; rfl
    · show Mine.depths [st.σ s] + 1 ≤ 2
      rw [Mine.depths, Mine.depths, v1, Ty.depth]; omega
    · show Tr.row ((tabL (st.nms.zip due) s).getD _) = _
      rw [v3]; rfl
theorem step_eq {g : G} {E : Base} {st : Storey} {sts : List Storey} (h : StOk g E st sts) {due : List Tr} (hd : due.length = st.nms.length) :
    substs (sig st.ds (due.map E.ty)) (st.hd.map (Tr.ty st.σ E.R)) = (stepT st due).map E.ty ∧ inDoms (sig st.ds (due.map E.ty)) (st.hd.map (Tr.ty st.σ E.R)) = true ∧ Mine.depths (st.hd.map (Tr.ty st.σ E.R)) < 3 := by
  refine ⟨?_, ?_, ?_⟩
  · rw [substs_map, List.map_map]
    unfold stepT
    rw [List.map_map]
    exact List.map_congr_left fun tr htr => (step_at h hd (h.simple tr htr)).1
  · have : ∀ l : List Tr, (∀ tr ∈ l, Simple st.nms tr) → inDoms (sig st.ds (due.map E.ty)) (l.map (Tr.ty st.σ E.R)) = true := by
      intro l
      induction l with
      | nil => intro _; rfl
      | cons t l ih => intro hl; rw [List.map_cons, inDoms, (step_at h hd (hl t (.head _))).2.1, ih fun t ht => hl t (.tail _ ht)]; rfl
    exact this _ h.simple
  · have : ∀ l : List Tr, (∀ tr ∈ l, Simple st.nms tr) → Mine.depths (l.map (Tr.ty st.σ E.R)) ≤ 2 := by
      intro l
      induction l with
      | nil => intro _; exact Nat.zero_le _
      | cons t l ih => intro hl; rw [List.map_cons, Mine.depths]; exact Nat.max_le.mpr ⟨(step_at h hd (hl t (.head _))).2.2.1, ih fun t ht => hl t (.tail _ ht)⟩
    have := this _ h.simple
    omega
theorem stepT_len {g : G} {E : Base} {st : Storey} {sts : List Storey} (h : StOk g E st sts) (due : List Tr) : (stepT st due).length = botN sts := by unfold stepT; rw [List.length_map, h.hdlen]
/-- what stands for trees on the way down -/
def DueOk (k : Nat) (due : List Tr) : Prop := ∀ t ∈ due, t.leafIn AB ∧ t.depth ≤ k
theorem stepT_ok {g : G} {E : Base} {st : Storey} {sts : List Storey} (h : StOk g E st sts) {due : List Tr} {k : Nat} (hd : due.length = st.nms.length) (hk : DueOk k due) : DueOk (k + 1) (stepT st due) := by
  intro t ht
  unfold stepT at ht
  obtain ⟨tr, htr, rfl⟩ := List.mem_map.mp ht
  obtain ⟨d, hm, e⟩ := (step_at h hd (h.simple tr htr)).2.2.2
  have := hk d hm
  rcases e with e | e
  · rw [e]; exact ⟨this.1, by omega⟩
  · rw [e]; exact ⟨this.1, by show d.depth + 1 ≤ _; omega⟩
def dueL : List Storey → List Tr → List Tr | [], d => d | st :: r, d => dueL r (stepT st d)
theorem dueL_app {st : Storey} : ∀ (l : List Storey) (d : List Tr), dueL (l ++ [st]) d = stepT st (dueL l d)
  | [], _ => rfl
  | s :: l, d => by rw [List.cons_append, dueL, dueL_app l]; rfl
theorem dueL_app2 : ∀ (l m : List Storey) (d : List Tr), dueL (l ++ m) d = dueL m (dueL l d)
  | [], _, _ => rfl
  | s :: l, m, d => by rw [List.cons_append, dueL, dueL_app2 l m]; rfl

end
section
variable {prog : Program} {w : World} {g : G} {n : Nat}
theorem pathTo {E : Base} {tg : Storey} {rest : List Storey} : ∀ (mid : List Storey) {st : Storey}, Tower g E (st :: (mid ++ tg :: rest)) → Pth g tg.C mid.length st.C (some (mid.map (·.C) ++ [tg.C]))
  | [], _, .cons h _ => .one h.cls h.base
  | m :: mid, st, .cons h t => by
    have ih := pathTo mid t
    have hne : m.C ≠ tg.C := by
      cases t with
      | cons a _ =>
        intro q
        refine a.new ?_
        unfold mroT
        rw [q]; simp
    exact Pth.more h.cls h.base hne ih
theorem walkTo {E : Base} {tg : Storey} {rest : List Storey} : ∀ (mid : List Storey) {st : Storey} {due : List Tr}, Tower g E (st :: (mid ++ tg :: rest)) → due.length = st.nms.length →
    Walkp g 3 st.C (due.map E.ty) (mid.map (·.C) ++ [tg.C]) tg.C ((dueL (st :: mid) due).map E.ty)
  | [], st, due, .cons h _, hd => by
    obtain ⟨e1, e2, e3⟩ := step_eq h hd
    refine Walkp.cons h.cls h.base h.binds (by rw [List.length_map, hd, h.len]) e2 e3 ?_
    rw [e1]
    exact .nil
  | m :: mid, st, due, .cons h t, hd => by
    obtain ⟨e1, e2, e3⟩ := step_eq h hd
    refine Walkp.cons h.cls h.base h.binds (by rw [List.length_map, hd, h.len]) e2 e3 ?_
    rw [e1]
    exact walkTo mid t (stepT_len h due)
theorem botC_mem {E : Base} : ∀ (L : List Storey), botC E L ∈ mroT E L
  | [] => .head _
  | _ :: _ => .head _
theorem pathNone {E : Base} {D : Addr} (hE : BaseOk g E) : ∀ {L : List Storey}, Tower g E L → (∀ x ∈ mroT E L, x ≠ D) → Pth g D (L.length + 1) (botC E L) none
  | [], _, h => .more (p := none) hE.plain hE.top (h _ (.tail _ (.head _))) (.none hE.root)
  | st :: r, .cons a t, h => .more (p := none) a.cls a.base (h _ (.tail _ (botC_mem r))) (pathNone hE t fun x hx => h x (.tail _ hx))
theorem Tower.at_ {E : Base} : ∀ {L : List Storey} {i : Nat} {si : Storey}, Tower g E L → L[i]? = some si → StOk g E si (L.drop (i + 1))
  | _ :: _, 0, _, .cons a _, e => by cases e; exact a
  | _ :: _, i + 1, _, .cons _ t, e => Tower.at_ (i := i) t (by simpa using e)
  | [], _, _, _, e => by simp at e
theorem due_ok {E : Base} {L : List Storey} {d : List Tr} {s0 : Storey} (hT : Tower g E L) (h0 : L[0]? = some s0) (hd : d.length = s0.nms.length) (hk : DueOk 2 d) :
    ∀ {i : Nat} {si : Storey}, L[i]? = some si → (dueL (L.take i) d).length = si.nms.length ∧ DueOk (2 + i) (dueL (L.take i) d) := by
  intro i
  induction i with
  | zero =>
    intro si e
    rw [h0] at e; cases e
    exact ⟨hd, hk⟩
  | succ i ih =>
    intro si e
    have hi : i < L.length := by have := (List.getElem?_eq_some_iff.mp e).1; omega
    have e0 : L[i]? = some L[i] := List.getElem?_eq_getElem hi
    obtain ⟨l1, k1⟩ := ih e0
    have hs := hT.at_ e0
    rw [List.take_add_one, e0]
    show (dueL (L.take i ++ [L[i]]) d).length = _ ∧ DueOk _ (dueL (L.take i ++ [L[i]]) d)
    rw [dueL_app]
    refine ⟨?_, ?_⟩
    · rw [stepT_len hs]
      have hd : L.drop (i + 1) = si :: L.drop (i + 2) := by
        have hlt := (List.getElem?_eq_some_iff.mp e).1
        rw [List.drop_eq_getElem_cons hlt, (List.getElem?_eq_some_iff.mp e).2]
      rw [hd]; rfl
    · have := stepT_ok hs l1 k1
      rwa [show 2 + (i + 1) = 2 + i + 1 by omega]
theorem split_at {L : List Storey} {i j : Nat} {si sj : Storey} (h : j < i) (ej : L[j]? = some sj) (ei : L[i]? = some si) : ∃ mid rest, L.drop j = sj :: (mid ++ si :: rest) ∧ L.take i = L.take j ++ (sj :: mid) ∧ mid.length + j < L.length := by
  have hi := (List.getElem?_eq_some_iff.mp ei).1
  have hj := (List.getElem?_eq_some_iff.mp ej).1
  refine ⟨(L.drop (j + 1)).take (i - j - 1), L.drop (i + 1), ?_, ?_, ?_⟩
  · rw [List.drop_eq_getElem_cons hj, (List.getElem?_eq_some_iff.mp ej).2]
    congr 1
    have e1 : L.drop i = si :: L.drop (i + 1) := by rw [List.drop_eq_getElem_cons hi, (List.getElem?_eq_some_iff.mp ei).2]
    rw [← e1]
    have e2 : L.drop i = (L.drop (j + 1)).drop (i - j - 1) := by rw [List.drop_drop]; congr 1; omega
    rw [e2, List.take_append_drop]
  · have e3 : i = j + (i - j) := by omega
    have e4 : L.take i = L.take j ++ (L.drop j).take (i - j) := by
      conv => lhs; rw [e3]
      exact List.take_add ..
    rw [e4, List.drop_eq_getElem_cons hj, (List.getElem?_eq_some_iff.mp ej).2]
    congr 1
    have e5 : i - j = (i - j - 1) + 1 := by omega
    conv => lhs; rw [e5]
    rw [List.take_succ_cons]
  · rw [List.length_take, List.length_drop]; omega
theorem mapAt {E : Base} {L : List Storey} {d : List Tr} {s0 si sj : Storey} {i j : Nat} {x : Addr} (hT : Tower g E L) (h5 : L.length ≤ 5) (h0 : L[0]? = some s0) (hd : d.length = s0.nms.length) (hk : DueOk 2 d) (hij : j ≤ i) (ej : L[j]? = some sj) (ei : L[i]? = some si)
    (hx : TyR g x (.inst sj.C ((dueL (L.take j) d).map E.ty))) :
    Pu prog w (KP w.params) 140 (call (.ref 491) [.ref x, .ref si.C]) (fun r g' => ∃ y, r = .ref y ∧ TyR g' y (.inst si.C ((dueL (L.take i) d).map E.ty)) ∧ (j = i → y = x)) g := by
  by_cases q : j = i
  · subst q
    rw [ej] at ei; cases ei
    exact ((mapSelf hx).of_room (by omega)).mono (Nat.le_refl _) fun r g' l ⟨q1, q2⟩ => ⟨x, q1, by subst q2; exact hx, fun _ => rfl⟩
  · obtain ⟨mid, rest, e1, e2, e3⟩ := split_at (by omega) ej ei
    have hT' := hT.drop j
    rw [e1] at hT'
    obtain ⟨l1, k1⟩ := due_ok hT h0 hd hk ej
    have hP := pathTo mid hT'
    have hW := walkTo mid hT' l1
    have hsi := hT.at_ ei
    have hne : sj.C ≠ si.C := by
      cases hT' with
      | cons a _ =>
        intro q
        refine a.new ?_
        unfold mroT
        rw [q]; simp
    have hv : si.tvs ≠ [] := fun q => by
      have h1 := hsi.len
      have h2 := hsi.few.1
      rw [q, List.length_nil] at h1
      omega
    refine ((mapUp hx hsi.cls hv hne hP hW (by simp; omega) (by omega)).of_room (by omega)).mono (Nat.le_refl _) fun r g' l ⟨y, q1, q2⟩ => ⟨y, q1, ?_, fun z => absurd z q⟩
    rw [e2, dueL_app2]
    exact q2
theorem one_depth {E : Base} {C : Addr} {d : List Tr} {k : Nat} (h : DueOk k d) (hk : k + 1 ≤ 8) : (Ty.inst C (d.map E.ty)).depth ≤ 8 := by
  rw [Ty.depth]
  have := E.depths d fun t ht => (h t ht).2
  omega
theorem mroT_at {E : Base} {L : List Storey} {s0 : Storey} (h0 : L[0]? = some s0) : mroT E L = s0.C :: mroT E (L.drop 1) := by
  cases L with
  | nil => simp at h0
  | cons a L => cases h0; rfl
theorem subTrue {E : Base} {L : List Storey} {d : List Tr} {s0 si : Storey} {i : Nat} {x y : Addr} (hE : BaseOk g E) (hT : Tower g E L) (h5 : L.length ≤ 5) (h0 : L[0]? = some s0) (hd : d.length = s0.nms.length) (hk : DueOk 2 d) (ei : L[i]? = some si)
    (hx : TyR g x (.inst s0.C (d.map E.ty))) (hy : TyR g y (.inst si.C ((dueL (L.take i) d).map E.ty))) :
    Pu prog w (KP w.params) 192 (call (.ref 520) [.ref x, .ref y] []) (fun r g' => r = .bool true) g := by
  obtain ⟨l1, k1⟩ := due_ok hT h0 hd hk ei
  have hi := (List.getElem?_eq_some_iff.mp ei).1
  have a0 := hT.at_ h0
  have ai := hT.at_ ei
  have hM := hT.mroN hE
  rw [mroT_at h0] at hM
  refine (subUp (k := 8) (us := (dueL (L.take i) d).map E.ty) (one_depth hk (by omega)) (Nat.le_trans (E.depths _ fun t ht => (k1 t ht).2) (by omega)) (Nat.le_trans (E.depths _ fun t ht => (k1 t ht).2) (by omega)) (by rw [Ty.closed]; exact E.closeds _) (E.closeds _) (E.closeds _) hx hy a0.cls hM ai.cls
    (nmsT_any (by rw [List.length_drop]; omega)) ai.inv (by rw [List.length_map, l1, ai.len]) (by rw [List.length_map, l1, ai.len]) (fun g' l => (mapAt (hT.mono l) h5 h0 hd hk (Nat.zero_le i) h0 ei (hx.mono l)).mono (Nat.le_refl _) fun r g2 _ ⟨y, q1, q2, _⟩ => ⟨y, q1, q2⟩) fun j u v e1 e2 => .inl (by rw [e1] at e2; cases e2; rfl)).mono (Nat.le_refl _) fun r g' _ q => ?_
  rw [q, decide_eq_true (rfl : (dueL (L.take i) d).map E.ty = _), Bool.or_true]
theorem subFalse {E : Base} {L : List Storey} {d : List Tr} {s0 si : Storey} {i : Nat} {x y : Addr} (hE : BaseOk g E) (hT : Tower g E L) (h5 : L.length ≤ 5) (h0 : L[0]? = some s0) (hd : d.length = s0.nms.length) (hk : DueOk 2 d) (ei : L[i]? = some si)
    (hx : TyR g x (.inst s0.C (d.map E.ty))) (hy : TyR g y (.inst si.C (.inst E.plain [] :: ((dueL (L.take i) d).map E.ty).drop 1))) :
    Pu prog w (KP w.params) 192 (call (.ref 520) [.ref x, .ref y] []) (fun r g' => r = .bool false) g := by
  obtain ⟨l1, k1⟩ := due_ok hT h0 hd hk ei
  have hi := (List.getElem?_eq_some_iff.mp ei).1
  have a0 := hT.at_ h0
  have ai := hT.at_ ei
  have hM := hT.mroN hE
  rw [mroT_at h0] at hM
  have hpos := ai.few.1
  have he : (dueL (L.take i) d).map E.ty ≠ .inst E.plain [] :: ((dueL (L.take i) d).map E.ty).drop 1 := by
    cases q : dueL (L.take i) d with
    | nil => rw [q] at l1; simp at l1; omega
    | cons t r =>
      intro z
      rw [List.map_cons] at z
      injection z with z _
      exact Base.ty_ne hE t z
  have hc : closeds (.inst E.plain [] :: ((dueL (L.take i) d).map E.ty).drop 1) = true := by
    rw [← List.map_drop, Mine.closeds, E.closeds]; rfl
  have hdp : depths (.inst E.plain [] :: ((dueL (L.take i) d).map E.ty).drop 1) ≤ 8 := by
    rw [← List.map_drop, Mine.depths]
    refine Nat.max_le.mpr ⟨by rw [Ty.depth, Mine.depths]; omega, Nat.le_trans (E.depths (k := 2 + i) _ fun t ht => (k1 t (List.mem_of_mem_drop ht)).2) (by omega)⟩
  refine (subUp (k := 8) (us := (dueL (L.take i) d).map E.ty) (one_depth hk (by omega)) (Nat.le_trans (E.depths _ fun t ht => (k1 t ht).2) (by omega)) hdp (by rw [Ty.closed]; exact E.closeds _) (E.closeds _) hc hx hy a0.cls hM ai.cls
    (nmsT_any (by rw [List.length_drop]; omega)) ai.inv (by rw [List.length_map, l1, ai.len]) (by rw [List.length_cons, List.length_drop, List.length_map, l1, ← ai.len]; omega) (fun g' l => (mapAt (hT.mono l) h5 h0 hd hk (Nat.zero_le i) h0 ei (hx.mono l)).mono (Nat.le_refl _) fun r g2 _ ⟨y, q1, q2, _⟩ => ⟨y, q1, q2⟩) fun j u v e1 e2 => ?_).mono (Nat.le_refl _) fun r g' _ q => ?_
  · cases j with
    | zero =>
      cases e2
      rw [List.getElem?_map] at e1
      obtain ⟨t, _, rfl⟩ := Option.map_eq_some_iff.mp e1
      exact .inr (hE.apart t)
    | succ j =>
      left
      rw [List.getElem?_cons_succ, List.getElem?_drop, show 1 + j = j + 1 by omega, e1] at e2
      cases e2; rfl
  · rw [q, decide_eq_false he, Bool.or_false]
    refine congrArg Value.bool (decide_eq_false fun z => ?_)
    injection z with z1 z2
    by_cases q0 : i = 0
    · subst q0
      exact he z2
    · obtain ⟨mid, rest, e1, e2, e3⟩ := split_at (Nat.pos_of_ne_zero q0) h0 ei
      have hT' := hT.drop 0
      rw [e1] at hT'
      cases hT' with
      | cons a _ =>
        refine a.new ?_
        unfold mroT
        rw [z1]; simp
theorem subOther {E : Base} {L : List Storey} {d ws : List Tr} {s0 : Storey} {x y D : Addr} {tvs bs mro : List Addr} (hE : BaseOk g E) (hT : Tower g E L) (h5 : L.length ≤ 5) (h0 : L[0]? = some s0) (hk : DueOk 2 d) (hD : ClsA g D "other" tvs bs mro) (hne : ∀ x ∈ mroT E L, x ≠ D)
    (hx : TyR g x (.inst s0.C (d.map E.ty))) (hy : TyR g y (.inst D (ws.map E.ty))) :
    Pu prog w (KP w.params) 192 (call (.ref 520) [.ref x, .ref y] []) (fun r g' => r = .bool false) g := by
  have a0 := hT.at_ h0
  have hM := hT.mroN hE
  rw [mroT_at h0] at hM hne
  exact (subNo (k := 8) (one_depth hk (by omega)) (by rw [Ty.closed]; exact E.closeds _) (by rw [Ty.closed]; exact E.closeds _) hx hy ⟨hne _ (.head _), _, _, _, _, _, _, _, _, _, a0.cls, hM, hD, nmsT_other h5⟩).of_room (by omega)

end
section
variable {prog : Program} {w : World} {g : G} {n : Nat}
theorem filt1 {r : Addr} {l : List Addr} (hn : r ∉ l) : (l ++ [r]).filter (fun x => decide (x ≠ r)) ++ (l ++ [r]).filter (fun x => !decide (x ≠ r)) = l ++ [r] := by
  have ne : ∀ x ∈ l, x ≠ r := fun x hx q => hn (by rw [← q]; exact hx)
  have e1 : (l ++ [r]).filter (fun x => decide (x ≠ r)) = l := by
    rw [List.filter_append, List.filter_eq_self.mpr fun x hx => decide_eq_true (ne x hx)]
    simp
  have e2 : (l ++ [r]).filter (fun x => !decide (x ≠ r)) = [r] := by
    rw [List.filter_append, List.filter_eq_nil_iff.mpr fun x hx => by rw [decide_eq_true (ne x hx)]; exact Bool.false_ne_true]
    simp
  rw [e1, e2]
theorem mk_root {nm : Str} {t : Tok} {tvl bl : Addr} (hl : Lst g tvl []) (hb : Lst g bl []) :
    Pu prog w (KP w.params) 10 (call (.ref 64) [.str nm t, .ref tvl, .ref bl] []) (fun r g' => ∃ C, r = .ref C ∧ g C = none ∧ ClsA g' C nm [] [] [C]) g :=
  mk_TypeInfo (tvs := []) (bs := []) (mb := []) (fl := fun _ => true) (fun j tv e => by cases j <;> cases e) hl hb (by simp) (by simp) (.inl ⟨rfl, rfl⟩) List.nodup_nil (fun x hx => nomatch hx) rfl
theorem mk_one {nm nmB nmr : Str} {t : Tok} {tvl bl b B root : Addr} {hd : List Ty} {tvs tvB bsB l tvr mr : List Addr} (hT : InvV g tvs) (hl : Lst g tvl (tvs.map .ref)) (hb : Lst g bl [.ref b]) (hz : tvs.length ≤ 9) (hzl : l.length ≤ 80)
    (tb : TyR g b (.inst B hd)) (cB : ClsA g B nmB tvB bsB (l ++ [root])) (hs : ∀ x ∈ l, ∃ nm tvs c bs m, ClsA g x nm tvs (c :: bs) m) (hr : ClsA g root nmr tvr [] mr) (hnd : (l ++ [root]).Nodup) :
    Pu prog w (KP w.params) 10 (call (.ref 64) [.str nm t, .ref tvl, .ref bl] []) (fun r g' => ∃ C, r = .ref C ∧ g C = none ∧ ClsA g' C nm tvs [b] (C :: (l ++ [root]))) g := by
  have hn : root ∉ l := fun q => (List.nodup_append.mp hnd).2.2 _ q _ (.head _) rfl
  refine mk_TypeInfo (bs := [b]) (mb := l ++ [root]) (fl := fun x => decide (x ≠ root)) hT hl hb hz (by simp; omega) (.inr ⟨b, B, hd, nmB, tvB, bsB, rfl, tb, cB⟩) hnd (fun x hx => ?_) (filt1 hn)
  rcases List.mem_append.mp hx with hx | hx
  · obtain ⟨a1, a2, a3, a4, a5, a6⟩ := hs x hx
    exact ⟨a1, a2, a3 :: a4, a5, a6, (decide_eq_true (p := x ≠ root) (fun q => hn (by rw [← q]; exact hx))).trans rfl⟩
  · rw [List.mem_singleton.mp hx]
    exact ⟨nmr, tvr, [], mr, hr, by simp⟩
/-- a variable's object -/
structure TvOk (g : G) (x d : Addr) (i : Int) : Prop where
  id : TvId g d i
  obj : ∃ nm t0 ub vl t1, Inst g x 204 [("name", .str nm t0), ("id", .ref d), ("upper_bound", .ref ub), ("values", .ref vl), ("variance", .int 0 t1)]
theorem TvOk.mono {g g' : G} {x d : Addr} {i : Int} (h : TvOk g x d i) (l : Le g g') : TvOk g' x d i := ⟨h.id.mono l, let ⟨a, b, c, d, e, f⟩ := h.obj; ⟨a, b, c, d, e, f.mono l⟩⟩
theorem TvOk.ty {g : G} {x d : Addr} {i : Int} (h : TvOk g x d i) : TyR g x (.var d) := let ⟨_, _, _, _, _, f⟩ := h.obj; .var f h.id
theorem mk_tv {nm : Str} {t : Tok} {d vl ub : Addr} {i : Int} (hd : TvId g d i) : Pu prog w (KP w.params) 5 (call (.ref 204) [.str nm t, .ref d, .ref vl, .ref ub] []) (fun r g' => ∃ x, r = .ref x ∧ TvOk g' x d i) g :=
  (mk_TypeVarType hd).mono (Nat.le_refl _) fun r g' l ⟨x, v, e, I⟩ => ⟨x, e, hd.mono l, _, _, _, _, _, I⟩
theorem InvV.nil {g : G} : InvV g [] := fun j tv e => by cases j <;> cases e
theorem InvV.cons {g : G} {x d : Addr} {i : Int} {tvs : List Addr} (h : TvOk g x d i) (k : InvV g tvs) : InvV g (x :: tvs) := fun j tv e => by
  cases j with
  | zero => cases e; obtain ⟨a, b, c, dd, e, f⟩ := h.obj; exact ⟨a, b, d, c, dd, e, f⟩
  | succ j => exact k j tv e
/-- two lists, item by item -/
inductive Al {α β : Type} (R : α → β → Prop) : List α → List β → Prop
  | nil : Al R [] []
  | cons {a : α} {b : β} {l : List α} {m : List β} : R a b → Al R l m → Al R (a :: l) (b :: m)
theorem Al.length {α β : Type} {R : α → β → Prop} {l : List α} {m : List β} (h : Al R l m) : l.length = m.length := by
  induction h with
  | nil => rfl
  | cons _ _ ih => simp [ih]
theorem Al.imp {α β : Type} {R S : α → β → Prop} {l : List α} {m : List β} (h : Al R l m) (k : ∀ a b, R a b → S a b) : Al S l m := by
  induction h with
  | nil => exact .nil
  | cons a _ ih => exact .cons (k _ _ a) ih
theorem Al.app {α β : Type} {R : α → β → Prop} {l : List α} {m : List β} {a : α} {b : β} (h : Al R l m) (k : R a b) : Al R (l ++ [a]) (m ++ [b]) := by
  induction h with
  | nil => exact .cons k .nil
  | cons a _ ih => exact .cons a ih
theorem Al.get {α β : Type} {R : α → β → Prop} : ∀ {l : List α} {m : List β} {j : Nat} {b : β}, Al R l m → m[j]? = some b → ∃ a, l[j]? = some a ∧ R a b
  | _, _, 0, _, .cons a _, e => by cases e; exact ⟨_, rfl, a⟩
  | _, _, j + 1, _, .cons _ h, e => Al.get (j := j) h e
  | _, _, _, _, .nil, e => by simp at e
theorem Al.of {α β : Type} {R : α → β → Prop} : ∀ {l : List α} {m : List β}, l.length = m.length → (∀ (j : Nat) a b, l[j]? = some a → m[j]? = some b → R a b) → Al R l m
  | [], [], _, _ => .nil
  | a :: l, b :: m, e, h => .cons (h 0 a b rfl rfl) (Al.of (by simpa using e) fun j a b p q => h (j + 1) a b (by simpa using p) (by simpa using q))
  | [], _ :: _, e, _ => by simp at e
  | _ :: _, [], e, _ => by simp at e
/-- what stands where trees do -/
def TrsV (g : G) (vs : List Value) (ts : List Tr) : Prop := Al (TrV g) vs ts
theorem TrsV.mono {g g' : G} {vs : List Value} {ts : List Tr} (h : TrsV g vs ts) (l : Le g g') : TrsV g' vs ts := Al.imp h fun _ _ k => k.mono l
theorem TrsV.rd {g : G} {vs : List Value} {ts : List Tr} (h : TrsV g vs ts) : RdAll g vs (ts.map Tr.data) := by
  induction h with
  | nil => exact .nil
  | cons a _ ih => exact .cons a ih
theorem eqv_tr : ∀ t : Tr, PyData.eqv t.data t.data = true
  | .leaf s => by simp [Tr.data, PyData.eqv]
  | .row t => by simp [Tr.data, PyData.eqv, PyData.eqvAll, eqv_tr t]
theorem eqv_trs : ∀ l : List Tr, PyData.eqvAll (l.map Tr.data) (l.map Tr.data) = true
  | [] => by simp [PyData.eqvAll]
  | t :: l => by simp [PyData.eqvAll, eqv_tr t, eqv_trs l]
theorem shaped_trs {k : Nat} {l : List Tr} (h : DueOk k l) (hk : k ≤ 60) : SeqAt.shaped (.list (l.map Tr.data)) = true := by
  have h1 : ∀ t ∈ l, t.data.canLay0 = true ∧ t.data.depth ≤ 60 := fun t ht => by
    have := Tr.shaped t (leafIn_mono (fun s h => ABok h) (h t ht).1) (Nat.le_trans (h t ht).2 hk)
    refine ⟨SeqAt.canLay_of_shaped this, ?_⟩
    have h2 : ∀ t : Tr, t.data.depth ≤ t.depth := by
      intro t
      induction t with
      | leaf s => simp [Tr.data, PyData.depth]
      | row t ih => simp only [Tr.data, PyData.depth, PyData.depthAll, Tr.depth]; omega
    exact Nat.le_trans (h2 t) (Nat.le_trans (h t ht).2 hk)
  have h2 : ∀ l : List Tr, (∀ t ∈ l, t.data.canLay0 = true ∧ t.data.depth ≤ 60) → PyData.canLayAll0 (l.map Tr.data) = true ∧ PyData.depthAll (l.map Tr.data) ≤ 60 := by
    intro l
    induction l with
    | nil => intro _; exact ⟨rfl, Nat.zero_le _⟩
    | cons t l ih =>
      intro h
      have a := h t (.head _)
      have b := ih fun t ht => h t (.tail _ ht)
      refine ⟨by simp [PyData.canLayAll0, a.1, b.1], ?_⟩
      simp only [List.map_cons, PyData.depthAll]
      omega
  have := h2 l h1
  unfold SeqAt.shaped
  simp only [PyData.canLay0, PyData.depth, this.1, Bool.true_and]
  exact decide_eq_true (by omega)

end
section
variable {prog : Program} {w : World} {g : G} {n : Nat}
theorem Al.get_l {α β : Type} {R : α → β → Prop} : ∀ {l : List α} {m : List β} {j : Nat} {a : α}, Al R l m → l[j]? = some a → ∃ b, m[j]? = some b ∧ R a b
  | _, _, 0, _, .cons a _, e => by cases e; exact ⟨_, rfl, a⟩
  | _, _, j + 1, _, .cons _ h, e => Al.get_l (j := j) h e
  | _, _, _, _, .nil, e => by simp at e
theorem T.eqData {K : Frag} {c : Cx} {ρ : Str → Option Value} {M : Mem} {a b : Value} {da db : PyData} {Q : Post Value} (O : c.Ok K (n + 8)) (ra : Rd g a da) (rb : Rd g b db) (sa : SeqAt.shaped da = true) (sb : SeqAt.shaped db = true) (h : Q (.bool (PyData.eqv da db)) g ρ M) :
    T prog w c (compareOp .Eq a b) Q g ρ M := T.tok fun s hA R k => by
  obtain ⟨as, ha⟩ := ra.reads hA.know
  obtain ⟨bs, hb⟩ := rb.reads hA.know
  exact eq_dataH ha hb sa sb (by have := O.room.units; omega) (k _ s.toks h)
theorem partE {oc : Value} {od : Option Addr} {fd : FuncData} {osl : Array (Option Value)} {body : List Stmt} (hK : (KP w.params).lookup 655 = some ⟨oc, od, .func fd, osl⟩) (hb : fd.body = .stmts body) {c : Cx} (O : c.Ok (KP w.params) 259) (W : c.Own) (hS : c.env.scope.names = fd.scope.names)
    {ρ : Str → Option Value} {M : Mem} {E : Base} {L : List Storey} {s0 : Storey} {d : List Tr} {one oth wd : Addr} {tvs bs mro : List Addr} {f : Str → Option Value} {m : Nat} (hE : BaseOk g E) (hT : Tower g E L) (h5 : L.length ≤ 5) (h0 : L[0]? = some s0) (hd : d.length = s0.nms.length) (hk : DueOk 2 d)
    (h1 : TyR g one (.inst s0.C (d.map E.ty))) (hO : ClsA g oth "other" tvs bs mro) (hO2 : tvs.length = 2) (hne : ∀ x ∈ mroT E L, x ≠ oth) (hf : g wd = some (.map f m)) (fA : f "A" = some (.ref E.aA)) (fB : f "B" = some (.ref E.aB))
    (r1 : ρ "one" = some (.ref one)) (r2 : ρ "plain" = some (.ref E.plain)) (r3 : ρ "root" = some (.ref E.root)) (r4 : ρ "other" = some (.ref oth)) (r5 : ρ "world" = some (.ref wd)) :
    T prog w c (execs (body.drop 13) c.env) (fun fl _ _ _ => retOf fl = .bool true) g ρ M := by
  cases hK
  cases hb
  dsimp only [List.drop] at hS ⊢
  have hnew : s0.C ≠ E.plain ∧ s0.C ≠ E.root := by
    have a0 := (hT.at_ h0).new
    exact ⟨fun q => a0 (by unfold mroT; rw [q]; simp), fun q => a0 (by unfold mroT; rw [q]; simp)⟩
  refine T.execs_cons (T.assign_lc1 O W hS (by kernel_rfl) (by kernel_rfl) (by kernel_rfl) (fun _ => rfl) ?_)
  tb_start
  refine T.newTuple (by simp) fun b1 hb1 => ?_
  have l1 := Le.setG (m := .tup [Value.ref E.plain, Value.ref E.root]) hb1
  have S1 : Tup (setG g b1 (.tup [Value.ref E.plain, Value.ref E.root])) b1 [Value.ref E.plain, Value.ref E.root] := setG_self
  have hE1 := hE.mono l1
  have hT1 := hT.mono l1
  have h11 := h1.mono l1
  have hO1 := hO.mono l1
  have hf1 := l1 _ _ hf
  generalize setG g b1 (.tup [Value.ref E.plain, Value.ref E.root]) = g1 at l1 S1 hE1 hT1 h11 hO1 hf1
  refine Seqs.tuple O S1 (LcK.map (fun i v g' => ∃ y, v = .ref y ∧ TyR g' y (.inst (if i = 0 then E.plain else E.root) [])) (fun i v _ _ l ⟨y, e, q⟩ => ⟨y, e, q.mono l⟩) (by kernel_rfl) (by simp) ?_ ?_)
  · intro D' c' O' hS' i v g' ρ' acc hi hv l hρ
    have e1 : ρ' "one" = some (.ref one) := (hρ "one" (by kernel_rfl)).trans (by k_subL)
    have hi2 : i = 0 ∨ i = 1 := by simp at hi; omega
    rcases hi2 with rfl | rfl
    · have hv' : v = .ref E.plain := by simpa using hv.symm
      subst hv'
      tb_start
      refine T.pu O' (mapBare (h11.mono l) (hE1.plain.mono l) hnew.1) (by omega) fun r g2 l2 ⟨y, q1, q2⟩ => ?_
      exact ⟨rfl, y, q1, q2⟩
    · have hv' : v = .ref E.root := by simpa using hv.symm
      subst hv'
      tb_start
      refine T.pu O' (mapBare (h11.mono l) (hE1.root.mono l) hnew.2) (by omega) fun r g2 l2 ⟨y, q1, q2⟩ => ?_
      exact ⟨rfl, y, q1, q2⟩
  intro BL ys g2 l2 hlen hys
  cases ys with
  | nil => cases hlen
  | cons y0 ys =>
  cases ys with
  | nil => simp at hlen
  | cons y1 ys =>
  cases ys with
  | cons _ _ => simp at hlen
  | nil =>
  obtain ⟨x0, rfl, t0⟩ := hys 0 y0 rfl
  obtain ⟨x1, rfl, t1⟩ := hys 1 y1 rfl
  refine T.freeze0 fun hBL => ?_
  have S2 : Lst (setG g2 BL (.list [.ref x0, .ref x1])) BL [.ref x0, .ref x1] := setG_self
  have l3 : Le g2 (setG g2 BL (.list [.ref x0, .ref x1])) := Le.setG hBL
  have t0' := t0.mono l3
  have t1' := t1.mono l3
  have l13 := l2.trans l3
  generalize setG g2 BL (.list [.ref x0, .ref x1]) = g3 at S2 l3 t0' t1' l13
  cases t0' with
  | @inst _ e0 _ as0 _ I0 c0 a0 b0 z0 =>
  cases b0
  cases t1' with
  | @inst _ e1 _ as1 _ I1 c1 a1 b1' z1 =>
  cases b1'
  have cP := hE1.plain.mono l13
  have cR := hE1.root.mono l13
  tb_start
  refine T.lc O hS (by kernel_rfl) (by kernel_rfl) (fun _ => rfl) ?_
  tb_start
  refine Seqs.list O S2 (LcK.map (fun i v g' => Rd g' v (.tuple [.str (if i = 0 then "plain" else "object"), .tuple []])) (fun i v _ _ l q => q.mono l) (by kernel_rfl) (by simp) ?_ ?_)
  · intro D' c' O' hS' i v g' ρ' acc hi hv l hρ
    have hi2 : i = 0 ∨ i = 1 := by simp at hi; omega
    rcases hi2 with rfl | rfl
    · have hv' : v = .ref x0 := by simpa using hv.symm
      subst hv'
      have I0' := I0.mono l
      obtain ⟨t0, dd, tvl, nml, bl, ml, names, o1, o2, o3, o4, o5, o6, o7⟩ := (cP.mono l).obj
      tb_start
      refine T.newTuple (by simp) fun b hb => ?_
      have l4 := Le.setG (m := .tup [Value.str "plain" t0, .ref e0]) hb
      exact ⟨rfl, .tup setG_self (.cons (.str _ _) (.cons (.tup (l4 _ _ (l _ _ a0)) .nil) .nil))⟩
    · have hv' : v = .ref x1 := by simpa using hv.symm
      subst hv'
      have I1' := I1.mono l
      obtain ⟨t0, dd, tvl, nml, bl, ml, names, o1, o2, o3, o4, o5, o6, o7⟩ := (cR.mono l).obj
      tb_start
      refine T.newTuple (by simp) fun b hb => ?_
      have l4 := Le.setG (m := .tup [Value.str "object" t0, .ref e1]) hb
      exact ⟨rfl, .tup setG_self (.cons (.str _ _) (.cons (.tup (l4 _ _ (l _ _ a1)) .nil) .nil))⟩
  intro CL zs g4 l4 hlen hzs
  have RC : RdAll g4 zs [.tuple [.str "plain", .tuple []], .tuple [.str "object", .tuple []]] := by
    cases zs with
    | nil => cases hlen
    | cons z0 zs =>
    cases zs with
    | nil => simp at hlen
    | cons z1 zs =>
    cases zs with
    | cons _ _ => simp at hlen
    | nil => exact .cons (hzs 0 z0 rfl) (.cons (hzs 1 z1 rfl) .nil)
  refine T.freeze0 fun hCL => ?_
  have S5 : Rd (setG g4 CL (.list zs)) (.ref CL) (.list [.tuple [.str "plain", .tuple []], .tuple [.str "object", .tuple []]]) := .list setG_self (RC.mono (Le.setG hCL))
  have l5 : Le g4 (setG g4 CL (.list zs)) := Le.setG hCL
  have l15 := l13.trans (l4.trans l5)
  generalize setG g4 CL (.list zs) = g5 at S5 l5 l15
  tb_start
  refine T.newTuple (by simp) fun b6 hb6 => ?_
  have l6 := Le.setG (m := .tup []) hb6
  tb_start
  refine T.newTuple (by simp) fun b7 hb7 => ?_
  rename_i tk1
  have l7 := Le.setG (m := .tup [Value.str "plain" tk1, .ref b6]) hb7
  have S7 : Rd (setG (setG g5 b6 (.tup [])) b7 (.tup [Value.str "plain" tk1, .ref b6])) (.ref b7) (.tuple [.str "plain", .tuple []]) := .tup setG_self (.cons (.str _ _) (.cons (.tup (l7 _ _ setG_self) .nil) .nil))
  have l57 := l6.trans l7
  generalize setG (setG g5 b6 (.tup [])) b7 (.tup [Value.str "plain" tk1, .ref b6]) = g7 at S7 l57
  clear l6 l7 hb6 hb7
  tb_start
  refine T.newTuple (by simp) fun b8 hb8 => ?_
  have l8 := Le.setG (m := .tup []) hb8
  tb_start
  refine T.newTuple (by simp) fun b9 hb9 => ?_
  rename_i tk2
  have l9 := Le.setG (m := .tup [Value.str "object" tk2, .ref b8]) hb9
  have S9 : Rd (setG (setG g7 b8 (.tup [])) b9 (.tup [Value.str "object" tk2, .ref b8])) (.ref b9) (.tuple [.str "object", .tuple []]) := .tup setG_self (.cons (.str _ _) (.cons (.tup (l9 _ _ setG_self) .nil) .nil))
  have l79 := l8.trans l9
  generalize setG (setG g7 b8 (.tup [])) b9 (.tup [Value.str "object" tk2, .ref b8]) = g9 at S9 l79
  clear l8 l9 hb8 hb9
  tb_start
  refine T.newListF (by simp) fun b10 hb10 => ?_
  have l10 := Le.setG (m := .list [Value.ref b7, .ref b9]) hb10
  have S10 : Rd (setG g9 b10 (.list [Value.ref b7, .ref b9])) (.ref b10) (.list [.tuple [.str "plain", .tuple []], .tuple [.str "object", .tuple []]]) := .list setG_self (.cons (S7.mono (l79.trans l10)) (.cons (S9.mono l10) .nil))
  have S5' := S5.mono (l57.trans (l79.trans l10))
  have l110 := l15.trans (l57.trans (l79.trans l10))
  generalize setG g9 b10 (.list [Value.ref b7, .ref b9]) = g10 at S10 S5' l110
  refine T.neData (n := 251) O S5' S10 (by decide +kernel) (by decide +kernel) ?_
  rw [show PyData.eqv (.list [.tuple [.str "plain", .tuple []], .tuple [.str "object", .tuple []]]) (.list [.tuple [.str "plain", .tuple []], .tuple [.str "object", .tuple []]]) = true by decide +kernel]
  tb_start
  have hE10 := hE1.mono l110
  have hT10 := hT1.mono l110
  have h110 := h11.mono l110
  have hO10 := hO1.mono l110
  have hf10 := l110 _ _ hf1
  have hP := pathNone hE10 hT10 hne
  have hbot : botC E L = s0.C := by
    cases L with
    | nil => simp at h0
    | cons a L => cases h0; rfl
  have hm0 : s0.C ∈ mroT E L := hbot ▸ botC_mem L
  rw [hbot] at hP
  refine T.pu O (mapNone h110 hO10 (by intro q; rw [q] at hO2; cases hO2) (hne _ hm0) hP (by omega)) (by omega) fun r g11 l11 ⟨asd, ea, any, q1, q2, q3, q4⟩ => ?_
  subst q1
  rw [hO2] at q3
  obtain ⟨dO, hdO⟩ := (hO10.mono l11).cl
  tb_start
  refine T.isRef hdO hdO (fun _ q => nomatch q) (fun _ q => nomatch q) ?_
  rw [decide_eq_true rfl]
  tb_start
  refine T.lc O hS (by kernel_rfl) (by kernel_rfl) (fun _ => rfl) ?_
  tb_start
  refine Seqs.tuple O q3 (LcK.map (fun i v g' => ∃ t, v = .str "any" t) (fun i v _ _ l q => q) (by kernel_rfl) (by simp) ?_ ?_)
  · intro D' c' O' hS' i v g' ρ' acc hi hv l hρ
    have e5 : ρ' "world" = some (.ref wd) := (hρ "world" (by kernel_rfl)).trans (by k_subL)
    have hv' : v = .ref any := (List.eq_of_mem_replicate (List.mem_of_getElem? hv))
    subst hv'
    tb_start
    refine T.pu O' (shownAny (q4.mono l)) (by omega) fun r g2 l2 q => ?_
    exact ⟨rfl, q⟩
  intro DL zs2 g12 l12 hlen2 hzs2
  have RC2 : RdAll g12 zs2 [.str "any", .str "any"] := by
    cases zs2 with
    | nil => cases hlen2
    | cons z0 zs =>
    cases zs with
    | nil => simp at hlen2
    | cons z1 zs =>
    cases zs with
    | cons _ _ => simp at hlen2
    | nil =>
      obtain ⟨t0, rfl⟩ := hzs2 0 z0 rfl
      obtain ⟨t1, rfl⟩ := hzs2 1 z1 rfl
      exact .cons (.str _ _) (.cons (.str _ _) .nil)
  refine T.freeze0 fun hDL => ?_
  have S12 : Rd (setG g12 DL (.list zs2)) (.ref DL) (.list [.str "any", .str "any"]) := .list setG_self (RC2.mono (Le.setG hDL))
  have l13' : Le g12 (setG g12 DL (.list zs2)) := Le.setG hDL
  have l1013 := l11.trans (l12.trans l13')
  generalize setG g12 DL (.list zs2) = g13 at S12 l13' l1013
  tb_start
  refine T.newListF (by simp) fun b14 hb14 => ?_
  rename_i ta tb
  have l14 := Le.setG (m := .list [Value.str "any" ta, .str "any" tb]) hb14
  refine T.eqData (n := 251) O (S12.mono l14) (.list setG_self (.cons (.str _ _) (.cons (.str _ _) .nil))) (by decide +kernel) (by decide +kernel) ?_
  rw [show PyData.eqv (.list [.str "any", .str "any"]) (.list [.str "any", .str "any"]) = true by decide +kernel]
  have l1014 := l1013.trans l14
  tb_start
  refine T.itemD ⟨m, .inl (l1014 _ _ hf10)⟩ fA (by rfl) ?_
  tb_start
  refine T.itemD ⟨m, .inl (l1014 _ _ hf10)⟩ fB (by rfl) ?_
  tb_start
  refine T.newListF (by simp) fun b15 hb15 => ?_
  have l15' := Le.setG (m := .list [Value.ref E.aA, .ref E.aB]) hb15
  tb_start
  refine T.pu O (mk_Instance (vs := [.ref E.aA, .ref E.aB]) setG_self (by simp)) (by omega) fun r g16 l16 ⟨z, ez, q1, q2, q3⟩ => ?_
  subst q1
  have l1016 := l1014.trans (l15'.trans l16)
  have hE16 := hE10.mono l1016
  have tz : TyR g16 z (.inst oth ([Tr.leaf "A", Tr.leaf "B"].map E.ty)) := by
    refine .inst (as := [E.aA, E.aB]) q2 (hO10.cl.mono l1016) q3 (.cons ?_ (.cons ?_ .nil)) (by simp)
    · show TyR g16 E.aA (E.σW "A")
      unfold Base.σW
      rw [if_pos rfl]
      exact hE16.tA
    · show TyR g16 E.aB (E.σW "B")
      unfold Base.σW
      rw [if_neg neBA]
      exact hE16.tB
  tb_start
  refine T.pu O (subOther hE16 (hT10.mono l1016) h5 h0 hk (hO10.mono l1016) hne (h110.mono l1016) tz) (by omega) fun r g17 l17 q => ?_
  subst q
  tb_start
  rfl

end
section
variable {prog : Program} {w : World} {g : G} {n : Nat}
theorem noPylong1 {a : Int} : Builtin.divisionGoesByPylong a (-1) = false := by
  unfold Builtin.divisionGoesByPylong
  show (decide _ && _) = false
  rw [show (decide ((if ((-1 : Int) == 0) = true then 0 else (-1 : Int).natAbs.log2 / 30 + 1) > 300)) = false by decide +kernel]
  rfl
theorem T.negI {c : Cx} {ρ : Str → Option Value} {M : Mem} {a : Int} {t : Tok} {Q : Post Value} (h : ∀ t, Q (.int (-a) t) g ρ M) : T prog w c (unaryOp .USub (.int a t)) Q g ρ M := T.tok fun s _ _ k => PyProof.Rows.neg_int (k _ _ (h _))
theorem T.sliceT2 {c : Cx} {ρ : Str → Option Value} {M : Mem} {value slice : Expr} {a sl : Addr} {vs : List Value} {i : Nat} {u : Tok} {Q : Post Value} (S : Tup g a vs) (hz : vs.length ≤ 1000) (h1 : 1 ≤ i) (hi : i ≤ vs.length)
    (hs : subscripted slice false (.ref a) (.ref sl) = PySem.operate [.ref sl, .ref a] (getItem (.ref a) (.ref sl)))
    (h : ∀ b, g b = none → Q (.ref b) (setG g b (.tup (vs.drop i))) ρ M) : T prog w c (subscriptTail value slice (.ref a) (.ref sl)) Q g ρ ((sl, .raw (sliceO i u)) :: M) := by
  refine T.postDrop (p := (sl, .raw (sliceO i u))) (T.push (m := .tup (vs.drop i)) (o := { cls := .type "tuple", data := .seq (vs.drop i).toArray }) (f := .ref) rfl rfl (fun s hA R kk => ?_) fun b hb => ⟨M, rfl, h b hb⟩)
  obtain ⟨_, hsl, rfl⟩ := hA.mem _ (.head _)
  have hT : IsTup s.heap a vs.toArray := ⟨_, S.at hA, rfl, 0, rfl⟩
  exact tail_any (T := "tuple") hT.typeIs PyProof.Rows.slot_tuple_getitem.lookup (getItem_tuple_from hT ⟨_, hsl, rfl, rfl⟩ h1 (by simpa using hi) (by simpa using kk s.heap s.toks (Ext.refl _)) (by rw [List.size_toArray, sizeLine_eq]; omega)) hs
theorem TysR.drop1 {as : List Addr} {ts : List Ty} (h : TysR g as ts) : TysR g (as.drop 1) (ts.drop 1) := by
  cases h with
  | nil => exact .nil
  | cons _ h => exact h
theorem IfK.share {b : Bool} {X Y : Prop} (h : b = true → Y → X) (k : Y) : IfK b X Y := ⟨fun e => h e k, fun _ => k⟩
/-- what stands once the storeys are built -/
structure Fx (g : G) (E : Base) (L : List Storey) (s0 : Storey) (d : List Tr) (one oth wd SL HL : Addr) (low : Nat) (sl hl : List Value) (f : Str → Option Value) (m : Nat) (tvs : List Addr) : Prop where
  hE : BaseOk g E
  hT : Tower g E L
  h5 : L.length ≤ 5
  h0 : L[0]? = some s0
  hd : d.length = s0.nms.length
  hk : DueOk 2 d
  h1 : TyR g one (.inst s0.C (d.map E.ty))
  hO : ∃ bs mro, ClsA g oth "other" tvs bs mro
  hO2 : tvs.length = 2
  hne : ∀ x ∈ mroT E L, x ≠ oth
  hf : g wd = some (.map f m)
  fA : f "A" = some (.ref E.aA)
  fB : f "B" = some (.ref E.aB)
  hL : L.length = low + 1
  sLs : Lst g SL sl
  sl1 : ∀ (i : Nat) (si : Storey), L[i]? = some si → ∃ T nl vsn, sl[low - i]? = some (.ref T) ∧ Tup g T [.ref nl, .ref si.C] ∧ Lst g nl vsn ∧ StrsV vsn si.nms
  hLs : Lst g HL hl
  hl1 : ∀ (i : Nat) (si : Storey), L[i]? = some si → ∃ H hv, hl[low - i]? = some (.ref H) ∧ Lst g H hv ∧ TrsV g hv si.hd
theorem Fx.mono {g g' : G} {E : Base} {L : List Storey} {s0 : Storey} {d : List Tr} {one oth wd SL HL : Addr} {low : Nat} {sl hl : List Value} {f : Str → Option Value} {m : Nat} {tvs : List Addr} (h : Fx g E L s0 d one oth wd SL HL low sl hl f m tvs) (l : Le g g') : Fx g' E L s0 d one oth wd SL HL low sl hl f m tvs :=
  ⟨h.hE.mono l, h.hT.mono l, h.h5, h.h0, h.hd, h.hk, h.h1.mono l, let ⟨a, b, c⟩ := h.hO; ⟨a, b, c.mono l⟩, h.hO2, h.hne, l _ _ h.hf, h.fA, h.fB, h.hL, h.sLs.mono l, fun i si e => let ⟨T, nl, vsn, a, b, c, q⟩ := h.sl1 i si e; ⟨T, nl, vsn, a, b.mono l, c.mono l, q⟩, h.hLs.mono l,
    fun i si e => let ⟨H, hv, a, b, c⟩ := h.hl1 i si e; ⟨H, hv, a, b.mono l, c.mono l⟩⟩
theorem partD {oc : Value} {od : Option Addr} {fd : FuncData} {osl : Array (Option Value)} {body : List Stmt} (hK : (KP w.params).lookup 655 = some ⟨oc, od, .func fd, osl⟩) (hb : fd.body = .stmts body) {c : Cx} (O : c.Ok (KP w.params) 259) (W : c.Own) (hS : c.env.scope.names = fd.scope.names)
    {ρ : Str → Option Value} {E : Base} {L : List Storey} {s0 : Storey} {d : List Tr} {one oth wd SL HL AL : Addr} {low : Nat} {sl hl dv : List Value} {tl : Tok} {f : Str → Option Value} {m : Nat} {tvs : List Addr} (F : Fx g E L s0 d one oth wd SL HL low sl hl f m tvs)
    (hAL : Lst g AL dv) (hdv : TrsV g dv d)
    (r1 : ρ "one" = some (.ref one)) (r2 : ρ "plain" = some (.ref E.plain)) (r3 : ρ "root" = some (.ref E.root)) (r4 : ρ "other" = some (.ref oth)) (r5 : ρ "world" = some (.ref wd)) (r6 : ρ "storeys" = some (.ref SL)) (r7 : ρ "heads" = some (.ref HL)) (r8 : ρ "low" = some (.int low tl)) (r9 : ρ "due" = some (.ref AL)) :
    T prog w c (execs (body.drop 12) c.env) (fun fl _ _ _ => retOf fl = .bool true) g ρ [] := by
  have hK0 := hK
  have hb0 := hb
  have hS0 := hS
  cases hK
  cases hb
  dsimp only [List.drop] at hS ⊢
  have hlow : low ≤ 4 := by have := F.h5; have := F.hL; omega
  refine T.execs_cons (T.for_ O W hS (fun _ => rfl) ?_)
  tb_start
  refine T.negI fun t1 => ?_
  tb_start
  refine T.negI fun t2 => ?_
  tb_start
  refine T.range3 (by decide) noPylong1 fun rg g1 l1 hrg => ?_
  have F1 := F.mono l1
  have hAL1 := hAL.mono l1
  have hdv1 := hdv.mono l1
  have hsm : Builtin.Range.small (low : Int) (-1) (-1) = true ∧ Builtin.Range.rangeSize (low : Int) (-1) (-1) = ((low + 1 : Nat) : Int) := by
    have : low = 0 ∨ low = 1 ∨ low = 2 ∨ low = 3 ∨ low = 4 := by omega
    rcases this with rfl | rfl | rfl | rfl | rfl <;> decide
  refine Seqs.range (m := low + 1) O hrg hsm.1 hsm.2 ⟨fun i g' ρ' M' => M' = [] ∧ ρ' "one" = some (.ref one) ∧ ρ' "plain" = some (.ref E.plain) ∧ ρ' "root" = some (.ref E.root) ∧ ρ' "other" = some (.ref oth) ∧ ρ' "world" = some (.ref wd) ∧ ρ' "storeys" = some (.ref SL) ∧ ρ' "heads" = some (.ref HL) ∧ ρ' "low" = some (.int low tl) ∧
      (i ≤ low → ∃ AL dv, ρ' "due" = some (.ref AL) ∧ Lst g' AL dv ∧ TrsV g' dv (dueL (L.take i) d)), ⟨rfl, by k_subL, by k_subL, by k_subL, by k_subL, by k_subL, by k_subL, by k_subL, by k_subL, fun _ => ⟨AL, dv, by k_subL, hAL1, hdv1⟩⟩, ?_, ?_⟩
  · rintro c' O' W' hS' i v g' ρ' M' hi ⟨tk, rfl⟩ l ⟨rfl, v1, v2, v3, v4, v5, v6, v7, v8, hdue⟩
    obtain ⟨AL', dv', v9, hA, hV⟩ := hdue (by omega)
    have F2 := F1.mono l
    have hiL : i < L.length := by rw [F.hL]; omega
    obtain ⟨si, ei⟩ : ∃ si, L[i]? = some si := ⟨_, List.getElem?_eq_getElem hiL⟩
    obtain ⟨T0, nl, vsn, s1, s2, s3, s4⟩ := F2.sl1 i si ei
    obtain ⟨H0, hv0, u1, u2, u3⟩ := F2.hl1 i si ei
    have hki : ((low : Int) + (i : Int) * (-1)).toNat = low - i := by omega
    have hk0 : 0 ≤ (low : Int) + (i : Int) * (-1) := by omega
    have hk4 : (low : Int) + (i : Int) * (-1) < 2 ^ 63 := by omega
    have hkz : ((low : Int) + (i : Int) * (-1) == (low : Int)) = decide (i = 0) := by
      by_cases q : i = 0
      · subst q; simp
      · rw [decide_eq_false q, beq_eq_false_iff_ne]; omega
    have hkp : decide ((0 : Int) < (low : Int) + (i : Int) * (-1)) = decide (i < low) := by
      by_cases q : i < low
      · rw [decide_eq_true q]; exact decide_eq_true (by omega)
      · rw [decide_eq_false q]; exact decide_eq_false (by omega)
    have hmid : ∃ j : Nat, (((low : Int) + (i : Int) * (-1)) + (low : Int)).fdiv 2 = ((low - j : Nat) : Int) ∧ j ≤ i ∧ j ≤ low := by
      rw [Int.fdiv_eq_ediv_of_nonneg _ (by decide)]
      exact ⟨low - ((2 * low - i) / 2), by omega, by omega, by omega⟩
    generalize (low : Int) + (i : Int) * (-1) = kk at hki hk0 hk4 hkz hkp hmid
    rw [← hki] at s1 u1
    obtain ⟨j, hj1, hj2, hj3⟩ := hmid
    refine T.assign_stored ?_
    tb_start
    refine T.itemL (.inl F2.sLs) hk0 hk4 s1 (by rfl) ?_
    tb_start
    refine T.itemT s2 (by decide) (by decide) rfl (by rfl) ?_
    tb_start
    refine T.pu O' (mapAt F2.hT F2.h5 F2.h0 F2.hd F2.hk (Nat.zero_le i) F2.h0 ei F2.h1) (by omega) fun r g2 l2 ⟨told, q1, tTold, hsame⟩ => ?_
    subst q1
    have F3 := F2.mono l2
    have s1' := s1
    have s2' := s2.mono l2
    have s3' := s3.mono l2
    have hA3 := hA.mono l2
    have hV3 := hV.mono l2
    obtain ⟨due_len, due_k⟩ := due_ok F.hT F.h0 F.hd F.hk ei
    tb_start
    have tT' := tTold
    cases tT' with
    | @inst _ et _ at_ _ It ct et0 at1 zt =>
    obtain ⟨dC, hdC⟩ := ct
    tb_start
    refine T.itemL (.inl F3.sLs) hk0 hk4 s1 (by rfl) ?_
    tb_start
    refine T.itemT s2' (by decide) (by decide) rfl (by rfl) ?_
    refine T.isRef hdC hdC (fun _ q => nomatch q) (fun _ q => nomatch q) ?_
    rw [decide_eq_true rfl]
    tb_start
    refine T.lc O' hS' (by kernel_rfl) (by kernel_rfl) (fun _ => rfl) ?_
    tb_start
    have hlen_at : at_.length = (dueL (L.take i) d).length := by rw [at1.length, List.length_map]
    refine Seqs.tuple O' et0 (LcK.map (fun q v g' => ∃ tr, (dueL (L.take i) d)[q]? = some tr ∧ TrV g' v tr) (fun q v _ _ l ⟨tr, e, h⟩ => ⟨tr, e, h.mono l⟩) (by kernel_rfl) (by rw [List.length_map, hlen_at, due_len]; have := (F.hT.at_ ei).few.2; omega) ?_ ?_)
    · intro D' c2 O2 hS2 q v g3 ρ3 acc hq hv l3 hρ
      have e5 : ρ3 "world" = some (.ref wd) := (hρ "world" (by kernel_rfl)).trans (by k_subL)
      obtain ⟨a0, ha0, rfl⟩ := refs_get hv
      have hql : q < (dueL (L.take i) d).length := by rw [← hlen_at]; exact (List.getElem?_eq_some_iff.mp ha0).1
      obtain ⟨tr, etr⟩ : ∃ tr, (dueL (L.take i) d)[q]? = some tr := ⟨_, List.getElem?_eq_getElem hql⟩
      have hty := (at1.get ha0 (by rw [List.getElem?_map, etr]; rfl)).mono l3
      have hk' := due_k tr (List.mem_of_getElem? etr)
      tb_start
      refine T.pu O2 (lawShown (σ := E.σW) (R := E.R) tr hty (leafIn_mono (fun s h => ((F3.hE.mono l3).named h)) hk'.1)) (by omega) fun r g4 l4 q => ?_
      exact ⟨rfl, tr, etr, q⟩
    intro CL ys g3 l3 hlen hys
    have hylen : ys.length = (dueL (L.take i) d).length := by rw [hlen, List.length_map, hlen_at]
    have RC : TrsV g3 ys (dueL (L.take i) d) := Al.of hylen fun q a b ea eb => by
      obtain ⟨tr, e1, h1⟩ := hys q a ea
      rw [eb] at e1; cases e1; exact h1
    refine T.freeze0 fun hCL => ?_
    have S5 : Rd (setG g3 CL (.list ys)) (.ref CL) (.list ((dueL (L.take i) d).map Tr.data)) := .list setG_self ((RC.mono (Le.setG hCL)).rd)
    have l4 : Le g3 (setG g3 CL (.list ys)) := Le.setG hCL
    have l24 := l3.trans l4
    generalize setG g3 CL (.list ys) = g4 at S5 l4 l24
    have F4 := F3.mono l24
    have hA4 := hA3.mono l24
    have hV4 := hV3.mono l24
    have tT4 := tTold.mono l24
    tb_start
    refine T.neData (n := 251) O' S5 (.list hA4 hV4.rd) (shaped_trs due_k (by omega)) (shaped_trs due_k (by omega)) ?_
    have eqe : PyData.eqv (.list ((dueL (L.take i) d).map Tr.data)) (.list ((dueL (L.take i) d).map Tr.data)) = true := by simp only [PyData.eqv]; exact eqv_trs _
    rw [eqe]
    tb_start
    refine T.pu O' (subTrue F4.hE F4.hT F4.h5 F4.h0 F4.hd F4.hk ei F4.h1 tT4) (by omega) fun r g5 l5 q => ?_
    subst q
    have F5 := F4.mono l5
    have hA5 := hA4.mono l5
    have hV5 := hV4.mono l5
    have tT5 := tT4.mono l5
    have s2'' := s2'.mono (l24.trans l5)
    have l25 := l24.trans l5
    tb_start
    refine IfK.share (fun q key => ?_) ?_
    · have q0 : i = 0 := by rw [hkz] at q; exact of_decide_eq_true q
      have hto := hsame q0.symm
      subst hto
      have h1' := F5.h1
      cases h1' with
      | @inst _ e1 _ as1 _ I1 c1 a1 b1 z1 =>
      obtain ⟨dI, hdI, _⟩ := I1
      tb_start
      refine T.isRef hdI hdI (fun _ q => nomatch q) (fun _ q => nomatch q) ?_
      rw [decide_eq_true rfl]
      exact T.truthy_bool (IfK.f key)
    tb_start
    refine T.divI (by decide) (noPylong rfl) fun t3 => ?_
    rw [hj1]
    have hjL : j < L.length := by rw [F.hL]; omega
    obtain ⟨sj, ej⟩ : ∃ sj, L[j]? = some sj := ⟨_, List.getElem?_eq_getElem hjL⟩
    obtain ⟨T1, nl1, vsn1, w1, w2, w3, w4⟩ := F5.sl1 j sj ej
    refine T.itemL (.inl F5.sLs) (by omega) (by omega) (by rw [Int.toNat_natCast]; exact w1) (by rfl) ?_
    tb_start
    refine T.itemT w2 (by decide) (by decide) rfl (by rfl) ?_
    tb_start
    refine T.pu O' (mapAt F5.hT F5.h5 F5.h0 F5.hd F5.hk (Nat.zero_le j) F5.h0 ej F5.h1) (by omega) fun r g6 l6 ⟨btw, q1, tB, _⟩ => ?_
    subst q1
    have F6 := F5.mono l6
    have s26 := s2''.mono l6
    tb_start
    refine T.itemL (.inl F6.sLs) hk0 hk4 s1 (by rfl) ?_
    tb_start
    refine T.itemT s26 (by decide) (by decide) rfl (by rfl) ?_
    tb_start
    refine T.pu O' (mapAt F6.hT F6.h5 F6.h0 F6.hd F6.hk hj2 ej ei tB) (by omega) fun r g7 l7 ⟨bt2, q1, tB2, _⟩ => ?_
    subst q1
    have F7 := F6.mono l7
    have l57 := l6.trans l7
    have tT7 := tT5.mono l57
    have hcl : (Ty.inst si.C (List.map E.ty (dueL (List.take i L) d))).closed = true := by rw [Ty.closed]; exact E.closeds _
    tb_start
    refine T.pu_same O' (eqTy 8 (one_depth due_k (by omega)) hcl hcl tB2 tT7) (by omega) ?_
    rw [decide_eq_true rfl]
    tb_start
    refine T.itemL (.inl F7.sLs) hk0 hk4 s1 (by rfl) ?_
    tb_start
    refine T.itemT (s2''.mono l57) (by decide) (by decide) rfl (by rfl) ?_
    tb_start
    refine T.newListF (by simp) fun L8 hL8 => ?_
    have l8 := Le.setG (m := .list []) hL8
    tb_start
    refine T.pu O' (mk_Instance (vs := []) setG_self (by simp)) (by omega) fun r g8 l9 ⟨pl, ep, q1, q2, q3⟩ => ?_
    subst q1
    have l78 := l8.trans l9
    have tPl : TyR g8 pl (.inst E.plain []) := .inst (as := []) q2 (F7.hE.plain.cl.mono l78) q3 .nil (by simp)
    tb_start
    refine T.newListF (by simp) fun L9 hL9 => ?_
    have S9 : Lst (setG g8 L9 (.list [.ref pl])) L9 [.ref pl] := setG_self
    have l10 : Le g8 (setG g8 L9 (.list [.ref pl])) := Le.setG hL9
    have tPl9 := tPl.mono l10
    have l210 := l25.trans (l57.trans (l78.trans l10))
    have l510 := l57.trans (l78.trans l10)
    generalize setG g8 L9 (.list [.ref pl]) = g9 at S9 l10 tPl9 l210 l510
    have It9 := It.mono l210
    have et9 := et0.mono l210
    have at9 := at1.mono l210
    tb_start
    refine T.slice ?_
    tb_start
    refine ⟨_, _, rfl, fun sl0 => ?_⟩
    refine T.sliceT2 (i := 1) et9 (by rw [List.length_map, hlen_at, due_len]; have := (F.hT.at_ ei).few.2; omega) (Nat.le_refl _) (by rw [List.length_map, hlen_at, due_len]; exact (F.hT.at_ ei).few.1) (by rfl) fun L10 hL10 => ?_
    have S10 : Tup (setG g9 L10 (.tup ((at_.map Value.ref).drop 1))) L10 ((at_.map Value.ref).drop 1) := setG_self
    have l11 : Le g9 (setG g9 L10 (.tup ((at_.map Value.ref).drop 1))) := Le.setG hL10
    generalize setG g9 L10 (.tup ((at_.map Value.ref).drop 1)) = g10 at S10 l11
    tb_start
    refine T.listOfT S10 (by rw [List.length_drop, List.length_map, hlen_at, due_len]; have := (F.hT.at_ ei).few.2; omega) fun L11 hL11 => ?_
    have S11 : Lst (setG g10 L11 (.list ((at_.map Value.ref).drop 1))) L11 ((at_.map Value.ref).drop 1) := setG_self
    have l12 : Le g10 (setG g10 L11 (.list ((at_.map Value.ref).drop 1))) := Le.setG hL11
    generalize setG g10 L11 (.list ((at_.map Value.ref).drop 1)) = g11 at S11 l12
    have l911 := l11.trans l12
    refine T.addL (.inl (S9.mono l911)) (.inl S11) (by rw [List.length_drop, List.length_map, hlen_at, due_len]; have := (F.hT.at_ ei).few.2; simp; omega) fun L12 hL12 => ?_
    have e12 : [Value.ref pl] ++ (at_.map Value.ref).drop 1 = (pl :: at_.drop 1).map .ref := by rw [List.map_cons, List.map_drop]; rfl
    rw [e12]
    have l13 := Le.setG (m := .list ((pl :: at_.drop 1).map Value.ref)) hL12
    tb_start
    refine T.pu O' (mk_Instance setG_self (by rw [List.length_map, List.length_cons, List.length_drop, hlen_at, due_len]; have := (F.hT.at_ ei).few.2; omega)) (by omega) fun r g12 l14 ⟨str, es, q1, q2, q3⟩ => ?_
    subst q1
    have l912 := l911.trans (l13.trans l14)
    have l512 := l510.trans l912
    have F12 := F5.mono l512
    have tS : TyR g12 str (.inst si.C (.inst E.plain [] :: ((dueL (L.take i) d).map E.ty).drop 1)) :=
      .inst q2 ((F12.hT.at_ ei).cls.cl) q3 (.cons (tPl9.mono l912) (at9.mono l912).drop1) (by
        rw [List.length_cons, List.length_drop, List.length_map, due_len]; have := (F.hT.at_ ei).few.2; omega)
    tb_start
    refine T.pu O' (subFalse F12.hE F12.hT F12.h5 F12.h0 F12.hd F12.hk ei F12.h1 tS) (by omega) fun r g13 l15 q => ?_
    subst q
    have l513 := l512.trans l15
    have l013 := l2.trans (l24.trans (l5.trans l513))
    have F13 := F12.mono l15
    have hA13 := hA5.mono l513
    have hV13 := hV5.mono l513
    have s213 := s2''.mono l513
    have s313 := s3.mono l013
    have u213 := u2.mono l013
    have u313 := u3.mono l013
    tb_start
    refine T.gtI ?_
    rw [hkp]
    tb_start
    refine IfK.split (fun q => ?_) fun q => ?_
    · have hil : i < low := of_decide_eq_true q
      refine T.execs_cons (T.assign_dc0 O' hS' (by kernel_rfl) ?_)
      refine T.dc (b₀ := 655) O' hS' (by kernel_rfl) (by kernel_rfl) (by kernel_rfl) (fun _ => rfl) ?_
      tb_start
      refine T.itemL (.inl F13.sLs) hk0 hk4 s1 (by rfl) ?_
      tb_start
      refine T.itemT s213 (by decide) (by decide) rfl (by rfl) ?_
      tb_start
      have hvsn : vsn.length = si.nms.length := s4.1
      have hdvl : dv'.length = si.nms.length := by rw [Al.length hV13, due_len]
      have hn2 := (F.hT.at_ ei).few.2
      refine T.zipLL s313 hA13 fun z TI TO i1 i2 => ?_
      refine Seqs.zip (m := si.nms.length) O' (fun y hy => ?_) (fun y hy => ?_) (by simp) ⟨by omega, fun D hD => ⟨fun q f g' M => M = [] ∧ ∀ s, match f s, tabL ((si.nms.zip (dueL (L.take i) d)).take q) s with | some u, some tr => TrV g' u tr | none, none => True | _, _ => False, ⟨rfl, fun s => trivial⟩, ?_, ?_⟩⟩
      · simp only [List.mem_cons, List.not_mem_nil, or_false] at hy
        rcases hy with rfl | rfl
        · exact s313
        · exact hA13
      · simp only [List.mem_cons, List.not_mem_nil, or_false] at hy
        rcases hy with rfl | rfl
        · exact hvsn
        · exact hdvl
      · rintro c2 O2 hS2 q v g14 ρ2 f2 M2 hq ⟨T2, vals, rfl, hvv, hT2⟩ l14' hρ ⟨rfl, hf2⟩
        obtain ⟨tk2, en⟩ := s4.rd hq
        have hql : q < (dueL (L.take i) d).length := by rw [due_len]; exact hq
        obtain ⟨tr, etr⟩ : ∃ tr, (dueL (L.take i) d)[q]? = some tr := ⟨_, List.getElem?_eq_getElem hql⟩
        obtain ⟨dvq, edv, hdvq⟩ := Al.get (hV13.mono l14') etr
        have hnm : si.nms[q]? = some si.nms[q] := List.getElem?_eq_getElem hq
        generalize si.nms[q] = nm at en hnm
        have hvals : vals = [.str nm tk2, dvq] := by
          have : vals.map some = [some (Value.str nm tk2), some dvq] := by
            rw [hvv]; simp [en, edv]
          exact List.map_inj_right (f := some) (fun _ _ h => Option.some.inj h) |>.mp this
        subst hvals
        refine T.unpackT O2 (.inl hT2) rfl rfl ?_
        refine T.inOrder_cons (T.assign_stored (T.stLocal O2 (kind_of hS2 (by kernel_rfl)) ?_))
        refine T.inOrder_cons (T.assign_stored (T.stLocal O2 (kind_of hS2 (by kernel_rfl)) ?_))
        refine T.inOrder_nil ?_
        tb_start
        refine ⟨nm, tk2, rfl, ?_⟩
        tb_start
        refine ⟨[], rfl, rfl, fun s => ?_⟩
        have hz : (si.nms.zip (dueL (L.take i) d))[q]? = some (nm, tr) := List.getElem?_zip_eq_some.mpr ⟨hnm, etr⟩
        have ht : tabL ((si.nms.zip (dueL (L.take i) d)).take (q + 1)) s = if s = nm then some tr else tabL ((si.nms.zip (dueL (L.take i) d)).take q) s := by
          rw [List.take_add_one, hz]
          unfold tabL
          rw [List.foldl_append]
          rfl
        rw [ht]
        by_cases qs : s = nm
        · simp only [if_pos qs]; exact hdvq
        · simp only [if_neg qs]; exact hf2 s
      · rintro f2 g14 M2 l14' ⟨rfl, hf2⟩
        have ez : (si.nms.zip (dueL (L.take i) d)).take si.nms.length = si.nms.zip (dueL (L.take i) d) := List.take_of_length_le (by rw [List.length_zip]; omega)
        rw [ez] at hf2
        refine T.freeze0 fun hDn => ?_
        have lD : Le g14 (setG g14 D (.map f2 si.nms.length)) := Le.setG hDn
        have hTab : TabV (setG g14 D (.map f2 si.nms.length)) D (tabL (si.nms.zip (dueL (L.take i) d))) := ⟨hD, f2, _, setG_self, fun s => by
          have := hf2 s
          revert this
          cases f2 s <;> cases tabL (si.nms.zip (dueL (L.take i) d)) s <;> intro this
          · exact this
          · exact this
          · exact this
          · exact TrV.mono this lD⟩
        generalize setG g14 D (.map f2 si.nms.length) = g15 at lD hTab
        have l1315 := l14'.trans lD
        refine T.stVar O' W' hS' (by kernel_rfl) ?_
        refine ExecK.next (T.execs_cons (T.assign_lc1 O' W' hS' (by kernel_rfl) (by kernel_rfl) (by kernel_rfl) (fun _ => rfl) ?_))
        tb_start
        have F15 := F13.mono l1315
        have hhd2 : si.hd.length ≤ 2 := by
          have a := (F.hT.at_ ei).hdlen
          rw [a]
          cases e : L.drop (i + 1) with
          | nil => exact Nat.zero_le _
          | cons lo r =>
            have hlo : L[i + 1]? = some lo := by
              have : (L.drop (i + 1))[0]? = some lo := by rw [e]; rfl
              rwa [List.getElem?_drop] at this
            exact (F.hT.at_ hlo).few.2
        refine T.itemL (.inl F15.hLs) hk0 hk4 u1 (by rfl) ?_
        refine Seqs.list O' (u213.mono l1315) (LcK.map (fun q v g' => ∃ tr, si.hd[q]? = some tr ∧ TrV g' v (tr.repl (tabL (si.nms.zip (dueL (L.take i) d))))) (fun q v _ _ l ⟨tr, e, h⟩ => ⟨tr, e, h.mono l⟩) (by kernel_rfl) (by rw [Al.length u313]; omega) ?_ ?_)
        · intro D' c2 O2 hS2 q v g16 ρ3 acc hq hv l16 hρ
          have e5 : ρ3 "table" = some (.ref D) := (hρ "table" (by kernel_rfl)).trans (by k_subL)
          obtain ⟨tr, etr, htr⟩ := Al.get_l u313 hv
          obtain ⟨s, _, hs⟩ := (F.hT.at_ ei).simple tr (List.mem_of_getElem? etr)
          have hdep : tr.depth ≤ 2 := by rcases hs with rfl | rfl <;> simp [Tr.depth]
          tb_start
          refine T.pu O2 (lawReplaced tr (htr.mono (l1315.trans l16)) (hTab.mono l16)) (by omega) fun r g17 l17 q => ?_
          exact ⟨rfl, tr, etr, q⟩
        intro DL ys2 g16 l16 hlen2 hys2
        refine T.freeze0 fun hDL => ?_
        have SD : Lst (setG g16 DL (.list ys2)) DL ys2 := setG_self
        have lD2 : Le g16 (setG g16 DL (.list ys2)) := Le.setG hDL
        have hl2 : ys2.length = si.hd.length := hlen2.trans (Al.length u313)
        have RC2 : TrsV g16 ys2 (stepT si (dueL (L.take i) d)) := Al.of (by unfold stepT; rw [List.length_map, hl2]) fun q a b ea eb => by
          obtain ⟨tr, e1, h1⟩ := hys2 q a ea
          unfold stepT at eb
          rw [List.getElem?_map, e1] at eb
          cases eb
          exact h1
        have RC3 := RC2.mono lD2
        generalize setG g16 DL (.list ys2) = g17 at SD lD2 RC3
        tb_start
        refine ⟨rfl, by k_subL, by k_subL, by k_subL, by k_subL, by k_subL, by k_subL, by k_subL, by k_subL, fun _ => ⟨DL, ys2, by k_subL, SD, ?_⟩⟩
        rw [List.take_add_one, ei]
        show TrsV g17 ys2 (dueL (L.take i ++ [si]) d)
        rw [dueL_app]
        exact RC3
    · have hil : ¬ i < low := of_decide_eq_false q
      tb_start
      exact ⟨rfl, by k_subL, by k_subL, by k_subL, by k_subL, by k_subL, by k_subL, by k_subL, by k_subL, fun h => absurd h (by omega)⟩
  · rintro g' ρ' M' l ⟨rfl, v1, v2, v3, v4, v5, v6, v7, v8, _⟩
    refine ExecK.next ?_
    have F2 := F1.mono l
    obtain ⟨bs, mro, hO⟩ := F2.hO
    exact partE hK0 hb0 O W hS0 F2.hE F2.hT F2.h5 F2.h0 F2.hd F2.hk F2.h1 hO F2.hO2 F2.hne F2.hf F2.fA F2.fB v1 v2 v3 v4 v5

end
section
variable {prog : Program} {w : World} {g : G} {n : Nat}
def SlOk (g : G) (sl : List Value) (sts : List Storey) : Prop := sl.length = sts.length ∧ ∀ (k : Nat) (st : Storey), sts.reverse[k]? = some st → ∃ T nl vsn, sl[k]? = some (.ref T) ∧ Tup g T [.ref nl, .ref st.C] ∧ Lst g nl vsn ∧ StrsV vsn st.nms
theorem SlOk.mono {g g' : G} {sl : List Value} {sts : List Storey} (h : SlOk g sl sts) (l : Le g g') : SlOk g' sl sts := ⟨h.1, fun k st e => let ⟨T, nl, vsn, a, b, c, d⟩ := h.2 k st e; ⟨T, nl, vsn, a, b.mono l, c.mono l, d⟩⟩
def HlOk (g : G) (hl : List Value) (sts : List Storey) : Prop := hl.length = sts.length ∧ ∀ (k : Nat) (st : Storey), sts.reverse[k]? = some st → ∃ H hv, hl[k]? = some (.ref H) ∧ Lst g H hv ∧ TrsV g hv st.hd
theorem HlOk.mono {g g' : G} {hl : List Value} {sts : List Storey} (h : HlOk g hl sts) (l : Le g g') : HlOk g' hl sts := ⟨h.1, fun k st e => let ⟨H, hv, a, b, c⟩ := h.2 k st e; ⟨H, hv, a, b.mono l, c.mono l⟩⟩
theorem Tower.known {E : Base} (hE : BaseOk g E) {sts : List Storey} (hT : Tower g E sts) : ∀ x ∈ mroT E sts, ∃ nm tvs bs m, ClsA g x nm tvs bs m := fun x hx => by
  have hM := hT.mroN hE
  obtain ⟨j, hj⟩ := List.mem_iff_getElem?.mp hx
  have hjl : j < (nmsT sts).length := by rw [← hM.1]; exact (List.getElem?_eq_some_iff.mp hj).1
  obtain ⟨a, b, c, d⟩ := hM.2 j x _ hj (List.getElem?_eq_getElem hjl)
  exact ⟨_, a, b, c, d⟩
theorem partC {oc : Value} {od : Option Addr} {fd : FuncData} {osl : Array (Option Value)} {body : List Stmt} (hK : (KP w.params).lookup 655 = some ⟨oc, od, .func fd, osl⟩) (hb : fd.body = .stmts body) {c : Cx} (O : c.Ok (KP w.params) 259) (W : c.Own) (hS : c.env.scope.names = fd.scope.names)
    {ρ : Str → Option Value} {a : Addr} {vs : List Value} {E : Base} {sts : List Storey} {wd SL HL : Addr} {sl hl : List Value} {f : Str → Option Value} {m : Nat} (S : Lst g a vs) (hz : vs.length ≤ 63) (hi : ∀ v ∈ vs, IntV v) (hE : BaseOk g E) (hT : Tower g E sts) (h3 : 3 ≤ sts.length) (h5 : sts.length ≤ 5)
    (hSL : Lst g SL sl) (hsl : SlOk g sl sts) (hHL : Lst g HL hl) (hhl : HlOk g hl sts) (hf : g wd = some (.map f m)) (fA : f "A" = some (.ref E.aA)) (fB : f "B" = some (.ref E.aB)) (fR : f "row" = some (.ref E.R))
    (r0 : ρ "script" = some (.ref a)) (r1 : ρ "top" = some (.ref E.top)) (r2 : ρ "plain" = some (.ref E.plain)) (r3 : ρ "root" = some (.ref E.root)) (r5 : ρ "world" = some (.ref wd)) (r6 : ρ "storeys" = some (.ref SL)) (r7 : ρ "heads" = some (.ref HL)) :
    T prog w c (execs (body.drop 7) c.env) (fun fl _ _ _ => retOf fl = .bool true) g ρ [] := by
  have hK0 := hK
  have hb0 := hb
  have hS0 := hS
  cases hK
  cases hb
  dsimp only [List.drop] at hS ⊢
  tb_start
  refine T.pu O mk_TypeVarId (by omega) fun r g1 l1 ⟨id60, q1, q2⟩ => ?_
  subst q1
  tb_start
  refine T.newListF (by simp) fun L7 hL7 => ?_
  have l2 := Le.setG (m := .list []) hL7
  tb_start
  refine T.pu O (mk_tv (q2.mono l2)) (by omega) fun r g3 l3 ⟨tvx, q1, q3⟩ => ?_
  subst q1
  have l03 := l1.trans (l2.trans l3)
  clear l1 l2 l3 hL7 q2
  tb_start
  refine T.pu O mk_TypeVarId (by omega) fun r g4 l4 ⟨id61, q1, q4⟩ => ?_
  subst q1
  tb_start
  refine T.newListF (by simp) fun L8 hL8 => ?_
  have l5 := Le.setG (m := .list []) hL8
  tb_start
  refine T.pu O (mk_tv (q4.mono l5)) (by omega) fun r g6 l6 ⟨tvy, q1, q6⟩ => ?_
  subst q1
  have l36 := l4.trans (l5.trans l6)
  clear l4 l5 l6 hL8 q4
  tb_start
  refine T.newListF (by simp) fun L9 hL9 => ?_
  have l7 := Le.setG (m := .list [Value.ref tvx, .ref tvy]) hL9
  tb_start
  refine T.newListF (by simp) fun L10 hL10 => ?_
  have l8 := Le.setG (m := .list [Value.ref E.top]) hL10
  have l08 := l03.trans (l36.trans (l7.trans l8))
  tb_start
  refine T.pu O (mk_one (nm := "other") (tvs := [tvx, tvy]) (l := []) (.cons (q3.mono (l36.trans (l7.trans l8))) (.cons (q6.mono (l7.trans l8)) .nil)) (l8 _ _ setG_self) setG_self (by simp) (by simp) (hE.top.mono l08) (hE.root.mono l08) (fun x hx => nomatch hx) (hE.root.mono l08) (by simp)) (by omega) fun r g9 l9 ⟨oth, q1, hoth, cO⟩ => ?_
  subst q1
  have l09 := l08.trans l9
  have hneO : ∀ x nm tvs bs m, ClsA g x nm tvs bs m → x ≠ oth := fun x nm tvs bs m hc q => by
    obtain ⟨d, e⟩ := hc.cl
    have := l08 _ _ e
    rw [q, hoth] at this
    cases this
  clear l03 l36 l7 l8 l08 l9 hL9 hL10 hoth q3 q6
  have hE9 := hE.mono l09
  have hT9 := hT.mono l09
  have S9 := S.mono l09
  have hSL9 := hSL.mono l09
  have hsl9 := hsl.mono l09
  have hHL9 := hHL.mono l09
  have hhl9 := hhl.mono l09
  have hf9 := l09 _ _ hf
  tb_start
  refine T.lenL (.inl hSL9) (by rw [hsl.1]; omega) fun t1 => ?_
  tb_start
  refine T.subI fun t2 => ?_
  tb_start
  refine T.pu O (lawAt S9 hz hi ⟨_, _, rfl⟩ (by decide)) (by omega) fun r g10 l10 ⟨i0, t0, q⟩ => ?_
  subst q
  tb_start
  refine T.modI (by decide) fun t3 => ?_
  refine T.subI fun t4 => ?_
  have m0 := Int.fmod_nonneg_of_pos i0 (show (0 : Int) < 2 by decide)
  have m1 := Int.fmod_lt_of_pos i0 (show (0 : Int) < 2 by decide)
  generalize i0.fmod 2 = b0 at m0 m1
  obtain ⟨low, hlow, hlow1, hlow2⟩ : ∃ low : Nat, ((sl.length : Int) - 1) - b0 = (low : Int) ∧ 1 ≤ low ∧ low < sts.length := ⟨(((sl.length : Int) - 1) - b0).toNat, by rw [hsl.1]; omega, by rw [hsl.1]; omega, by rw [hsl.1]; omega⟩
  rw [hlow]
  have hE10 := hE9.mono l10
  have hT10 := hT9.mono l10
  have S10 := S9.mono l10
  have hSL10 := hSL9.mono l10
  have hsl10 := hsl9.mono l10
  have hHL10 := hHL9.mono l10
  have hhl10 := hhl9.mono l10
  have hf10 := l10 _ _ hf9
  have cO10 := cO.mono l10
  obtain ⟨s0, es0⟩ : ∃ s0, sts.reverse[low]? = some s0 := ⟨_, List.getElem?_eq_getElem (by rw [List.length_reverse]; exact hlow2)⟩
  refine T.stVar O W hS (by kernel_rfl) ?_
  refine ExecK.next (T.execs_cons (T.assign_lc1 O W hS (by kernel_rfl) (by kernel_rfl) (by kernel_rfl) (fun _ => rfl) ?_))
  tb_start
  obtain ⟨T0, nl, vsn, s1, s2, s3, s4⟩ := hsl10.2 low s0 es0
  refine T.itemL (.inl hSL10) (by omega) (by omega) (by rw [Int.toNat_natCast]; exact s1) (by rfl) ?_
  tb_start
  refine T.itemT s2 (by decide) (by decide) rfl (by rfl) ?_
  tb_start
  have few0 : 1 ≤ s0.nms.length ∧ s0.nms.length ≤ 2 := by
    have hm := List.mem_reverse.mp (List.mem_of_getElem? es0)
    obtain ⟨q, hq⟩ := List.mem_iff_getElem?.mp hm
    exact (hT10.at_ hq).few
  refine T.lenL (.inl s3) (by rw [s4.1]; omega) fun t5 => ?_
  tb_start
  rw [s4.1]
  refine T.range1 fun rg g11 l11 hrg => ?_
  have hsm : Builtin.Range.small 0 (s0.nms.length : Int) 1 = true ∧ Builtin.Range.rangeSize 0 (s0.nms.length : Int) 1 = (s0.nms.length : Int) := by
    have : s0.nms.length = 1 ∨ s0.nms.length = 2 := by omega
    rcases this with q | q <;> rw [q] <;> decide
  refine Seqs.range (m := s0.nms.length) O hrg hsm.1 hsm.2 (LcK.map (fun i v g' => ∃ tr, TrV g' v tr ∧ Simple ["A", "B"] tr) (fun q v _ _ l ⟨tr, e, h⟩ => ⟨tr, e.mono l, h⟩) (by kernel_rfl) (by omega) ?_ ?_)
  · rintro D' c2 O2 hS2 q v g12 ρ3 acc hq ⟨tk, rfl⟩ l12 hρ
    have e5 : ρ3 "script" = some (.ref a) := (hρ "script" (by kernel_rfl)).trans (by k_subL)
    tb_start
    refine T.pu O2 (lawAt (S10.mono (l11.trans l12)) hz hi ⟨_, _, rfl⟩ (by omega)) (by omega) fun r g13 l13 ⟨i0, t0, q⟩ => ?_
    subst q
    tb_start
    refine T.modI (by decide) fun t6 => ?_
    tb_start
    refine T.newListF (by simp) fun LA hLA => ?_
    rename_i ta tb
    tb_start
    refine T.pu O2 (lawPart (nms := ["A", "B"]) (setG_self : Lst (setG g13 LA (.list [.str "A" ta, .str "B" tb])) LA _) ⟨rfl, fun j v s e1 e2 => ?_⟩ (by simp) (by simp)) (by omega) fun r g14 l14 q => ?_
    · match j, e1, e2 with
      | 0, e1, e2 => cases e1; cases e2; exact ⟨_, rfl⟩
      | 1, e1, e2 => cases e1; cases e2; exact ⟨_, rfl⟩
      | (j + 2), e1, e2 => simp at e1
    · exact ⟨rfl, q⟩
  intro AL dv g12 l12 hlen hdv
  obtain ⟨d, hdV, hdS⟩ : ∃ d : List Tr, TrsV g12 dv d ∧ ∀ tr ∈ d, Simple ["A", "B"] tr := by
    clear hlen
    induction dv with
    | nil => exact ⟨[], .nil, fun _ h => nomatch h⟩
    | cons v dv ih =>
      obtain ⟨tr, h1, h2⟩ := hdv 0 v rfl
      obtain ⟨d, h3, h4⟩ := ih fun i y e => hdv (i + 1) y (by simpa using e)
      exact ⟨tr :: d, .cons h1 h3, fun t ht => by
        rcases List.mem_cons.mp ht with rfl | ht
        · exact h2
        · exact h4 t ht⟩
  have hdl : d.length = s0.nms.length := by rw [← Al.length hdV, hlen]
  have hdk : DueOk 2 d := fun t ht => by
    obtain ⟨s, hs, e⟩ := hdS t ht
    have hab : AB s := by
      rcases List.mem_cons.mp hs with q | q
      · exact .inl q
      · exact .inr (List.mem_singleton.mp q)
    rcases e with rfl | rfl
    · exact ⟨hab, by simp [Tr.depth]⟩
    · exact ⟨hab, by simp [Tr.depth]⟩
  refine T.freeze0 fun hAL => ?_
  have SA : Lst (setG g12 AL (.list dv)) AL dv := setG_self
  have lA : Le g12 (setG g12 AL (.list dv)) := Le.setG hAL
  have hdV2 := hdV.mono lA
  generalize setG g12 AL (.list dv) = g13 at SA lA hdV2
  have l1013 := l11.trans (l12.trans lA)
  clear l11 l12 lA hdV hdv hAL
  have s23 := s2.mono l1013
  have hSL13 := hSL10.mono l1013
  have hE13 := hE10.mono l1013
  have hf13 := l1013 _ _ hf10
  have hW13 : WldV g13 wd AB E.σW E.R := by
    refine ⟨⟨f, m, hf13, fun s hs => ?_, fR⟩, ?_⟩
    · rcases hs with rfl | rfl
      · exact ⟨E.aA, fA, by unfold Base.σW; rw [if_pos rfl]; exact hE13.tA⟩
      · exact ⟨E.aB, fB, by unfold Base.σW; rw [if_neg neBA]; exact hE13.tB⟩
    · obtain ⟨_, q⟩ := hE13.cR
      exact q.cl
  tb_start
  refine T.itemL (.inl hSL13) (by omega) (by omega) (by rw [Int.toNat_natCast]; exact s1) (by rfl) ?_
  tb_start
  refine T.itemT s23 (by decide) (by decide) rfl (by rfl) ?_
  tb_start
  refine T.lc O hS (by kernel_rfl) (by kernel_rfl) (fun _ => rfl) ?_
  tb_start
  refine Seqs.list O SA (LcK.map (fun q v g' => ∃ y tr, v = .ref y ∧ d[q]? = some tr ∧ TyR g' y (E.ty tr)) (fun q v _ _ l ⟨y, tr, e1, e2, h⟩ => ⟨y, tr, e1, e2, h.mono l⟩) (by kernel_rfl) (by rw [hlen]; omega) ?_ ?_)
  · intro D' c2 O2 hS2 q v g14 ρ3 acc hq hv l14 hρ
    have e5 : ρ3 "world" = some (.ref wd) := (hρ "world" (by kernel_rfl)).trans (by k_subL)
    obtain ⟨tr, etr, htr⟩ := Al.get_l hdV2 hv
    have hk' := hdk tr (List.mem_of_getElem? etr)
    tb_start
    refine T.pu O2 (lawMade (p := AB) (σ := E.σW) (R := E.R) tr (htr.mono l14) hk'.1 (hW13.mono l14)) (by omega) fun r g15 l15 ⟨y, q1, q2⟩ => ?_
    exact ⟨rfl, y, tr, q1, etr, q2⟩
  intro DL ys g14 l14 hlen2 hys
  obtain ⟨as, has, hts⟩ : ∃ as : List Addr, ys = as.map .ref ∧ TysR g14 as (d.map E.ty) := by
    have hl : ys.length = d.length := by rw [hlen2, hlen, hdl]
    clear hdl hdk hdV2 hdS hlen2
    induction d generalizing ys with
    | nil => cases ys with
      | nil => exact ⟨[], rfl, .nil⟩
      | cons => simp at hl
    | cons t d ih => cases ys with
      | nil => simp at hl
      | cons y ys =>
        obtain ⟨y0, tr, e1, e2, e3⟩ := hys 0 y rfl
        cases e2
        obtain ⟨as, e4, e5⟩ := ih ys (fun q v e => by
          obtain ⟨y1, tr1, f1, f2, f3⟩ := hys (q + 1) v (by simpa using e)
          exact ⟨y1, tr1, f1, by simpa using f2, f3⟩) (by simpa using hl)
        exact ⟨y0 :: as, by rw [e1, e4]; rfl, .cons e3 e5⟩
  subst has
  refine T.freeze0 fun hDL => ?_
  have l15 : Le g14 (setG g14 DL (.list (as.map .ref))) := Le.setG hDL
  tb_start
  refine T.pu O (mk_Instance setG_self (by rw [List.length_map, hts.length, List.length_map]; omega)) (by omega) fun r g16 l16 ⟨one, eo, q1, q2, q3⟩ => ?_
  subst q1
  have l1316 := l14.trans (l15.trans l16)
  have l1016 := l1013.trans l1316
  have hT16 := hT10.mono l1016
  have hrev : ∀ k, k < sts.length → sts.reverse[k]? = sts[sts.length - 1 - k]? := fun k hk => List.getElem?_reverse hk
  have hLlen : (sts.drop (sts.length - 1 - low)).length = low + 1 := by rw [List.length_drop]; omega
  have hLi : ∀ (i : Nat) (si : Storey), (sts.drop (sts.length - 1 - low))[i]? = some si → i ≤ low ∧ sts.reverse[low - i]? = some si := fun i si e => by
    have h1 := (List.getElem?_eq_some_iff.mp e).1
    rw [List.getElem?_drop] at e
    refine ⟨by omega, ?_⟩
    rw [hrev _ (by omega)]
    rw [← e]
    congr 1
    omega
  have h0 : (sts.drop (sts.length - 1 - low))[0]? = some s0 := by
    rw [List.getElem?_drop, ← es0, hrev low hlow2]
    rfl
  have hTd := hT16.drop (sts.length - 1 - low)
  have hE16 := hE13.mono l1316
  have Fx16 : Fx g16 E (sts.drop (sts.length - 1 - low)) s0 d one oth wd SL HL low sl hl f m [tvx, tvy] := {
    hE := hE16
    hT := hTd
    h5 := by rw [hLlen]; omega
    h0 := h0
    hd := hdl
    hk := hdk
    h1 := .inst q2 (hTd.at_ h0).cls.cl q3 (hts.mono (l15.trans l16)) (by rw [List.length_map]; omega)
    hO := ⟨_, _, cO10.mono l1016⟩
    hO2 := rfl
    hne := fun x hx => by
      obtain ⟨nm, tvs, bs, mm, hc⟩ := (hT.drop (sts.length - 1 - low)).known hE x hx
      exact hneO x nm tvs bs mm hc
    hf := l1016 _ _ hf10
    fA := fA
    fB := fB
    hL := hLlen
    sLs := hSL10.mono l1016
    sl1 := fun i si e => by
      obtain ⟨T, nl, vsn, a1, a2, a3, a4⟩ := (hsl10.mono l1016).2 (low - i) si (hLi i si e).2
      exact ⟨T, nl, vsn, a1, a2, a3, a4⟩
    hLs := hHL10.mono l1016
    hl1 := fun i si e => (hhl10.mono l1016).2 (low - i) si (hLi i si e).2 }
  refine T.stVar O W hS (by kernel_rfl) ?_
  refine ExecK.next (T.execs_cons (T.assign_name (fun _ => by kernel_rfl) (fun _ => by kernel_rfl) ?_))
  refine T.var (v := .ref AL) O hS (by kernel_rfl) (by kernel_rfl) (by k_subL) ?_
  refine T.stVar O W hS (by kernel_rfl) ?_
  refine ExecK.next ?_
  exact partD hK0 hb0 O W hS0 Fx16 (SA.mono l1316) (hdV2.mono l1316) (by k_subL) (by k_subL) (by k_subL) (by k_subL) (by k_subL) (by k_subL) (by k_subL) (by k_subL) (by k_subL)

end
section
variable {prog : Program} {w : World} {g : G} {n : Nat}
def vname (k : Nat) : Str := Str.ofString "v" ++ Str.ofString (toString (k : Int))
def NmOk (nms : List Str) : Prop := nms.Nodup ∧ 1 ≤ nms.length ∧ nms.length ≤ 2 ∧ ∀ s ∈ nms, s ≠ "A" ∧ s ≠ "B" ∧ s ≠ "row"
theorem vname_ok {k : Nat} (h : k ≤ 4) : vname (3 * k) ≠ vname (3 * k + 1) ∧ ∀ j ≤ 1, vname (3 * k + j) ≠ "A" ∧ vname (3 * k + j) ≠ "B" ∧ vname (3 * k + j) ≠ "row" := by
  have := List.all_eq_true.mp (show ((List.range 5).all fun k => (!(vname (3 * k) == vname (3 * k + 1))) && (List.range 2).all fun j => !(vname (3 * k + j) == "A") && !(vname (3 * k + j) == "B") && !(vname (3 * k + j) == "row")) = true by decide +kernel) k (List.mem_range.mpr (by omega))
  rw [Bool.and_eq_true] at this
  obtain ⟨h1, h2⟩ := this
  refine ⟨by simpa using h1, fun j hj => ?_⟩
  have := List.all_eq_true.mp h2 j (List.mem_range.mpr (by omega))
  simp only [Bool.and_eq_true, Bool.not_eq_true', beq_eq_false_iff_ne] at this
  exact ⟨this.1.1, this.1.2, this.2⟩
theorem vnames_ok {k c : Nat} (h : k ≤ 4) (h1 : 1 ≤ c) (h2 : c ≤ 2) : NmOk ((List.range c).map fun j => vname (3 * k + j)) := by
  obtain ⟨a, b⟩ := vname_ok h
  have hc : c = 1 ∨ c = 2 := by omega
  rcases hc with rfl | rfl
  · refine ⟨by simp, by simp, by simp, fun s hs => ?_⟩
    obtain ⟨j, hj, rfl⟩ := List.mem_map.mp hs
    exact b j (by have := List.mem_range.mp hj; omega)
  · refine ⟨?_, by simp, by simp, fun s hs => ?_⟩
    · show [vname (3 * k + 0), vname (3 * k + 1)].Nodup
      simp only [List.nodup_cons, List.mem_singleton, List.not_mem_nil, not_false_eq_true, List.nodup_nil, and_true, Nat.add_zero]
      exact a
    · obtain ⟨j, hj, rfl⟩ := List.mem_map.mp hs
      exact b j (by have := List.mem_range.mp hj; omega)
theorem NmOk.reverse {nms : List Str} (h : NmOk nms) : NmOk nms.reverse := ⟨List.pairwise_reverse.mpr (List.Pairwise.imp (fun h => Ne.symm h) h.1), by simpa using h.2.1, by simpa using h.2.2.1, fun s hs => h.2.2.2 s (List.mem_reverse.mp hs)⟩
theorem StrsV.reverse {vs : List Value} {nms : List Str} (h : StrsV vs nms) : StrsV vs.reverse nms.reverse := by
  refine ⟨by simp [h.1], fun j v s e1 e2 => ?_⟩
  have hj : j < vs.length := by have := (List.getElem?_eq_some_iff.mp e1).1; simpa using this
  rw [List.getElem?_reverse hj] at e1
  rw [List.getElem?_reverse (by rw [← h.1]; exact hj), ← h.1] at e2
  exact h.2 _ v s e1 e2
/-- the variables laid so far -/
structure VOk (g : G) (k : Nat) (f : Str → Option Value) (nms : List Str) (j : Nat) (tvs : List Addr) (ds : List (Addr × Int)) : Prop where
  l1 : tvs.length = j
  l2 : ds.length = j
  at_ : ∀ (q : Nat) (tv d : Addr) (i : Int), tvs[q]? = some tv → ds[q]? = some (d, i) → TvOk g tv d i ∧ i = 10 * k + q + 1 ∧ ∀ s, nms[q]? = some s → f s = some (.ref tv)
theorem VOk.mono {g g' : G} {k : Nat} {f : Str → Option Value} {nms : List Str} {j : Nat} {tvs : List Addr} {ds : List (Addr × Int)} (h : VOk g k f nms j tvs ds) (l : Le g g') : VOk g' k f nms j tvs ds := ⟨h.l1, h.l2, fun q tv d i a b => let ⟨x, y, z⟩ := h.at_ q tv d i a b; ⟨x.mono l, y, z⟩⟩
theorem VOk.snoc {k : Nat} {f : Str → Option Value} {nms : List Str} {j : Nat} {tvs : List Addr} {ds : List (Addr × Int)} {tv d : Addr} {s : Str} (h : VOk g k f nms j tvs ds) (nd : nms.Nodup) (hs : nms[j]? = some s) (ht : TvOk g tv d (10 * k + j + 1)) :
    VOk g k (fun y => if y = s then some (.ref tv) else f y) nms (j + 1) (tvs ++ [tv]) (ds ++ [(d, (10 * k + j + 1 : Int))]) := by
  refine ⟨by simp [h.l1], by simp [h.l2], fun q tv' d' i' e1 e2 => ?_⟩
  by_cases q1 : q < j
  · rw [List.getElem?_append_left (by rw [h.l1]; exact q1)] at e1
    rw [List.getElem?_append_left (by rw [h.l2]; exact q1)] at e2
    obtain ⟨x, y, z⟩ := h.at_ q tv' d' i' e1 e2
    refine ⟨x, y, fun s' hs' => ?_⟩
    have hne : s' ≠ s := fun e => by
      rw [e, ← hs] at hs'
      have := (List.getElem?_inj (by have := (List.getElem?_eq_some_iff.mp hs).1; omega) nd).mp hs'
      omega
    simp only [if_neg hne]
    exact z s' hs'
  · have hq : q = j := by
      have := (List.getElem?_eq_some_iff.mp e1).1
      rw [List.length_append, h.l1] at this
      simp at this; omega
    subst hq
    rw [List.getElem?_append_right (by rw [h.l1]; omega), h.l1] at e1
    rw [List.getElem?_append_right (by rw [h.l2]; omega), h.l2] at e2
    simp at e1 e2
    obtain ⟨e2, e3⟩ := e2
    subst e1 e2 e3
    refine ⟨ht, rfl, fun s' hs' => ?_⟩
    rw [hs] at hs'; cases hs'
    exact if_pos rfl
theorem VOk.binds {k : Nat} {f : Str → Option Value} {nms : List Str} {j : Nat} {tvs : List Addr} {ds : List (Addr × Int)} (h : VOk g k f nms j tvs ds) (hk : k ≤ 4) (hj : j ≤ 2) : Binds g tvs ds := by
  have at' : ∀ (q : Nat) (hq : q < ds.length), ∃ tv, tvs[q]? = some tv ∧ TvOk g tv ds[q].1 ds[q].2 ∧ ds[q].2 = 10 * k + q + 1 := fun q hq => by
    have h1 : q < tvs.length := by rw [h.l1, ← h.l2]; exact hq
    obtain ⟨x, y, z⟩ := h.at_ q tvs[q] ds[q].1 ds[q].2 (List.getElem?_eq_getElem h1) (List.getElem?_eq_getElem hq)
    exact ⟨_, List.getElem?_eq_getElem h1, x, y⟩
  refine ⟨by rw [h.l1, h.l2], fun q tv d i e1 e2 => ?_, ?_, ?_⟩
  · obtain ⟨x, y, z⟩ := h.at_ q tv d i e1 e2
    have := (List.getElem?_eq_some_iff.mp e1).1
    rw [h.l1] at this
    exact ⟨x.ty, x.id, by omega, by omega⟩
  · refine List.pairwise_map.mpr (List.pairwise_iff_getElem.mpr fun p q hp hq hpq e => ?_)
    obtain ⟨tv, a1, a2, a3⟩ := at' p hp
    obtain ⟨tv', b1, b2, b3⟩ := at' q hq
    have := TvId.inj a2.id (e ▸ b2.id)
    omega
  · refine List.pairwise_map.mpr (List.pairwise_iff_getElem.mpr fun p q hp hq hpq e => ?_)
    obtain ⟨tv, a1, a2, a3⟩ := at' p hp
    obtain ⟨tv', b1, b2, b3⟩ := at' q hq
    rw [a3, b3] at e
    omega
theorem VOk.inv {k : Nat} {f : Str → Option Value} {nms : List Str} {j : Nat} {tvs : List Addr} {ds : List (Addr × Int)} (h : VOk g k f nms j tvs ds) : InvV g tvs := fun q tv e => by
  have h1 : q < ds.length := by rw [h.l2, ← h.l1]; exact (List.getElem?_eq_some_iff.mp e).1
  obtain ⟨x, y, z⟩ := h.at_ q tv ds[q].1 ds[q].2 e (List.getElem?_eq_getElem h1)
  obtain ⟨a, b, c, dd, e, f⟩ := x.obj
  exact ⟨a, b, _, c, dd, e, f⟩
theorem Inst.unmap {a x C : Addr} {f : Str → Option Value} {m : Nat} {kv : List (Str × Value)} (h : Inst (setG g a (.map f m)) x C kv) : Inst g x C kv := by
  obtain ⟨d, e1, e2⟩ := h
  have k : ∀ {b : Addr} {mo : MO}, setG g a (.map f m) b = some mo → (∀ f m, mo ≠ .map f m) → g b = some mo := fun {b mo} e hn => by
    unfold setG at e
    split at e
    · cases e; exact absurd rfl (hn _ _)
    · exact e
  exact ⟨d, k e1 (fun _ _ q => nomatch q), k e2 (fun _ _ q => nomatch q)⟩
mutual
theorem TyR.unmap {a : Addr} {f : Str → Option Value} {m : Nat} : ∀ {x : Addr} {t : Ty}, TyR (setG g a (.map f m)) x t → TyR g x t
  | _, _, .var i ⟨t, u, d⟩ => .var i.unmap ⟨t, u, d.unmap⟩
  | _, _, .inst i ⟨d, c⟩ e as z => .inst i.unmap ⟨d, by
      unfold setG at c
      split at c
      · cases c
      · exact c⟩ (by
      unfold Tup setG at e
      split at e
      · cases e
      · exact e) as.unmap z
theorem TysR.unmap {a : Addr} {f : Str → Option Value} {m : Nat} : ∀ {xs : List Addr} {ts : List Ty}, TysR (setG g a (.map f m)) xs ts → TysR g xs ts
  | _, _, .nil => .nil
  | _, _, .cons h t => .cons h.unmap t.unmap
end
theorem mroT_split {E : Base} {sts : List Storey} : mroT E sts = (sts.map (·.C) ++ [E.plain]) ++ [E.root] := by unfold mroT; simp
theorem Tower.bot {E : Base} (hE : BaseOk g E) : ∀ {sts : List Storey}, Tower g E sts → ∃ nm tvs bs, ClsA g (botC E sts) nm tvs bs (mroT E sts)
  | [], _ => ⟨_, _, _, hE.plain⟩
  | _ :: _, .cons a _ => ⟨_, _, _, a.cls⟩
theorem Tower.nodup {E : Base} (hE : BaseOk g E) : ∀ {sts : List Storey}, Tower g E sts → (mroT E sts).Nodup
  | [], _ => by
    show [E.plain, E.root].Nodup
    simp [hE.neP]
  | _ :: _, .cons a t => List.nodup_cons.mpr ⟨a.new, t.nodup hE⟩
theorem Tower.haveBases {E : Base} (hE : BaseOk g E) : ∀ {sts : List Storey}, Tower g E sts → ∀ x ∈ sts.map (·.C) ++ [E.plain], ∃ nm tvs c bs m, ClsA g x nm tvs (c :: bs) m
  | [], _, x, hx => by
    rw [List.map_nil, List.nil_append, List.mem_singleton] at hx
    subst hx
    exact ⟨_, _, _, _, _, hE.plain⟩
  | st :: r, .cons a t, x, hx => by
    rcases List.mem_cons.mp hx with rfl | hx
    · exact ⟨_, _, _, _, _, a.cls⟩
    · exact t.haveBases hE x hx

end
section
variable {prog : Program} {w : World} {g : G} {n : Nat}
theorem T.monoL {α : Type} {c : Cx} {ρ : Str → Option Value} {M : Mem} {t : Sem α} {Q Q' : Post α} (h : T prog w c t Q g ρ M) (k : ∀ r g' ρ M, Le g g' → Q r g' ρ M → Q' r g' ρ M) : T prog w c t Q' g ρ M :=
  fun s hA => wpAny_mono (h s hA) (fun _ _ ⟨g', ρ', M', a, b, l, q⟩ => ⟨g', ρ', M', a, b, l, k _ _ _ _ l q⟩) fun _ _ e => e
set_option maxHeartbeats 4000000 in
theorem partB {oc : Value} {od : Option Addr} {fd : FuncData} {osl : Array (Option Value)} {body : List Stmt} (hK : (KP w.params).lookup 655 = some ⟨oc, od, .func fd, osl⟩) (hb : fd.body = .stmts body) {c : Cx} (O : c.Ok (KP w.params) 259) (W : c.Own) (hS : c.env.scope.names = fd.scope.names)
    {ρ : Str → Option Value} {a : Addr} {vs : List Value} {E : Base} {wd SL HL : Addr} {f : Str → Option Value} {m : Nat} (S : Lst g a vs) (hz : vs.length ≤ 63) (hi : ∀ v ∈ vs, IntV v) (hE : BaseOk g E)
    (fA : f "A" = some (.ref E.aA)) (fB : f "B" = some (.ref E.aB)) (fR : f "row" = some (.ref E.R)) (hm : m ≤ 3)
    (r0 : ρ "script" = some (.ref a)) (r1 : ρ "top" = some (.ref E.top)) (r2 : ρ "plain" = some (.ref E.plain)) (r3 : ρ "root" = some (.ref E.root)) (r5 : ρ "world" = some (.ref wd)) (r6 : ρ "storeys" = some (.ref SL)) (r7 : ρ "heads" = some (.ref HL)) :
    T prog w c (execs (body.drop 6) c.env) (fun fl _ _ _ => retOf fl = .bool true) g ρ [(HL, .list []), (SL, .list []), (wd, .map f m)] := by
  have hK0 := hK
  have hb0 := hb
  have hS0 := hS
  cases hK
  cases hb
  dsimp only [List.drop] at hS ⊢
  refine T.execs_cons (T.for_ O W hS (fun _ => rfl) ?_)
  tb_start
  refine T.pu O (lawAt S hz hi ⟨_, _, rfl⟩ (by decide)) (by omega) fun r g12 l12 ⟨i0, t0, q⟩ => ?_
  subst q
  tb_start
  refine T.modI (by decide) fun t1 => ?_
  tb_start
  have m0 := Int.fmod_nonneg_of_pos i0 (show (0 : Int) < 3 by decide)
  have m1 := Int.fmod_lt_of_pos i0 (show (0 : Int) < 3 by decide)
  generalize i0.fmod 3 = b0 at m0 m1
  obtain ⟨N, hN, hN3, hN5⟩ : ∃ N : Nat, (3 : Int) + b0 = (N : Int) ∧ 3 ≤ N ∧ N ≤ 5 := ⟨(3 + b0).toNat, by omega, by omega, by omega⟩
  rw [hN]
  refine T.range1 fun rg g13 l13 hrg => ?_
  have l013 := l12.trans l13
  have hsm : Builtin.Range.small 0 (N : Int) 1 = true ∧ Builtin.Range.rangeSize 0 (N : Int) 1 = (N : Int) := by
    have : N = 3 ∨ N = 4 ∨ N = 5 := by omega
    rcases this with q | q | q <;> rw [q] <;> decide
  have S13 := S.mono l013
  have hE13 := hE.mono l013
  clear l12 l13 l013 S hE
  refine Seqs.range (m := N) O hrg hsm.1 hsm.2 ⟨fun j g' ρ' M' => (ρ' "script" = some (.ref a) ∧ ρ' "top" = some (.ref E.top) ∧ ρ' "plain" = some (.ref E.plain) ∧ ρ' "root" = some (.ref E.root) ∧ ρ' "world" = some (.ref wd) ∧ ρ' "storeys" = some (.ref SL) ∧ ρ' "heads" = some (.ref HL)) ∧
    ∃ sts sl hl f m, sts.length = j ∧ Tower g' E sts ∧ SlOk g' sl sts ∧ HlOk g' hl sts ∧ M' = [(HL, .list hl), (SL, .list sl), (wd, .map f m)] ∧ f "A" = some (.ref E.aA) ∧ f "B" = some (.ref E.aB) ∧ f "row" = some (.ref E.R) ∧ m ≤ 3 + 2 * j,
    ⟨⟨by k_subL, by k_subL, by k_subL, by k_subL, by k_subL, by k_subL, by k_subL⟩, [], [], [], f, m, rfl, .nil, ⟨rfl, fun k st e => by simp at e⟩, ⟨rfl, fun k st e => by simp at e⟩, rfl, fA, fB, fR, hm⟩, ?_, ?_⟩
  · rintro c1 O1 W1 hS1 k v g1 ρ1 M1 hk ⟨tk, rfl⟩ l1 ⟨⟨v0, v1, v2, v3, v5, v6, v7⟩, sts, sl, hl, f, m, hlen, hT, hsl, hhl, rfl, fA, fB, fR, hm⟩
    have hk4 : k ≤ 4 := by omega
    have hE1 := hE13.mono l1
    have S1 := S13.mono l1
    have ek : (0 : Int) + (k : Int) * 1 = (k : Int) := by omega
    rw [ek]
    refine T.assign_stored (T.stVar O1 W1 hS1 (by kernel_rfl) ?_)
    -- names
    refine T.execs_cons (T.assign_lc0 O1 hS1 (by kernel_rfl) ?_)
    refine T.monoL (Q := fun v g' ρ' M' => ∃ NL vsn nms, v = .ref NL ∧ StrsV vsn nms ∧ NmOk nms ∧ ρ' = put ρ1 "k" (.int k tk) ∧ M' = (NL, .list vsn) :: [(HL, .list hl), (SL, .list sl), (wd, .map f m)]) ?_ ?_
    · refine T.lc O1 hS1 (by kernel_rfl) (by kernel_rfl) (fun _ => rfl) ?_
      tb_start
      refine T.pu O1 (lawAt S1 hz hi ⟨_, _, rfl⟩ (by omega)) (by omega) fun r g2 l2 ⟨i0, t0, q⟩ => ?_
      subst q
      tb_start
      refine T.modI (by decide) fun t1 => ?_
      tb_start
      have m0 := Int.fmod_nonneg_of_pos i0 (show (0 : Int) < 2 by decide)
      have m1 := Int.fmod_lt_of_pos i0 (show (0 : Int) < 2 by decide)
      generalize i0.fmod 2 = b0 at m0 m1
      obtain ⟨cn, hcn, hc1, hc2⟩ : ∃ cn : Nat, (1 : Int) + b0 = (cn : Int) ∧ 1 ≤ cn ∧ cn ≤ 2 := ⟨(1 + b0).toNat, by omega, by omega, by omega⟩
      rw [hcn]
      refine T.range1 fun rg2 g3 l3 hrg2 => ?_
      have hsm2 : Builtin.Range.small 0 (cn : Int) 1 = true ∧ Builtin.Range.rangeSize 0 (cn : Int) 1 = (cn : Int) := by
        have : cn = 1 ∨ cn = 2 := by omega
        rcases this with q | q <;> rw [q] <;> decide
      refine Seqs.range (m := cn) O1 hrg2 hsm2.1 hsm2.2 (LcK.map (fun i v g' => ∃ t, v = .str (vname (3 * k + i)) t) (fun q v _ _ l h => h) (by kernel_rfl) (by omega) ?_ ?_)
      · rintro D' c2 O2 hS2 q v g4 ρ3 acc hq ⟨tj, rfl⟩ l4 hρ
        have e5 : ρ3 "k" = some (.int k tk) := (hρ "k" (by kernel_rfl)).trans (by k_subL)
        tb_start
        refine T.mulI (.of_left (by decide)) fun t5 => ?_
        tb_start
        have e6 : (3 : Int) * (k : Int) + (0 + (q : Int) * 1) = ((3 * k + q : Nat) : Int) := by omega
        rw [e6]
        refine T.strI (by omega) (by omega) fun t6 => ?_
        refine T.addS ?_ fun t7 => ?_
        · have h1 := len_str_of_int ((3 * k + q : Nat) : Int)
          have h2 : (Str.ofString "v").length = 1 := by decide +kernel
          omega
        · exact ⟨rfl, t7, rfl⟩
      intro NL ys g4 l4 hlen4 hys
      refine ⟨NL, ys, _, rfl, ⟨?_, fun j v s e1 e2 => ?_⟩, vnames_ok hk4 hc1 hc2, rfl, rfl⟩
      · rw [hlen4]; simp
      · obtain ⟨t, e⟩ := hys j v e1
        rw [List.getElem?_map] at e2
        obtain ⟨q, hq, rfl⟩ := Option.map_eq_some_iff.mp e2
        have : q = j := by
          have h1 := (List.getElem?_eq_some_iff.mp hq)
          obtain ⟨h1, h2⟩ := h1
          simpa using h2.symm
        subst this
        exact ⟨t, e⟩
    rintro v g2 ρ2 M2 l2 ⟨NL, vsn, nms, rfl, hvn, hnm, rfl, rfl⟩
    refine T.freeze0 fun hNL => ?_
    have SN : Lst (setG g2 NL (.list vsn)) NL vsn := setG_self
    have l3 : Le g2 (setG g2 NL (.list vsn)) := Le.setG hNL
    generalize setG g2 NL (.list vsn) = g3 at SN l3
    have l13 := l2.trans l3
    have S3 := S1.mono l13
    have hE3 := hE1.mono l13
    have hT3 := hT.mono l13
    have hsl3 := hsl.mono l13
    have hhl3 := hhl.mono l13
    clear l2 l3 hNL S1 hE1 hT hsl hhl
    refine T.stVar O1 W1 hS1 (by kernel_rfl) ?_
    -- names, turned or not
    refine ExecK.next (T.execs_cons (T.assign_name (fun _ => by kernel_rfl) (fun _ => by kernel_rfl) ?_))
    refine T.monoL (Q := fun v g' ρ' M' => ∃ NB vsn nms, v = .ref NB ∧ Lst g' NB vsn ∧ StrsV vsn nms ∧ NmOk nms ∧ ρ' = put (put ρ1 "k" (.int k tk)) "names" (.ref NL) ∧ M' = [(HL, .list hl), (SL, .list sl), (wd, .map f m)]) ?_ ?_
    · tb_start
      refine T.pu O1 (lawAt S3 hz hi ⟨_, _, rfl⟩ (by decide)) (by omega) fun r g4 l4 ⟨i0, t0, q⟩ => ?_
      subst q
      tb_start
      refine T.modI (by decide) fun t1 => ?_
      tb_start
      refine IfK.split (fun q => ?_) fun q => ?_
      · tb_start
        refine T.revIter (SN.mono l4) fun I => ?_
        tb_start
        refine T.listRev O1 (SN.mono l4) (by rw [hvn.1]; have := hnm.2.2.1; omega) fun b hb => ?_
        exact ⟨b, _, _, rfl, setG_self, hvn.reverse, hnm.reverse, rfl, rfl⟩
      · tb_start
        exact ⟨_, _, _, rfl, SN.mono l4, hvn, hnm, rfl, rfl⟩
    clear hnm hvn
    rintro v g4 ρ4 M4 l4 ⟨NB, vsn, nms, rfl, SN4, hvn, hnm, rfl, rfl⟩
    have S4 := S3.mono l4
    have hE4 := hE3.mono l4
    have hT4 := hT3.mono l4
    have hsl4 := hsl3.mono l4
    have hhl4 := hhl3.mono l4
    clear l4 S3 hE3 hT3 hsl3 hhl3 l13
    refine T.stVar O1 W1 hS1 (by kernel_rfl) ?_
    refine ExecK.next (T.execs_cons (T.for_ O1 W1 hS1 (fun _ => rfl) ?_))
    tb_start
    refine T.enum SN4 fun e it o ho1 ho2 => ?_
    obtain ⟨nd, hn1, hn2, hnAB⟩ := hnm
    refine Seqs.enum O1 SN4 ho1 ho2 ⟨fun j g' ρ' M' => (ρ' "script" = some (.ref a) ∧ ρ' "top" = some (.ref E.top) ∧ ρ' "plain" = some (.ref E.plain) ∧ ρ' "root" = some (.ref E.root) ∧ ρ' "world" = some (.ref wd) ∧ ρ' "storeys" = some (.ref SL) ∧ ρ' "heads" = some (.ref HL) ∧ ρ' "k" = some (.int k tk) ∧ ρ' "names" = some (.ref NB)) ∧
      ∃ f m tvs ds, VOk g' k f nms j tvs ds ∧ M' = [(HL, .list hl), (SL, .list sl), (wd, .map f m)] ∧ f "A" = some (.ref E.aA) ∧ f "B" = some (.ref E.aB) ∧ f "row" = some (.ref E.R) ∧ m ≤ 3 + 2 * k + j,
      ⟨⟨by k_subL, by k_subL, by k_subL, by k_subL, by k_subL, by k_subL, by k_subL, by k_subL, by k_subL⟩, f, m, [], [], ⟨rfl, rfl, fun q tv d i e => by simp at e⟩, rfl, fA, fB, fR, by omega⟩, ?_, ?_⟩
    · rintro c2 O2 W2 hS2 j v g5 ρ5 M5 hj ⟨T0, vals, rfl, ⟨tj, x, hx, rfl⟩, hT0⟩ l5 ⟨⟨x0, x1, x2, x3, x5, x6, x7, x8, x9⟩, f, m, tvs, ds, hV, rfl, fA, fB, fR, hm⟩
      have hjn : j < nms.length := by rw [← hvn.1]; exact hj
      have hnj : nms[j]? = some nms[j] := List.getElem?_eq_getElem hjn
      obtain ⟨tn, rfl⟩ := hvn.2 j x nms[j] hx hnj
      have hab := hnAB nms[j] (List.getElem_mem hjn)
      generalize nms[j] = nm at hx hnj hT0 hab
      refine T.unpackT (vals := [.int j tj, .str nm tn]) O2 (.inl hT0) rfl rfl ?_
      refine T.inOrder_cons (T.assign_stored (T.stVar O2 W2 hS2 (by kernel_rfl) ?_))
      refine T.inOrder_cons (T.assign_stored (T.stVar O2 W2 hS2 (by kernel_rfl) ?_))
      refine T.inOrder_nil ?_
      tb_start
      refine T.mulI (.of_left (by decide)) fun t5 => ?_
      tb_start
      refine T.pu O2 mk_TypeVarId (by omega) fun r g6 l6 ⟨idn, q1, q2⟩ => ?_
      subst q1
      tb_start
      refine T.newListF (by simp) fun L7 hL7 => ?_
      have l7 := Le.setG (m := .list []) hL7
      tb_start
      refine T.pu O2 (mk_tv (q2.mono l7)) (by omega) fun r g8 l8 ⟨tv, q1, q3⟩ => ?_
      subst q1
      tb_start
      refine T.setItemD (pre := [(HL, .list hl), (SL, .list sl)]) (post := []) O2 (by omega) ?_
      tb_start
      refine ⟨⟨by k_subL, by k_subL, by k_subL, by k_subL, by k_subL, by k_subL, by k_subL, by k_subL, by k_subL⟩, _, _, tvs ++ [tv], ds ++ [(idn, (10 * k + j + 1 : Int))], (hV.mono (l6.trans (l7.trans l8))).snoc nd hnj q3, rfl, ?_, ?_, ?_, by omega⟩
      · simp only [if_neg (Ne.symm hab.1)]; exact fA
      · simp only [if_neg (Ne.symm hab.2.1)]; exact fB
      · simp only [if_neg (Ne.symm hab.2.2)]; exact fR
    clear fA fB fR hm f m
    rintro g5 ρ5 M5 l5 ⟨⟨x0, x1, x2, x3, x5, x6, x7, x8, x9⟩, f, m, tvs, ds, hV, rfl, fA, fB, fR, hm⟩
    rw [hvn.1] at hV
    have S5 := S4.mono l5
    have hE5 := hE4.mono l5
    have hT5 := hT4.mono l5
    have hsl5 := hsl4.mono l5
    have hhl5 := hhl4.mono l5
    have SN5 := SN4.mono l5
    clear l5 S4 hE4 hT4 hsl4 hhl4 SN4
    -- head
    refine ExecK.next (T.execs_cons (T.assign_name (fun _ => by kernel_rfl) (fun _ => by kernel_rfl) ?_))
    refine T.monoL (Q := fun v g' ρ' M' => ∃ H hv hd, v = .ref H ∧ TrsV g' hv hd ∧ hd.length = botN sts ∧ (∀ tr ∈ hd, Simple nms tr) ∧ ρ' = ρ5 ∧ M' = (H, .list hv) :: [(HL, .list hl), (SL, .list sl), (wd, .map f m)]) ?_ ?_
    · tb_start
      refine T.gtI ?_
      tb_start
      refine IfK.split (fun q => ?_) fun q => ?_
      · have hk0 : 0 < k := by have := of_decide_eq_true q; omega
        obtain ⟨lo, r, rfl⟩ : ∃ lo r, sts = lo :: r := by
          cases sts with
          | nil => simp at hlen; omega
          | cons lo r => exact ⟨lo, r, rfl⟩
        have hrev : (lo :: r).reverse[sl.length - 1]? = some lo := by
          rw [hsl5.1, List.getElem?_reverse (by simp), List.length_cons]
          simp
        obtain ⟨T1, nl1, vsn1, a1, a2, a3, a4⟩ := hsl5.2 _ lo hrev
        have fewL : 1 ≤ lo.nms.length ∧ lo.nms.length ≤ 2 := (hT5.at_ (i := 0) rfl).few
        have hsl1 : 1 ≤ sl.length := by rw [hsl5.1]; simp
        refine T.lc O1 hS1 (by kernel_rfl) (by kernel_rfl) (fun _ => rfl) ?_
        tb_start
        refine T.negI fun t6 => ?_
        refine T.itemLneg (v := .ref T1) (.inr (.tail _ (.head _))) (by decide) (by omega) (by decide) (by rw [← a1]; congr 1; omega) (by rfl) ?_
        tb_start
        refine T.itemT a2 (by decide) (by decide) rfl (by rfl) ?_
        tb_start
        refine T.lenL (.inl a3) (by rw [a4.1]; omega) fun t7 => ?_
        tb_start
        rw [a4.1]
        refine T.range1 fun rg2 g6 l6 hrg2 => ?_
        have hsm2 : Builtin.Range.small 0 (lo.nms.length : Int) 1 = true ∧ Builtin.Range.rangeSize 0 (lo.nms.length : Int) 1 = (lo.nms.length : Int) := by
          have : lo.nms.length = 1 ∨ lo.nms.length = 2 := by omega
          rcases this with q | q <;> rw [q] <;> decide
        refine Seqs.range (m := lo.nms.length) O1 hrg2 hsm2.1 hsm2.2 (LcK.map (fun i v g' => ∃ tr, TrV g' v tr ∧ Simple nms tr) (fun q v _ _ l ⟨tr, e, h⟩ => ⟨tr, e.mono l, h⟩) (by kernel_rfl) (by omega) ?_ ?_)
        · rintro D' c2 O2 hS2 q v g7 ρ7 acc hq ⟨tq, rfl⟩ l7 hρ
          have e0 : ρ7 "script" = some (.ref a) := (hρ "script" (by kernel_rfl)).trans (by k_subL)
          have e1 : ρ7 "k" = some (.int k tk) := (hρ "k" (by kernel_rfl)).trans (by k_subL)
          have e2 : ρ7 "names" = some (.ref NB) := (hρ "names" (by kernel_rfl)).trans (by k_subL)
          tb_start
          refine T.mulI (.of_left (by decide)) fun t8 => ?_
          tb_start
          refine T.mulI (.of_left (by decide)) fun t9 => ?_
          tb_start
          refine T.pu O2 (lawAt (S5.mono (l6.trans l7)) hz hi ⟨_, _, rfl⟩ (by omega)) (by omega) fun r g8 l8 ⟨i0, t0, q⟩ => ?_
          subst q
          tb_start
          refine T.modI (by decide) fun t10 => ?_
          tb_start
          refine T.pu O2 (lawPart (SN5.mono (l6.trans (l7.trans l8))) hvn (by intro q; rw [q] at hn1; simp at hn1) (by omega)) (by omega) fun r g9 l9 q => ?_
          exact ⟨rfl, q⟩
        intro H hv g7 l7 hlen7 hys
        obtain ⟨hd, hdV, hdS⟩ : ∃ d : List Tr, TrsV g7 hv d ∧ ∀ tr ∈ d, Simple nms tr := by
          clear hlen7
          induction hv with
          | nil => exact ⟨[], .nil, fun _ h => nomatch h⟩
          | cons v dv ih =>
            obtain ⟨tr, h1, h2⟩ := hys 0 v rfl
            obtain ⟨d, h3, h4⟩ := ih fun i y e => hys (i + 1) y (by simpa using e)
            exact ⟨tr :: d, .cons h1 h3, fun t ht => by
              rcases List.mem_cons.mp ht with rfl | ht
              · exact h2
              · exact h4 t ht⟩
        exact ⟨H, hv, hd, rfl, hdV, by rw [← Al.length hdV, hlen7]; rfl, hdS, rfl, rfl⟩
      · have hk0 : k = 0 := by have := of_decide_eq_false q; omega
        tb_start
        refine T.newList (by simp) fun H => ?_
        have hs0 : sts = [] := List.eq_nil_of_length_eq_zero (by omega)
        exact ⟨H, [], [], rfl, .nil, by rw [hs0]; rfl, (fun _ h => nomatch h), rfl, rfl⟩
    rintro v g6' ρ6 M6 l6' ⟨H, hv, hd, rfl, hVd', hdl, hds, rfl, rfl⟩
    refine T.freeze0 fun hHn => ?_
    have SH : Lst (setG g6' H (.list hv)) H hv := setG_self
    have l6'' : Le g6' (setG g6' H (.list hv)) := Le.setG hHn
    have hVd := hVd'.mono l6''
    have l6 := l6'.trans l6''
    generalize setG g6' H (.list hv) = g6 at SH l6'' hVd l6
    clear hVd' l6' l6'' hHn
    have S6 := S5.mono l6
    have hE6 := hE5.mono l6
    have hT6 := hT5.mono l6
    have hsl6 := hsl5.mono l6
    have hhl6 := hhl5.mono l6
    have SN6 := SN5.mono l6
    have hV6 := hV.mono l6
    clear S5 hE5 hT5 hsl5 hhl5 SN5 hV l6
    refine T.stVar O1 W1 hS1 (by kernel_rfl) ?_
    -- base
    refine ExecK.next (T.execs_cons (T.assign_name (fun _ => by kernel_rfl) (fun _ => by kernel_rfl) ?_))
    refine T.monoL (Q := fun v g' ρ' M' => ∃ b, v = .ref b ∧ TyR g' b (.inst (botC E sts) (hd.map (Tr.ty (vars nms ds) E.R))) ∧ ρ' = put ρ6 "head" (.ref H) ∧ M' = [(HL, .list hl), (SL, .list sl), (wd, .map f m)]) ?_ ?_
    · tb_start
      refine T.gtI ?_
      tb_start
      refine IfK.split (fun q => ?_) fun q => ?_
      · have hk0 : 0 < k := by have := of_decide_eq_true q; omega
        obtain ⟨lo, r, rfl⟩ : ∃ lo r, sts = lo :: r := by
          cases sts with
          | nil => simp at hlen; omega
          | cons lo r => exact ⟨lo, r, rfl⟩
        have hrev : (lo :: r).reverse[sl.length - 1]? = some lo := by
          rw [hsl6.1, List.getElem?_reverse (by simp), List.length_cons]
          simp
        obtain ⟨T1, nl1, vsn1, a1, a2, a3, a4⟩ := hsl6.2 _ lo hrev
        have cL := (hT6.at_ (i := 0) rfl).cls
        have fewL : 1 ≤ lo.nms.length ∧ lo.nms.length ≤ 2 := (hT6.at_ (i := 0) rfl).few
        have hsl1 : 1 ≤ sl.length := by rw [hsl6.1]; simp
        have hdl' : hd.length = lo.nms.length := hdl
        tb_start
        refine T.negI fun t6 => ?_
        refine T.itemLneg (v := .ref T1) (.inr (.tail _ (.head _))) (by decide) (by omega) (by decide) (by rw [← a1]; congr 1; omega) (by rfl) ?_
        tb_start
        refine T.itemT a2 (by decide) (by decide) rfl (by rfl) ?_
        tb_start
        refine T.lc O1 hS1 (by kernel_rfl) (by kernel_rfl) (fun _ => rfl) ?_
        tb_start
        refine Seqs.list O1 SH (LcK.map (fun q v g' => ∃ y tr, v = .ref y ∧ hd[q]? = some tr ∧ TyR g' y (Tr.ty (vars nms ds) E.R tr)) (fun q v _ _ l ⟨y, tr, e1, e2, h⟩ => ⟨y, tr, e1, e2, h.mono l⟩) (by kernel_rfl) (by rw [Al.length hVd]; omega) ?_ ?_)
        · intro D' c2 O2 hS2 q v g14 ρ3 acc hq hv l14 hρ
          have e5 : ρ3 "world" = some (.ref wd) := (hρ "world" (by kernel_rfl)).trans (by k_subL)
          obtain ⟨tr, etr, htr⟩ := Al.get_l hVd hv
          have hsim := hds tr (List.mem_of_getElem? etr)
          have hdep : tr.depth ≤ 2 := by obtain ⟨s, _, hs⟩ := hsim; rcases hs with rfl | rfl <;> simp [Tr.depth]
          have hlf : tr.leafIn (fun s => s ∈ nms) := by obtain ⟨s, h1, hs⟩ := hsim; rcases hs with rfl | rfl <;> exact h1
          tb_start
          refine T.puW (m := tr.depth + 6) (pre := [(D', .list acc), (HL, .list hl), (SL, .list sl)]) (post := []) (a := wd) (mo := .map f m) O2 (by omega) (fun hwd => lawMade (p := fun s => s ∈ nms) (σ := vars nms ds) (R := E.R) tr ((htr.mono l14).mono (Le.setG hwd)) hlf ?_) fun r g15 l15 hn15 ⟨y, q1, q2⟩ => ?_
          · refine ⟨⟨f, m, setG_self, fun s hs => ?_, fR⟩, ?_⟩
            · obtain ⟨j, hj⟩ := List.mem_iff_getElem?.mp hs
              have hjl := (List.getElem?_eq_some_iff.mp hj).1
              have h1 : j < tvs.length := by rw [hV6.l1]; exact hjl
              have h2 : j < ds.length := by rw [hV6.l2]; exact hjl
              obtain ⟨z1, z2, z3⟩ := hV6.at_ j tvs[j] ds[j].1 ds[j].2 (List.getElem?_eq_getElem h1) (List.getElem?_eq_getElem h2)
              refine ⟨tvs[j], z3 s hj, ?_⟩
              rw [vars_at (i := ds[j].2) (d := ds[j].1) nd hj (List.getElem?_eq_getElem h2)]
              exact (z1.ty.mono l14).mono (Le.setG hwd)
            · obtain ⟨_, q⟩ := (hE6.mono l14).cR
              exact q.cl.mono (Le.setG hwd)
          · exact ⟨rfl, y, tr, q1, etr, q2.unmap⟩
        intro DL ys g14 l14 hlen2 hys
        obtain ⟨as, has, hts⟩ : ∃ as : List Addr, ys = as.map .ref ∧ TysR g14 as (hd.map (Tr.ty (vars nms ds) E.R)) := by
          have hl : ys.length = hd.length := by rw [hlen2]; exact Al.length hVd
          clear hdl hdl' hds hlen2 hVd
          induction hd generalizing ys with
          | nil => cases ys with
            | nil => exact ⟨[], rfl, .nil⟩
            | cons => simp at hl
          | cons t d ih => cases ys with
            | nil => simp at hl
            | cons y ys =>
              obtain ⟨y0, tr, e1, e2, e3⟩ := hys 0 y rfl
              cases e2
              obtain ⟨as, e4, e5⟩ := ih ys (fun q v e => by
                obtain ⟨y1, tr1, f1, f2, f3⟩ := hys (q + 1) v (by simpa using e)
                exact ⟨y1, tr1, f1, by simpa using f2, f3⟩) (by simpa using hl)
              exact ⟨y0 :: as, by rw [e1, e4]; rfl, .cons e3 e5⟩
        subst has
        refine T.freeze0 fun hDL => ?_
        have l15 : Le g14 (setG g14 DL (.list (as.map .ref))) := Le.setG hDL
        tb_start
        refine T.pu O1 (mk_Instance setG_self (by rw [List.length_map, hts.length, List.length_map]; omega)) (by omega) fun r g16 l16 ⟨b, eb, q1, q2, q3⟩ => ?_
        exact ⟨b, q1, .inst q2 (cL.cl.mono (l14.trans (l15.trans l16))) q3 (hts.mono (l15.trans l16)) (by rw [List.length_map]; omega), rfl, rfl⟩
      · have hk0 : k = 0 := by have := of_decide_eq_false q; omega
        have hs0 : sts = [] := List.eq_nil_of_length_eq_zero (by omega)
        have hd0 : hd = [] := List.eq_nil_of_length_eq_zero (by rw [hdl, hs0]; rfl)
        tb_start
        refine T.newListF (by simp) fun L8 hL8 => ?_
        have l8 := Le.setG (m := .list []) hL8
        tb_start
        refine T.pu O1 (mk_Instance (vs := []) setG_self (by simp)) (by omega) fun r g8 l9 ⟨b, eb, q1, q2, q3⟩ => ?_
        refine ⟨b, q1, ?_, rfl, rfl⟩
        rw [hs0, hd0]
        exact .inst (as := []) q2 (hE6.plain.cl.mono (l8.trans l9)) q3 .nil (by simp)
    rintro v g8 ρ8 M8 l8 ⟨b, rfl, tb, rfl, rfl⟩
    have S8 := S6.mono l8
    have hE8 := hE6.mono l8
    have hT8 := hT6.mono l8
    have hsl8 := hsl6.mono l8
    have hhl8 := hhl6.mono l8
    have SN8 := SN6.mono l8
    have hV8 := hV6.mono l8
    have SH8 := SH.mono l8
    have hVd8 := hVd.mono l8
    clear S6 hE6 hT6 hsl6 hhl6 SN6 hV6 l8 SH hVd
    refine T.stVar O1 W1 hS1 (by kernel_rfl) ?_
    refine ExecK.next ?_
    tb_start
    refine T.methodL (.inr (.tail _ (.head _))) F.slot_list_append F.type_list_append ?_
    tb_start
    refine T.strI (by omega) (by omega) fun t6 => ?_
    refine T.addS ?_ fun t7 => ?_
    · have h1 := len_str_of_int (k : Int)
      have h2 : (Str.ofString "s").length = 1 := by decide +kernel
      omega
    tb_start
    refine T.lc O1 hS1 (by kernel_rfl) (by kernel_rfl) (fun _ => rfl) ?_
    tb_start
    refine Seqs.list O1 SN8 (LcK.map (fun q v g' => ∃ tv, tvs[q]? = some tv ∧ v = .ref tv) (fun q v _ _ l h => h) (by kernel_rfl) (by rw [hvn.1]; omega) ?_ ?_)
    · intro D' c2 O2 hS2 q v g9 ρ9 acc hq hv l9 hρ
      have e5 : ρ9 "world" = some (.ref wd) := (hρ "world" (by kernel_rfl)).trans (by k_subL)
      have hqn : q < nms.length := by rw [← hvn.1]; exact hq
      have hnq : nms[q]? = some nms[q] := List.getElem?_eq_getElem hqn
      obtain ⟨tn, rfl⟩ := hvn.2 q v nms[q] hv hnq
      have h1 : q < tvs.length := by rw [hV8.l1]; exact hqn
      have h2 : q < ds.length := by rw [hV8.l2]; exact hqn
      obtain ⟨_, _, z3⟩ := hV8.at_ q tvs[q] ds[q].1 ds[q].2 (List.getElem?_eq_getElem h1) (List.getElem?_eq_getElem h2)
      have z4 := z3 _ hnq
      generalize nms[q] = nm at z4
      tb_start
      refine T.itemD ⟨m, .inr (.tail _ (.tail _ (.tail _ (.head _))))⟩ z4 (by rfl) ?_
      exact ⟨rfl, _, List.getElem?_eq_getElem h1, rfl⟩
    intro TL tl g9 l9 hlen9 htl
    have etl : tl = tvs.map .ref := by
      refine List.ext_getElem? fun q => ?_
      by_cases hq : q < tl.length
      · obtain ⟨tv, e1, e2⟩ := htl q tl[q] (List.getElem?_eq_getElem hq)
        rw [List.getElem?_eq_getElem hq, e2, List.getElem?_map, e1]; rfl
      · rw [List.getElem?_eq_none (by omega), List.getElem?_eq_none (by rw [List.length_map, hV8.l1, ← hvn.1, ← hlen9]; omega)]
    subst etl
    refine T.freeze0 fun hTL => ?_
    have ST : Lst (setG g9 TL (.list (tvs.map .ref))) TL (tvs.map .ref) := setG_self
    have l9' : Le g9 (setG g9 TL (.list (tvs.map .ref))) := Le.setG hTL
    generalize setG g9 TL (.list (tvs.map .ref)) = g10 at ST l9'
    tb_start
    refine T.newListF (by simp) fun BL hBL => ?_
    have l10 := Le.setG (m := .list [Value.ref b]) hBL
    have l8b := l9.trans (l9'.trans l10)
    have hE10 := hE8.mono l8b
    have hT10 := hT8.mono l8b
    have hV10 := hV8.mono l8b
    obtain ⟨nmB, tvB, bsB, cB⟩ := hT10.bot hE10
    rw [mroT_split] at cB
    tb_start
    refine T.pu O1 (mk_one (tvs := tvs) (l := sts.map (·.C) ++ [E.plain]) hV10.inv (ST.mono l10) setG_self (by rw [hV8.l1]; omega) (by simp; omega) (tb.mono l8b) cB (hT10.haveBases hE10) hE10.root (by rw [← mroT_split]; exact hT10.nodup hE10)) (by omega) fun r g11 l11 ⟨C, q1, hCn, cC⟩ => ?_
    subst q1
    rw [← mroT_split] at cC
    have l811 := l8b.trans l11
    tb_start
    refine T.newTuple (by simp) fun T1 hT1 => ?_
    have ST1 : Tup (setG g11 T1 (.tup [.ref NB, .ref C])) T1 [.ref NB, .ref C] := setG_self
    have l12 : Le g11 (setG g11 T1 (.tup [.ref NB, .ref C])) := Le.setG hT1
    generalize setG g11 T1 (.tup [.ref NB, .ref C]) = g12 at ST1 l12
    have l812 := l811.trans l12
    tb_start
    refine T.appendL (pre := [(HL, .list hl)]) (post := [(wd, .map f m)]) O1 (by rw [hsl8.1]; omega) ?_
    tb_start
    refine ⟨rfl, ?_⟩
    tb_start
    refine T.methodL (.inr (.head _)) F.slot_list_append F.type_list_append ?_
    tb_start
    refine T.appendL (pre := []) O1 (by rw [hhl8.1]; omega) ?_
    tb_start
    refine ⟨rfl, ?_⟩
    tb_start
    have hnew : C ∉ mroT E sts := fun q => by
      obtain ⟨_, _, _, _, hc⟩ := hT10.known hE10 C q
      obtain ⟨dd, e⟩ := hc.cl
      rw [hCn] at e
      cases e
    have hst : StOk g12 E ⟨nms, hd, C, b, tvs, ds⟩ sts := {
      cls := by
        have := cC.mono l12
        rw [show nmS sts.length = Str.ofString "s" ++ Str.ofString (toString (k : Int)) by rw [hlen]; rfl]
        exact this
      binds := (hV8.mono l812).binds hk4 hn2
      inv := (hV8.mono l812).inv
      nd := nd
      len := hV8.l1.symm
      few := ⟨hn1, hn2⟩
      base := tb.mono l812
      hdlen := hdl
      simple := hds
      new := hnew }
    refine ⟨⟨by k_subL, by k_subL, by k_subL, by k_subL, by k_subL, by k_subL, by k_subL⟩, ⟨nms, hd, C, b, tvs, ds⟩ :: sts, sl ++ [.ref T1], hl ++ [.ref H], f, m, by simp [hlen], .cons hst (hT8.mono l812), ⟨by simp [hsl8.1], fun q st e => ?_⟩, ⟨by simp [hhl8.1], fun q st e => ?_⟩, rfl, fA, fB, fR, by have := hvn.1; omega⟩
    · rw [List.reverse_cons] at e
      by_cases hq : q < sts.length
      · rw [List.getElem?_append_left (by rw [List.length_reverse]; exact hq)] at e
        obtain ⟨T, nl, vn, a1, a2, a3, a4⟩ := (hsl8.mono l812).2 q st e
        exact ⟨T, nl, vn, by rw [List.getElem?_append_left (by rw [hsl8.1]; exact hq)]; exact a1, a2, a3, a4⟩
      · rw [List.getElem?_append_right (by rw [List.length_reverse]; omega), List.length_reverse] at e
        have hq0 : q = sts.length := by
          have := (List.getElem?_eq_some_iff.mp e).1
          simp at this; omega
        subst hq0
        rw [Nat.sub_self] at e
        cases e
        exact ⟨T1, NB, vsn, by rw [List.getElem?_append_right (by rw [hsl8.1]; omega), hsl8.1, Nat.sub_self]; rfl, ST1, SN8.mono l812, hvn⟩
    · rw [List.reverse_cons] at e
      by_cases hq : q < sts.length
      · rw [List.getElem?_append_left (by rw [List.length_reverse]; exact hq)] at e
        obtain ⟨H', hv', a1, a2, a3⟩ := (hhl8.mono l812).2 q st e
        exact ⟨H', hv', by rw [List.getElem?_append_left (by rw [hhl8.1]; exact hq)]; exact a1, a2, a3⟩
      · rw [List.getElem?_append_right (by rw [List.length_reverse]; omega), List.length_reverse] at e
        have hq0 : q = sts.length := by
          have := (List.getElem?_eq_some_iff.mp e).1
          simp at this; omega
        subst hq0
        rw [Nat.sub_self] at e
        cases e
        exact ⟨H, hv, by rw [List.getElem?_append_right (by rw [hhl8.1]; omega), hhl8.1, Nat.sub_self]; rfl, SH8.mono l812, hVd8.mono l812⟩
  · rintro g1 ρ1 M1 l1 ⟨⟨v0, v1, v2, v3, v5, v6, v7⟩, sts, sl, hl, f, m, hlen, hT, hsl, hhl, rfl, fA, fB, fR, hm⟩
    refine ExecK.next ?_
    have hE1 := hE13.mono l1
    have S1 := S13.mono l1
    refine T.freeze0 fun h1 => ?_
    have lh : Le g1 (setG g1 HL (.list hl)) := Le.setG h1
    have SHL : Lst (setG g1 HL (.list hl)) HL hl := setG_self
    generalize setG g1 HL (.list hl) = g2 at lh SHL
    refine T.freeze0 fun h2 => ?_
    have ls : Le g2 (setG g2 SL (.list sl)) := Le.setG h2
    have SSL : Lst (setG g2 SL (.list sl)) SL sl := setG_self
    generalize setG g2 SL (.list sl) = g3 at ls SSL
    refine T.freeze0 fun h3 => ?_
    have lw : Le g3 (setG g3 wd (.map f m)) := Le.setG h3
    have SW : setG g3 wd (.map f m) wd = some (.map f m) := setG_self
    generalize setG g3 wd (.map f m) = g4 at lw SW
    have l14 := lh.trans (ls.trans lw)
    exact partC hK0 hb0 O W hS0 (S1.mono l14) hz hi (hE1.mono l14) (hT.mono l14) (by omega) (by omega) (SSL.mono lw) (hsl.mono l14) (SHL.mono (ls.trans lw)) (hhl.mono l14) SW fA fB fR v0 v1 v2 v3 v5 v6 v7

end
section
variable {prog : Program} {w : World} {g : G} {n : Nat}
set_option maxHeartbeats 4000000 in
theorem lawTrue {a : Addr} {vs : List Value} (S : Lst g a vs) (hz : vs.length ≤ 63) (hi : ∀ v ∈ vs, IntV v) : Pu prog w (KP w.params) 260 (call (.ref 655) [.ref a]) (fun r _ => r = .bool true) g := by
  refine Fn.def (f := 655) (n := 259) (binds := [("script", .ref a)]) rfl ⟨rfl, rfl, rfl, rfl, rfl, rfl, by kernel_rfl, by decide +kernel, by kernel_rfl⟩ rfl (fun s X => BindsTo.of_eq rfl) rfl fun c O W hS => ?_
  dsimp only [ofBinds, List.foldl_cons, List.foldl_nil] at hS ⊢
  tb_start
  refine T.newListF (by simp) fun L1 hL1 => ?_
  have l1 := Le.setG (m := .list []) hL1
  tb_start
  refine T.newListF (by simp) fun L2 hL2 => ?_
  have l2 := Le.setG (m := .list []) hL2
  tb_start
  refine T.pu O (mk_root (l2 _ _ setG_self) setG_self) (by omega) fun r g1 l3 ⟨root, q1, hroot, cRoot⟩ => ?_
  subst q1
  have l01 := l1.trans (l2.trans l3)
  clear l1 l2 l3 hL1 hL2
  tb_start
  refine T.newListF (by simp) fun L3 hL3 => ?_
  have l4 := Le.setG (m := .list []) hL3
  tb_start
  refine T.pu O (mk_Instance (vs := []) setG_self (by simp)) (by omega) fun r g2 l5 ⟨top, eT, q1, q2, q3⟩ => ?_
  subst q1
  have l12 := l4.trans l5
  have tTop : TyR g2 top (.inst root []) := .inst (as := []) q2 (cRoot.cl.mono l12) q3 .nil (by simp)
  have cRoot2 := cRoot.mono l12
  have l02 := l01.trans l12
  clear q2 q3 l4 l5 hL3 cRoot l12 l01
  tb_start
  refine T.newListF (by simp) fun L4 hL4 => ?_
  have l4 := Le.setG (m := .list []) hL4
  tb_start
  refine T.newListF (by simp) fun L5 hL5 => ?_
  have l5 := Le.setG (m := .list [Value.ref top]) hL5
  tb_start
  refine T.pu O (mk_one (nm := "plain") (tvs := []) (l := []) (fun j tv e => by cases j <;> cases e) (l5 _ _ setG_self) setG_self (by simp) (by simp) (tTop.mono (l4.trans l5)) (cRoot2.mono (l4.trans l5)) (fun x hx => nomatch hx) (cRoot2.mono (l4.trans l5)) (by simp)) (by omega) fun r g3 l6 ⟨plain, q1, hplain, cPlain3⟩ => ?_
  subst q1
  have neP : plain ≠ root := fun q => by
    obtain ⟨d, e⟩ := cRoot2.cl
    have := l5 _ _ (l4 _ _ e)
    rw [← q, hplain] at this
    cases this
  have l23 := l4.trans (l5.trans l6)
  have tTop3 := tTop.mono l23
  have cRoot3 := cRoot2.mono l23
  have l03 := l02.trans l23
  clear l4 l5 l6 hL4 hL5 hplain tTop cRoot2 l02 l23
  tb_start
  refine T.dict2 O fun d => ?_
  tb_start
  refine T.newListF (by simp) fun L4 hL4 => ?_
  have l4 := Le.setG (m := .list []) hL4
  tb_start
  refine T.newListF (by simp) fun L5 hL5 => ?_
  have l5 := Le.setG (m := .list [Value.ref top]) hL5
  tb_start
  refine T.pu O (mk_one (nm := "A") (tvs := []) (l := []) (fun j tv e => by cases j <;> cases e) (l5 _ _ setG_self) setG_self (by simp) (by simp) (tTop3.mono (l4.trans l5)) (cRoot3.mono (l4.trans l5)) (fun x hx => nomatch hx) (cRoot3.mono (l4.trans l5)) (by simp)) (by omega) fun r g4 l6 ⟨CA, q1, hCA, cCA⟩ => ?_
  subst q1
  have neCA : CA ≠ plain := fun q => by
    obtain ⟨d, e⟩ := cPlain3.cl
    have := l5 _ _ (l4 _ _ e)
    rw [← q, hCA] at this
    cases this
  have l34 := l4.trans (l5.trans l6)
  tb_start
  refine T.newListF (by simp) fun L6 hL6 => ?_
  have l7 := Le.setG (m := .list []) hL6
  tb_start
  refine T.pu O (mk_Instance (vs := []) setG_self (by simp)) (by omega) fun r g5 l8 ⟨aA, eT, q1, q2, q3⟩ => ?_
  subst q1
  have l45 := l7.trans l8
  have tA5 : TyR g5 aA (.inst CA []) := .inst (as := []) q2 (cCA.cl.mono l45) q3 .nil (by simp)
  have cCA5 := cCA.mono l45
  have l35 := l34.trans l45
  have tTop5 := tTop3.mono l35
  have cRoot5 := cRoot3.mono l35
  have cPlain5 := cPlain3.mono l35
  have l05 := l03.trans l35
  clear l4 l5 l6 l7 l8 hL4 hL5 hL6 hCA q2 q3
  tb_start
  refine T.newListF (by simp) fun L4 hL4 => ?_
  have l4 := Le.setG (m := .list []) hL4
  tb_start
  refine T.newListF (by simp) fun L5 hL5 => ?_
  have l5 := Le.setG (m := .list [Value.ref top]) hL5
  tb_start
  refine T.pu O (mk_one (nm := "B") (tvs := []) (l := []) (fun j tv e => by cases j <;> cases e) (l5 _ _ setG_self) setG_self (by simp) (by simp) (tTop5.mono (l4.trans l5)) (cRoot5.mono (l4.trans l5)) (fun x hx => nomatch hx) (cRoot5.mono (l4.trans l5)) (by simp)) (by omega) fun r g6 l6 ⟨CB, q1, hCB, cCB⟩ => ?_
  subst q1
  have neCB : CB ≠ plain := fun q => by
    obtain ⟨d, e⟩ := cPlain5.cl
    have := l5 _ _ (l4 _ _ e)
    rw [← q, hCB] at this
    cases this
  have l56 := l4.trans (l5.trans l6)
  tb_start
  refine T.newListF (by simp) fun L6 hL6 => ?_
  have l7 := Le.setG (m := .list []) hL6
  tb_start
  refine T.pu O (mk_Instance (vs := []) setG_self (by simp)) (by omega) fun r g7 l8 ⟨aB, eT, q1, q2, q3⟩ => ?_
  subst q1
  have l67 := l7.trans l8
  have tB7 : TyR g7 aB (.inst CB []) := .inst (as := []) q2 (cCB.cl.mono l67) q3 .nil (by simp)
  have cCB7 := cCB.mono l67
  have l57 := l56.trans l67
  have tTop7 := tTop5.mono l57
  have cRoot7 := cRoot5.mono l57
  have cPlain7 := cPlain5.mono l57
  have l07 := l05.trans l57
  clear l4 l5 l6 l7 l8 hL4 hL5 hL6 hCB q2 q3
  have tA7 := tA5.mono l57
  have cCA7 := cCA5.mono l57
  refine ⟨_, _, _, _, _, rfl, rfl, rfl, ?_⟩
  tb_start
  refine T.pu O mk_TypeVarId (by omega) fun r g8 l8 ⟨id50, q1, q2⟩ => ?_
  subst q1
  tb_start
  refine T.newListF (by simp) fun L7 hL7 => ?_
  have l9 := Le.setG (m := .list []) hL7
  tb_start
  refine T.pu O (mk_tv (q2.mono l9)) (by omega) fun r g9 l10 ⟨tvR, q1, q3⟩ => ?_
  subst q1
  tb_start
  refine T.newListF (by simp) fun L8 hL8 => ?_
  have l11 := Le.setG (m := .list [Value.ref tvR]) hL8
  tb_start
  refine T.newListF (by simp) fun L9 hL9 => ?_
  have l12 := Le.setG (m := .list [Value.ref top]) hL9
  have l712 := l8.trans (l9.trans (l10.trans (l11.trans l12)))
  tb_start
  refine T.pu O (mk_one (nm := "row") (tvs := [tvR]) (l := []) (.cons (q3.mono (l11.trans l12)) .nil) (l12 _ _ setG_self) setG_self (by simp) (by simp) (tTop7.mono l712) (cRoot7.mono l712) (fun x hx => nomatch hx) (cRoot7.mono l712) (by simp)) (by omega) fun r g10 l13 ⟨R, q1, hR, cR⟩ => ?_
  subst q1
  have neR : R ≠ plain := fun q => by
    obtain ⟨d, e⟩ := cPlain7.cl
    have := l712 _ _ e
    rw [← q, hR] at this
    cases this
  have l710 := l712.trans l13
  have hE : BaseOk g10 ⟨root, top, plain, CA, CB, R, aA, aB⟩ := ⟨cRoot7.mono l710, tTop7.mono l710, cPlain7.mono l710, cCA7.mono l710, cCB7.mono l710, ⟨_, cR⟩, tA7.mono l710, tB7.mono l710, neCA, neCB, neR, neP⟩
  have l010 := l07.trans l710
  clear l8 l9 l10 l11 l12 l712 l13 hL7 hL8 hL9 hR l07 tA7 cCA7 q2 q3
  tb_start
  refine T.setItemD (pre := []) O (by simp) ?_
  tb_start
  refine T.assign_sw O rfl (swap2 (x := "storeys") (y := "heads") O hS (by kernel_rfl) (by kernel_rfl) (by kernel_rfl) (by kernel_rfl)) ?_
  tb_start
  refine T.newList (by simp) fun SL => ?_
  tb_start
  refine T.newList (by simp) fun HL => ?_
  tb_start
  refine T.newTuple (by simp) fun tt htt => ?_
  refine ⟨tt, _, rfl, setG_self, rfl, ?_⟩
  have l11 := Le.setG (m := .tup [Value.ref SL, Value.ref HL]) htt
  have hE11 := hE.mono l11
  have l011 := l010.trans l11
  generalize setG g10 tt (.tup [Value.ref SL, Value.ref HL]) = g11 at l11 hE11 l011
  refine T.inOrder_cons (T.bindName ?_)
  tb_start
  refine T.inOrder_cons (T.bindName ?_)
  tb_start
  refine T.inOrder_nil ?_
  refine ExecK.next ?_
  exact partB rfl rfl O W hS (S.mono l011) hz hi hE11 (by first | rfl | simp) (by first | rfl | simp [neBA]) (by first | rfl | simp) (by omega) (by k_subL) (by k_subL) (by k_subL) (by k_subL) (by k_subL) (by k_subL) (by k_subL)

end
end Mine

namespace Mine
theorem well_list {P : Params} {h : Heap} {a : Addr} {d : WData} {items : Array Value} (W : Well P h (.ref a) d) (hL : h.IsList a items) : h.get? a = some { cls := .type "list", data := .seq items } := by
  obtain ⟨o, ho, hc, n, hd⟩ := hL
  cases W with
  | list e _ => rw [e] at ho; cases ho; cases hd; exact e
  | bytearray e => rw [e] at ho; cases ho; simp at hc
  | tuple e => rw [e] at ho; cases ho; simp at hc
  | dict e => rw [e] at ho; cases ho; simp at hc
  | set e => rw [e] at ho; cases ho; simp at hc
  | frozenset e => rw [e] at ho; cases ho; simp at hc
  | obj e => rw [e] at ho; cases ho; simp at hc
theorem IntsAre.intV : ∀ {vs : List Value} {ns : List Int}, IntsAre vs ns → ∀ v ∈ vs, IntV v
  | _, _, .cons n t r, v, h => by
    rcases List.mem_cons.mp h with rfl | h
    · exact ⟨_, _, rfl⟩
    · exact IntsAre.intV r v h
theorem gl_law (P : Params) : nsIn (KP P) mainGlobals "law" = some (some (.ref 655)) := by kernel_rfl
theorem joined : PySem.Challenge.rw_ft0020_01.Holds := by
  refine hd ?_
  intro w s₀ s₁ mg mb G Y fa o pm cd doc dV kV ho hdd hcd hD hmg hg args vals as hpre hlay hrd hwl hlo
  have KX := kIn_of Y
  have TT := G.T
  clear hdd hcd hD ho
  have hfa : fa = 655 := by
    have e := mg_of KX TT.g (gl_law w.params)
    have e2 : mg "law" = some (.ref fa) := hmg
    rw [e2] at e
    cases e; rfl
  subst hfa
  wrow_args hpre hlay hrd hwl hlo
  rename_i ns _ _ _ _ _ _ _ a vs _ hL _ hw _ hI _ hlen _
  have hz : vs.length ≤ 63 := by rw [hI.length]; omega
  have e := well_list hw hL
  let g : Mine.G := fun b => if b = a then some (.list vs) else none
  have S : Lst g a vs := if_pos rfl
  have wd : Wd (KP w.params) s₁.heap := ⟨KX, ⟨_, TT.g⟩, ⟨_, TT.b, TT.builtins⟩, TT.nolimit⟩
  have sb : Sub w.params g s₁.heap := fun b m hb => by
    by_cases q : b = a
    · subst q
      have : m = .list vs := by
        have := S.symm.trans hb
        cases this; rfl
      subst this
      exact ⟨_, e, 0, rfl⟩
    · rw [show g b = none from if_neg q] at hb; cases hb
  refine wpAny_mono (lawTrue (prog := PySem.Challenge.rw_ft0020_01.row.toRowW.prog) S hz (IntsAre.intV hI) callerA s₁ ⟨by decide +kernel, by decide +kernel, rfl⟩ wd sb) (fun v s' ⟨x, rs, g', _, _, _, q⟩ => ?_) (fun _ _ h => h.elim)
  subst q
  refine GoodW.toG ⟨.inl ⟨.bool true, .bool true, [], rfl, raisesW_false (by wrow_none_raised), .bool _, ?_, fun _ => ⟨List.nodup_nil, fun _ h => nomatch h⟩⟩, x, rs.2.2, rs.1.trans hg⟩
  wrow_post
end Mine

theorem PySem.Challenge.cw_ft0020_01_holds : PySem.Challenge.rw_ft0020_01.Holds := by
  exact Mine.joined
