import PyProof.Rows.All
import Wide.All
import OpenK.AllK
import Wide.FinOn
import PySem.Challenge.RW_ft0020_02
open PySem PySem.W PyProof.Rows PySem.Calls
set_option Elab.async false
set_option maxRecDepth 100000
set_option linter.all false

namespace Mine

/-- an object seen without hashes, epochs, tokens -/
inductive MO where
  | list (vs : List Value)
  | tup (vs : List Value)
  | inst (C d : Addr)
  | sd (kv : List (Str × Value))
  | raw (o : Obj)
  /-- a dict of strs, seen as a function; at most n entries -/
  | map (f : Str → Option Value) (n : Nat)
  /-- a dict of objects: key, hash, value -/
  | vd (xs : List (Addr × Int × Value))

inductive SdEs (P : Params) : List DictEntry → List (Str × Value) → Prop where
  | nil : SdEs P [] []
  | cons {k : Str} {t : Tok} {v : Value} {es kv} : SdEs P es kv → SdEs P (⟨PyData.keyHash P k, .str k t, v⟩ :: es) ((k, v) :: kv)

def MO.rep (P : Params) : MO → Obj → Prop
  | .list vs, o => ∃ n, o = { cls := .type "list", data := .seq vs.toArray n }
  | .tup vs, o => o = { cls := .type "tuple", data := .seq vs.toArray }
  | .inst C d, o => o = instObj C d
  | .sd kv, o => ∃ es n, o = dictOf es n ∧ SdEs P es kv
  | .raw o', o => o = o'
  | .map f n, o => ∃ es kv ep, o = { cls := .type "dict", data := .dict (List.toArray es) ep } ∧ SdEs P es kv ∧ (kv.map (·.1)).Nodup ∧ (∀ k, kv.lookup k = f k) ∧ kv.length ≤ n
  | .vd xs, o => ∃ ep, o = { cls := .type "dict", data := .dict (xs.map fun x => ⟨x.2.1, .ref x.1, x.2.2⟩).toArray ep }

abbrev G := Addr → Option MO
abbrev Mem := List (Addr × MO)
def Le (g g' : G) : Prop := ∀ a m, g a = some m → g' a = some m
def Sub (P : Params) (g : G) (h : Heap) : Prop := ∀ a m, g a = some m → ∃ o, h.get? a = some o ∧ m.rep P o
def Ext (h h' : Heap) : Prop := ∀ a o, h.get? a = some o → h'.get? a = some o
theorem Le.pass {g g' : G} {a : Addr} {m : MO} (l : Le g g') (e : g a = some m) : g' a = some m := l _ _ e
theorem Le.refl (g : G) : Le g g := fun _ _ e => e
theorem Le.trans {a b c : G} (h : Le a b) (k : Le b c) : Le a c := fun _ _ e => k _ _ (h _ _ e)
theorem Ext.refl (h : Heap) : Ext h h := fun _ _ e => e
theorem Ext.trans {a b c : Heap} (h : Ext a b) (k : Ext b c) : Ext a c := fun _ _ e => k _ _ (h _ _ e)
theorem Sub.ext {P : Params} {g : G} {h h' : Heap} (x : Sub P g h) (k : Ext h h') : Sub P g h' := fun a m e => let ⟨o, ho, hr⟩ := x a m e; ⟨o, k _ _ ho, hr⟩

structure Wd (K : Frag) (h : Heap) : Prop where
  X : K.In h
  g : ∃ mg, h.Ns mainGlobals mg
  b : ∃ mb, h.Ns builtinsNs mb ∧ ∀ x : Str, x ≠ "__name__" → mb x = bootBuiltins x
  nolimit : h.NoLimit
theorem Wd.ext {K : Frag} {h h' : Heap} (x : Wd K h) (k : Ext h h') : Wd K h' :=
  ⟨x.X.keeps k, let ⟨m, a⟩ := x.g; ⟨m, a.keeps k⟩, let ⟨m, a, b⟩ := x.b; ⟨m, a.keeps k, b⟩, x.nolimit.keeps k⟩

structure Room (A : Around) (n : Nat) : Prop where
  depth : A.depth + n < recursionLimit
  units : A.units + 8 * n < cLine
  handled : A.handled = none
theorem Room.le {A : Around} {n m : Nat} (r : Room A n) (h : m ≤ n) : Room A m := ⟨by have := r.depth; omega, by have := r.units; omega, r.handled⟩
theorem Room.deeper {A : Around} {n : Nat} (r : Room A (n + 1)) (env : Env) : Room (A.deeper env) n :=
  ⟨by have := r.depth; show A.depth + 1 + n < _; omega, by have := r.units; show A.units + 3 + 8 * n < _; omega, r.handled⟩
theorem Room.in1 {A : Around} {n : Nat} (r : Room A (n + 1)) : Room A.in1 n :=
  ⟨by have := r.depth; show A.depth + n < _; omega, by have := r.units; show A.units + 1 + 8 * n < _; omega, r.handled⟩

structure Cx where
  A : Around
  env : Env
  own : List Addr
  h₀ : Heap
  ge : G

structure Act (P : Params) (c : Cx) (g : G) (ρ : Str → Option Value) (M : Mem) (h : Heap) : Prop where
  keep : Ext c.h₀ h
  know : Sub P g h
  old : ∀ a m, g a = some m → c.ge a = some m ∨ c.h₀.get? a = none
  ns : ∃ m, h.Ns c.env.locals m ∧ ∀ x, c.env.kindOf x = some .local → m x = ρ x
  cell : ∀ x a, c.env.cells.lookup x = some a → h.IsCell a (ρ x)
  mem : ∀ p ∈ M, ∃ o, h.get? p.1 = some o ∧ p.2.rep P o
  fresh : ∀ a ∈ c.own ++ M.map (·.1), c.h₀.get? a = none ∧ g a = none
  nodup : (c.own ++ M.map (·.1)).Nodup
  live : ∀ a ∈ c.own, ∃ o, h.get? a = some o

structure Cx.Ok (K : Frag) (c : Cx) (n : Nat) : Prop where
  room : Room c.A n
  wd : Wd K c.h₀
  kind : c.env.scope.kind = .function
  globals : c.env.globals = mainGlobals
  builtins : c.env.builtins = builtinsNs
  loc : c.env.locals ∈ c.own
  cells : ∀ x a, c.env.cells.lookup x = some a → a ≠ c.env.locals ∧ ∀ y b, c.env.cells.lookup y = some b → y ≠ x → b ≠ a
  cellOf : ∀ x, c.env.kindOf x = some .cell → ∃ a, c.env.cells.lookup x = some a
  freeOf : ∀ x, c.env.kindOf x = some .free → ∃ a, c.env.cells.lookup x = some a
  locOf : ∀ x, c.env.kindOf x = some .local → c.env.cells.lookup x = none
  cellIn : ∀ x a, c.env.cells.lookup x = some a → a ∈ c.own ∨ ∃ o, c.h₀.get? a = some o

/-- the cells are the function's own (it may store to them) -/
def Cx.Own (c : Cx) : Prop := ∀ x a, c.env.cells.lookup x = some a → a ∈ c.own
theorem kind_of {c : Cx} {l : List (Str × NameKind)} {x : Str} {k : NameKind} (h : c.env.scope.names = l) (e : l.lookup x = some k) : c.env.kindOf x = some k := by rw [Env.kindOf, h]; exact e
def Rest (s s' : Shared) : Prop := s'.gens = s.gens ∧ s'.drawn = s.drawn ∧ s'.os = s.os
theorem Rest.refl (s : Shared) : Rest s s := ⟨rfl, rfl, rfl⟩
theorem Rest.trans {a b c : Shared} (h : Rest a b) (k : Rest b c) : Rest a c := ⟨k.1.trans h.1, k.2.1.trans h.2.1, k.2.2.trans h.2.2⟩

section
variable {prog : Program} {w : World}

def T (prog : Program) (w : World) {α : Type} (c : Cx) (t : Sem α) (Q : α → G → (Str → Option Value) → Mem → Prop) (g : G) (ρ : Str → Option Value) (M : Mem) : Prop :=
  ∀ s, Act w.params c g ρ M s.heap → wpAny (model prog w) c.A t (fun r s' => ∃ g' ρ' M', Act w.params c g' ρ' M' s'.heap ∧ Rest s s' ∧ Le g g' ∧ Q r g' ρ' M') (fun _ _ => False) s

variable {α β : Type} {c : Cx} {g : G} {ρ : Str → Option Value} {M : Mem} {K : Frag} {n : Nat}

theorem T.mono {t : Sem α} {Q Q' : α → G → (Str → Option Value) → Mem → Prop} (h : T prog w c t Q g ρ M) (k : ∀ r g ρ M, Q r g ρ M → Q' r g ρ M) : T prog w c t Q' g ρ M :=
  fun s hA => wpAny_mono (h s hA) (fun _ _ ⟨g', ρ', M', a, b, l, q⟩ => ⟨g', ρ', M', a, b, l, k _ _ _ _ q⟩) fun _ _ e => e
theorem T.bind {m : Sem α} {f : α → Sem β} {Q : β → G → (Str → Option Value) → Mem → Prop} (h : T prog w c m (fun a g ρ M => T prog w c (f a) Q g ρ M) g ρ M) : T prog w c (m >>= f) Q g ρ M :=
  fun s hA => wpAny_bind (wpAny_mono (h s hA) (fun _ _ ⟨_, _, _, a, b, l, q⟩ => wpAny_mono (q _ a) (fun _ _ ⟨g', ρ', M', a', b', l', q'⟩ => ⟨g', ρ', M', a', b.trans b', l.trans l', q'⟩) fun _ _ e => e) fun _ _ e => e)
theorem T.pure {a : α} {Q : α → G → (Str → Option Value) → Mem → Prop} (h : Q a g ρ M) : T prog w c (pure a) Q g ρ M := fun s hA => wpAny_pure ⟨g, ρ, M, hA, .refl s, .refl g, h⟩
theorem T.standAt {pos : Pos} {Q : Unit → G → (Str → Option Value) → Mem → Prop} (h : Q () g ρ M) : T prog w c (standAt pos) Q g ρ M := fun s hA => wpAny_standAt ⟨g, ρ, M, hA, .refl s, .refl g, h⟩
theorem T.point {Q : Unit → G → (Str → Option Value) → Mem → Prop} (h : Q () g ρ M) : T prog w c point Q g ρ M := fun s hA => wpAny_point ⟨g, ρ, M, hA, .refl s, .refl g, h⟩
theorem T.rule {tag : String} {Q : Unit → G → (Str → Option Value) → Mem → Prop} (h : Q () g ρ M) : T prog w c (PySem.rule tag) Q g ρ M := fun s hA => wpAny_rule ⟨g, ρ, M, hA, .refl s, .refl g, h⟩
theorem T.holding {vs : List Value} {m : Sem α} {Q : α → G → (Str → Option Value) → Mem → Prop} (h : T prog w c m Q g ρ M) : T prog w c (holding vs m) Q g ρ M := fun s hA => wpAny_holding (h s hA)
theorem T.operate {vs : List Value} {m : Sem Value} {Q : Value → G → (Str → Option Value) → Mem → Prop} (h : T prog w c m Q g ρ M) : T prog w c (operate vs m) Q g ρ M := fun s hA Γ p hΓ => by
  rw [Sem.wp_operate]; exact h s hA Γ p hΓ
theorem T.release {vs ks : List Value} {Q : Unit → G → (Str → Option Value) → Mem → Prop} (h : Q () g ρ M) : T prog w c (release vs ks) Q g ρ M := fun s hA Γ p hΓ => by
  rw [Sem.wp_release]; exact ⟨g, ρ, M, hA, .refl s, .refl g, h⟩
theorem T.letTemp {b : Expr} {o r : Value} {Q : Unit → G → (Str → Option Value) → Mem → Prop} (h : Q () g ρ M) : T prog w c (letTemporaryGo b o r) Q g ρ M := fun s hA => wpAny_letTemporaryGo ⟨g, ρ, M, hA, .refl s, .refl g, h⟩
theorem T.looks {t : Sem α} {r : α} {Q : α → G → (Str → Option Value) → Mem → Prop} (l : ∀ h, Act w.params c g ρ M h → Looks (model prog w) h t r) (h : Q r g ρ M) : T prog w c t Q g ρ M :=
  fun s hA => (l _ hA).here ⟨g, ρ, M, hA, .refl s, .refl g, h⟩
theorem T.of_eq {t t' : Sem α} {Q : α → G → (Str → Option Value) → Mem → Prop} (e : t = t') (h : T prog w c t' Q g ρ M) : T prog w c t Q g ρ M := e ▸ h
/-- a step that leaves the heap as it is -/
theorem T.tok {t : Sem α} {Q : α → G → (Str → Option Value) → Mem → Prop}
    (h : ∀ s, Act w.params c g ρ M s.heap → ∀ R : α → Shared → Prop, (∀ r tk, Q r g ρ M → R r { s with toks := tk }) → wpAny (model prog w) c.A t R (fun _ _ => False) s) : T prog w c t Q g ρ M :=
  fun s hA => h s hA _ fun _ _ q => ⟨g, ρ, M, hA, ⟨rfl, rfl, rfl⟩, .refl g, q⟩

theorem Act.wd (A : Act w.params c g ρ M h) (O : c.Ok K n) : Wd K h := O.wd.ext A.keep

theorem T.local {x : Str} {pos : Pos} {v : Value} {Q : Value → G → (Str → Option Value) → Mem → Prop} (O : c.Ok K n) (hl : c.env.kindOf x = some .local) (hv : ρ x = some v) (h : Q v g ρ M)
    (hd : (x == ("__debug__" : Str)) = false) : T prog w c (eval (.Name x pos) c.env) Q g ρ M := fun s hA => by
  obtain ⟨m, hm, e⟩ := hA.ns
  exact wpAny_Name (wpAny_loadName_local O.kind hl hm ((e x hl).trans hv) ⟨g, ρ, M, hA, .refl s, .refl g, h⟩) hd
theorem T.cell {x : Str} {pos : Pos} {v : Value} {Q : Value → G → (Str → Option Value) → Mem → Prop} (O : c.Ok K n) (hl : c.env.kindOf x = some .cell) (hv : ρ x = some v) (h : Q v g ρ M)
    (hd : (x == ("__debug__" : Str)) = false) : T prog w c (eval (.Name x pos) c.env) Q g ρ M := fun s hA =>
  let ⟨a, hc⟩ := O.cellOf x hl
  wpAny_Name (wpAny_loadName_cell O.kind hl hc (hv ▸ hA.cell x a hc) ⟨g, ρ, M, hA, .refl s, .refl g, h⟩) hd
theorem T.free {x : Str} {pos : Pos} {v : Value} {Q : Value → G → (Str → Option Value) → Mem → Prop} (O : c.Ok K n) (hl : c.env.kindOf x = some .free) (hv : ρ x = some v) (h : Q v g ρ M)
    (hd : (x == ("__debug__" : Str)) = false) (hn : (x == ("__classdict__" : Str)) = false) : T prog w c (eval (.Name x pos) c.env) Q g ρ M := fun s hA =>
  let ⟨a, hc⟩ := O.freeOf x hl
  wpAny_Name (wpAny_loadName_free O.kind hl hc (hv ▸ hA.cell x a hc) ⟨g, ρ, M, hA, .refl s, .refl g, h⟩ hn) hd
theorem T.global {x : Str} {pos : Pos} {v : Value} {Q : Value → G → (Str → Option Value) → Mem → Prop} (O : c.Ok K n) (hl : c.env.kindOf x = some .globalImplicit) (e : nsIn K mainGlobals x = some (some v)) (h : Q v g ρ M)
    (hd : (x == ("__debug__" : Str)) = false) : T prog w c (eval (.Name x pos) c.env) Q g ρ M := fun s hA => by
  obtain ⟨mg, hg⟩ := (hA.wd O).g
  exact Name_function_global O.kind hl (loadGlobal_global (env := c.env) (by rw [O.globals]; exact hg) (mg_of (hA.wd O).X hg e) ⟨g, ρ, M, hA, .refl s, .refl g, h⟩) hd
theorem T.builtin {x : Str} {pos : Pos} {v : Value} {Q : Value → G → (Str → Option Value) → Mem → Prop} (O : c.Ok K n) (hl : c.env.kindOf x = some .globalImplicit) (e : nsIn K mainGlobals x = some none) (hv : bootBuiltins x = some v) (hn : x ≠ "__name__") (h : Q v g ρ M)
    (hd : (x == ("__debug__" : Str)) = false) : T prog w c (eval (.Name x pos) c.env) Q g ρ M := fun s hA => by
  obtain ⟨mg, hg⟩ := (hA.wd O).g
  obtain ⟨mb, hb, hbb⟩ := (hA.wd O).b
  exact Name_function_global O.kind hl (loadGlobal_builtin (env := c.env) (by rw [O.globals]; exact hg) (mg_none_of (hA.wd O).X hg e) (by rw [O.builtins]; exact hb) ((hbb x hn).trans hv) ⟨g, ρ, M, hA, .refl s, .refl g, h⟩) hd

def put (ρ : Str → Option Value) (x : Str) (v : Value) : Str → Option Value := fun y => if y = x then some v else ρ y

theorem Act.sameBut {h h' : Heap} {a : Addr} (A : Act P c g ρ M h) (hs : Heap.SameBut a h h') (ha : a ∈ c.own) (hl : ∃ o, h'.get? a = some o) : Ext c.h₀ h' ∧ Sub P g h' ∧ (∀ p ∈ M, ∃ o, h'.get? p.1 = some o ∧ p.2.rep P o) ∧ ∀ a ∈ c.own, ∃ o, h'.get? a = some o := by
  have hf := A.fresh a (List.mem_append_left _ ha)
  refine ⟨fun b o e => (hs.2 b fun q => ?_).trans (A.keep b o e), fun b m e => ?_, fun p hp => ?_, fun b hb => ?_⟩
  · rw [q, hf.1] at e; cases e
  · obtain ⟨o, ho, hr⟩ := A.know b m e
    exact ⟨o, (hs.2 b fun q => by rw [q, hf.2] at e; cases e).trans ho, hr⟩
  · obtain ⟨o, ho, hr⟩ := A.mem p hp
    refine ⟨o, (hs.2 p.1 fun q => ?_).trans ho, hr⟩
    exact (List.nodup_append.mp A.nodup).2.2 a ha p.1 (List.mem_map_of_mem hp) q.symm
  · by_cases q : b = a
    · exact q ▸ hl
    · obtain ⟨o, ho⟩ := A.live b hb
      exact ⟨o, (hs.2 b q).trans ho⟩

theorem T.stLocal {x : Str} {v : Value} {Q : Unit → G → (Str → Option Value) → Mem → Prop} (O : c.Ok K n) (hl : c.env.kindOf x = some .local) (h : Q () g (put ρ x v) M) :
    T prog w c (storeName c.env x v) Q g ρ M := fun s hA => by
  obtain ⟨m, hm, e⟩ := hA.ns
  refine wpAny_storeName_local hl hm (fun h' hn hs => ?_) (by rw [O.kind]; rfl)
  obtain ⟨k1, k2, k3, k4⟩ := hA.sameBut hs O.loc (let ⟨o, _, _, ho, _⟩ := hn; ⟨o, ho⟩)
  refine ⟨g, put ρ x v, M, ⟨k1, k2, hA.old, ⟨_, hn, fun y hy => ?_⟩, fun y a hc => ?_, k3, hA.fresh, hA.nodup, k4⟩, ⟨rfl, rfl, rfl⟩, .refl g, h⟩
  · by_cases q : y = x
    · simp [put, q]
    · simp only [put, if_neg q]; exact e y hy
  · have q : y ≠ x := fun q => by rw [q, O.locOf x hl] at hc; cases hc
    have := (hA.cell y a hc).sameBut hs (O.cells y a hc).1
    simpa only [put, if_neg q] using this
theorem T.stCell {x : Str} {v : Value} {Q : Unit → G → (Str → Option Value) → Mem → Prop} (O : c.Ok K n) (W : c.Own) (hl : c.env.kindOf x = some .cell) (h : Q () g (put ρ x v) M) :
    T prog w c (storeName c.env x v) Q g ρ M := fun s hA => by
  obtain ⟨a, hc⟩ := O.cellOf x hl
  have ho := W x a hc
  refine wpAny_storeName_cell O.kind hl hc (hA.cell x a hc) (fun h' hv hs => ?_)
  obtain ⟨k1, k2, k3, k4⟩ := hA.sameBut hs ho (let ⟨o, ho, _⟩ := hv; ⟨o, ho⟩)
  obtain ⟨m, hm, e⟩ := hA.ns
  refine ⟨g, put ρ x v, M, ⟨k1, k2, hA.old, ⟨m, hm.sameBut hs (Ne.symm (O.cells x a hc).1), fun y hy => ?_⟩, fun y b hb => ?_, k3, hA.fresh, hA.nodup, k4⟩, ⟨rfl, rfl, rfl⟩, .refl g, h⟩
  · have q : y ≠ x := fun q => by rw [q, hl] at hy; cases hy
    simp only [put, if_neg q]; exact e y hy
  · by_cases q : y = x
    · subst q; rw [hc] at hb; cases hb; simpa [put] using hv
    · have := (hA.cell y b hb).sameBut hs ((O.cells x a hc).2 y b hb q)
      simpa only [put, if_neg q] using this

/-- a tree that keeps all that stands; it may make new objects -/
def Pu (prog : Program) (w : World) (K : Frag) (n : Nat) {α : Type} (t : Sem α) (Q : α → G → Prop) (g : G) : Prop :=
  ∀ A s, Room A n → Wd K s.heap → Sub w.params g s.heap → wpAny (model prog w) A t (fun r s' => Ext s.heap s'.heap ∧ Rest s s' ∧
    ∃ g', Le g g' ∧ Sub w.params g' s'.heap ∧ (∀ a m, g' a = some m → g a = some m ∨ s.heap.get? a = none) ∧ Q r g') (fun _ _ => False) s

theorem Pu.mono {t : Sem α} {Q Q' : α → G → Prop} {m : Nat} (h : Pu prog w K n t Q g) (hm : n ≤ m) (k : ∀ r g', Le g g' → Q r g' → Q' r g') : Pu prog w K m t Q' g :=
  fun A s r wd sb => wpAny_mono (h A s (r.le hm) wd sb) (fun _ _ ⟨a, b, g', c, d, e, q⟩ => ⟨a, b, g', c, d, e, k _ _ c q⟩) fun _ _ e => e

theorem T.pu {t : Sem α} {Q' : α → G → Prop} {Q : α → G → (Str → Option Value) → Mem → Prop} {m : Nat} (O : c.Ok K n) (hp : Pu prog w K m t Q' g) (hm : m ≤ n) (h : ∀ r g', Le g g' → Q' r g' → Q r g' ρ M) : T prog w c t Q g ρ M := fun s hA => by
  refine wpAny_mono (hp c.A s (O.room.le hm) (hA.wd O) hA.know) (fun r s' ⟨x, rs, g', l, sb, nw, q⟩ => ?_) fun _ _ e => e
  refine ⟨g', ρ, M, ⟨hA.keep.trans x, sb, fun a m e => ?_, ?_, fun y a e => (hA.cell y a e).keeps x, fun p hp => ?_, fun a ha => ⟨(hA.fresh a ha).1, ?_⟩, hA.nodup, fun a ha => ?_⟩, rs, l, h r g' l q⟩
  · rcases nw a m e with e | e
    · exact hA.old a m e
    · right
      cases q : c.h₀.get? a with
      | none => rfl
      | some o => rw [hA.keep a o q] at e; cases e
  · obtain ⟨m, hm, e⟩ := hA.ns
    exact ⟨m, hm.keeps x, e⟩
  · obtain ⟨o, ho, hr⟩ := hA.mem p hp
    exact ⟨o, x _ _ ho, hr⟩
  · cases q : g' a with
    | none => rfl
    | some m =>
      rcases nw a m q with e | e
      · rw [(hA.fresh a ha).2] at e; cases e
      · exfalso
        rcases List.mem_append.mp ha with ha | ha
        · obtain ⟨o, ho⟩ := hA.live a ha
          rw [ho] at e; cases e
        · obtain ⟨p, hp, rfl⟩ := List.mem_map.mp ha
          obtain ⟨o, ho, _⟩ := hA.mem p hp
          rw [ho] at e; cases e
  · obtain ⟨o, ho⟩ := hA.live a ha
    exact ⟨o, x _ _ ho⟩

def ofBinds (binds : List (Str × Value)) : Str → Option Value := binds.foldl (fun ρ p => put ρ p.1 p.2) (fun _ => none)

theorem bindL_is (kindOf : Str → Option NameKind) : ∀ (binds : List (Str × Value)) (m ρ : Str → Option Value), (∀ x, kindOf x = some .local → m x = ρ x) → ∀ x, kindOf x = some .local → bindL kindOf binds m x = binds.foldl (fun ρ p => put ρ p.1 p.2) ρ x
  | [], _, _, h, x, hx => h x hx
  | (y, v) :: r, m, ρ, h, x, hx => by
    unfold bindL
    refine bindL_is kindOf r _ (put ρ y v) (fun z hz => ?_) x hx
    by_cases hy : kindOf y = some .local
    · rw [if_pos hy]
      by_cases q : z = y <;> simp [put, q, h z hz]
    · rw [if_neg hy]
      have q : z ≠ y := fun q => hy (q ▸ hz)
      simp [put, q, h z hz]
theorem bindC_is (kindOf : Str → Option NameKind) : ∀ (binds : List (Str × Value)) (m ρ : Str → Option Value), (∀ x, kindOf x ≠ some .local → m x = ρ x) → ∀ x, kindOf x ≠ some .local → bindC kindOf binds m x = binds.foldl (fun ρ p => put ρ p.1 p.2) ρ x
  | [], _, _, h, x, hx => h x hx
  | (y, v) :: r, m, ρ, h, x, hx => by
    unfold bindC
    refine bindC_is kindOf r _ (put ρ y v) (fun z hz => ?_) x hx
    by_cases hy : kindOf y = some .local
    · rw [if_pos hy]
      have q : z ≠ y := fun q => hz (q ▸ hy)
      simp [put, q, h z hz]
    · rw [if_neg hy]
      by_cases q : z = y <;> simp [put, q, h z hz]

theorem cellsFrom_none {x : Str} : ∀ (names : List (Str × NameKind)) (n : Nat) (acc : List (Str × Addr)), (∀ k, (x, k) ∈ names → k ≠ .cell) → (cellsFrom n names acc).lookup x = acc.lookup x
  | [], _, _, _ => rfl
  | (y, k) :: r, n, acc, h => by
    unfold cellsFrom
    by_cases hk : (k == .cell) = true
    · rw [if_pos hk, cellsFrom_none r _ _ fun k' hk' => h k' (.tail _ hk'), List.lookup_cons]
      have : (x == y) = false := by
        cases q : x == y with
        | false => rfl
        | true => exact absurd (by simpa using hk) (h k (by rw [beq_iff_eq.mp q]; exact .head _))
      rw [this]
    · rw [if_neg hk]
      exact cellsFrom_none r _ _ fun k' hk' => h k' (.tail _ hk')

theorem ndCellsA : ∀ (names : List (Str × NameKind)) (n : Nat) (acc : List (Str × Addr)), (names.map (·.1)).Nodup → (acc.map (·.1)).Nodup → (∀ x ∈ names.map (·.1), x ∉ acc.map (·.1)) → ((cellsFrom n names acc).map (·.1)).Nodup
  | [], _, _, _, h, _ => h
  | (y, k) :: r, n, acc, hn, ha, hd => by
    have hn' := List.nodup_cons.mp hn
    unfold cellsFrom
    split
    · refine ndCellsA r _ _ hn'.2 (List.nodup_cons.mpr ⟨hd y (.head _), ha⟩) fun x hx hm => ?_
      rcases List.mem_cons.mp hm with e | hm
      · exact hn'.1 (e ▸ hx)
      · exact hd x (.tail _ hx) hm
    · exact ndCellsA r _ _ hn'.2 ha fun x hx => hd x (.tail _ hx)
theorem ndCells {names : List (Str × NameKind)} (h : (names.map (·.1)).Nodup) (n : Nat) : ((cellsFrom n names []).map (·.1)).Nodup := ndCellsA names n [] h List.nodup_nil fun _ _ h => nomatch h

theorem kind_mem {x : Str} {k : NameKind} : ∀ {names : List (Str × NameKind)}, (names.map (·.1)).Nodup → (x, k) ∈ names → names.lookup x = some k
  | (y, k') :: r, hn, h => by
    rw [List.lookup_cons]
    rcases List.mem_cons.mp h with e | h
    · cases e; simp
    · have hn' := List.nodup_cons.mp hn
      have : (x == y) = false := by
        cases q : x == y with
        | false => rfl
        | true => exact absurd (List.mem_map_of_mem (f := (·.1)) h) (by rw [← beq_iff_eq.mp q] at hn'; exact hn'.1)
      rw [this]
      exact kind_mem hn'.2 h

structure DefOk (K : Frag) (fd : FuncData) : Prop where
  co : fd.scope.isCoroutine = false
  gen : fd.scope.isGenerator = false
  kind : fd.scope.kind = .function
  clo : fd.closure = []
  glob : fd.globals = mainGlobals
  blt : fd.builtins = builtinsNs
  code : codeIn K fd.code fd.qualname = true
  names : (fd.scope.names.map (·.1)).Nodup
  nofree : (fd.scope.names.all fun p => decide (p.2 ≠ .free)) = true

def retOf : Flow → Value | .ret v => v | _ => .none

structure Out (P : Params) (h₀ : Heap) (ge g g' : G) (M' : Mem) (s s' : Shared) : Prop where
  ext : Ext h₀ s'.heap
  rest : Rest s s'
  le : Le g g'
  know : Sub P g' s'.heap
  old : ∀ a m, g' a = some m → ge a = some m ∨ h₀.get? a = none
  mem : ∀ p ∈ M', ∃ o, s'.heap.get? p.1 = some o ∧ p.2.rep P o
  fresh : ∀ a ∈ M'.map (·.1), h₀.get? a = none ∧ g' a = none
  nodup : (M'.map (·.1)).Nodup

/-- a def of the text's is entered; M₀: what the caller's mutable objects are that it may turn -/
theorem enter {f : Addr} {fd : FuncData} {body : List Stmt} {oc : Value} {od : Option Addr} {osl : Array (Option Value)} {args : List Value} {kw : List (Str × Value)} {binds : List (Str × Value)} {R : Value → G → Mem → Prop}
    {A : Around} {s : Shared} {h₀ : Heap} {ge : G} {M₀ : Mem} (r : Room A (n + 1)) (wd : Wd K h₀) (keep₀ : Ext h₀ s.heap) (sb : Sub w.params g s.heap) (old : ∀ a m, g a = some m → ge a = some m ∨ h₀.get? a = none)
    (mem : ∀ p ∈ M₀, ∃ o, s.heap.get? p.1 = some o ∧ p.2.rep w.params o) (fresh : ∀ a ∈ M₀.map (·.1), h₀.get? a = none ∧ g a = none) (nodup : (M₀.map (·.1)).Nodup)
    (hK : K.lookup f = some ⟨oc, od, .func fd, osl⟩) (D : DefOk K fd) (hb : fd.body = .stmts body) (hbind : BindsTo s fd ⟨args, kw⟩ binds)
    (hkind : (binds.all fun y => fd.scope.names.lookup y.1 == some .local || fd.scope.names.lookup y.1 == some .cell) = true)
    (h : ∀ c : Cx, c.Ok K n → c.Own → c.env.scope.names = fd.scope.names → c.ge = ge → c.h₀ = h₀ → T prog w c (execs body c.env) (fun fl g' _ M' => R (retOf fl) g' M') g (ofBinds binds) M₀) :
    codeAny (model prog w) A (.call (.ref f) ⟨args, kw⟩) (fun r s' => ∃ v g' M', r = .ok (.ret v) ∧ Out w.params h₀ ge g g' M' s s' ∧ R v g' M') s := by
  have X₁ : K.In s.heap := wd.X.keeps keep₀
  refine codeAny_call_function (by have := r.depth; omega) (X₁ _ _ hK) rfl D.co D.gen hb (codeRec_of X₁ D.code) (hbind _ _ _ _ ?_)
  rw [D.clo]
  have kd := kindsX hkind (s.heap.objs.size + 1)
  refine wpAny_newFunctionEnv_cells D.kind kd fun env he s' X => ?_
  have hS : env.scope = fd.scope := by rw [he]; rfl
  have hLo : env.locals = s.heap.objs.size := by rw [he]; rfl
  have hCe : env.cells = cellsFrom (s.heap.objs.size + 1) fd.scope.names [] := by rw [he]; rfl
  have hkd : ∀ x, env.kindOf x = fd.scope.names.lookup x := fun x => by rw [Env.kindOf, hS]
  have hcellk : ∀ x a, env.cells.lookup x = some a → env.kindOf x = some .cell := fun x a e => by
    cases q : env.kindOf x with
    | none =>
      exfalso
      rw [hCe, cellsFrom_none] at e
      · cases e
      · intro k hk _
        have := kind_mem D.names hk
        rw [← hkd, q] at this; cases this
    | some k =>
      by_cases hk : k = .cell
      · rw [hk]
      · exfalso
        rw [hCe, cellsFrom_none] at e
        · cases e
        · intro k' hk'
          have := kind_mem D.names hk'
          rw [← hkd, q] at this; cases this; exact hk
  have own_mem : ∀ x a, env.cells.lookup x = some a → a ∈ env.locals :: env.cells.map (·.2) := fun x a e => .tail _ (List.mem_map_of_mem (f := (·.2)) (mem_of_lookup e))
  have keep := X.toInCall.keep
  let c : Cx := ⟨A.deeper env, env, env.locals :: env.cells.map (·.2), h₀, ge⟩
  have O : c.Ok K n := {
    room := r.deeper env
    wd := wd
    kind := by show env.scope.kind = _; rw [hS]; exact D.kind
    globals := by show env.globals = _; rw [he]; exact D.glob
    builtins := by show env.builtins = _; rw [he]; exact D.blt
    loc := .head _
    cells := fun x a e => ⟨fun q => absurd (X.above x a (mem_of_lookup e)) (by rw [q]; exact Nat.lt_irrefl _), fun y b e' hy q => hy (name_of_addr X.apart (q ▸ mem_of_lookup e') (mem_of_lookup e))⟩
    cellOf := fun x e => by
      have e' : fd.scope.names.lookup x = some .cell := (hkd x).symm.trans e
      have := cellsFrom_some fd.scope.names (s.heap.objs.size + 1) [] (x := x) (.inl e')
      obtain ⟨a, ha⟩ := Option.isSome_iff_exists.mp this
      have ha' : env.cells.lookup x = some a := by rw [hCe]; exact ha
      exact ⟨a, ha'⟩
    freeOf := fun x e => by
      have e' : fd.scope.names.lookup x = some .free := (hkd x).symm.trans e
      have := List.all_eq_true.mp D.nofree _ (mem_of_lookup e')
      simp at this
    locOf := fun x e => by
      cases q : env.cells.lookup x with
      | none => rfl
      | some a => have := hcellk x a q; rw [this] at e; cases e
    cellIn := fun x a e => .inl (own_mem x a e) }
  obtain ⟨h₁, tk, rfl, _⟩ := X.done
  have ownge : ∀ a ∈ env.locals :: env.cells.map (·.2), s.heap.objs.size ≤ a := fun a ha => by
    rcases List.mem_cons.mp ha with e | ha
    · rw [e, hLo]; exact Nat.le_refl _
    · obtain ⟨p, hp, rfl⟩ := List.mem_map.mp ha
      have := X.above p.1 p.2 hp
      rw [hLo] at this; exact Nat.le_of_lt this
  have ownn : ∀ a ∈ env.locals :: env.cells.map (·.2), s.heap.get? a = none := fun a ha => by
    cases q : s.heap.get? a with
    | none => rfl
    | some o => exact absurd (Heap.lt_size q) (Nat.not_lt.mpr (ownge a ha))
  have hA : Act w.params c g (ofBinds binds) M₀ h₁ := {
    keep := fun a o e => keep a o (keep₀ a o e)
    know := sb.ext keep
    old := old
    ns := ⟨_, X.toInCall.ns, fun x hx => bindL_is _ _ _ _ (fun _ _ => rfl) x hx⟩
    cell := fun x a e => by
      have := X.cell x a e
      rw [bindC_is _ _ _ _ (fun _ _ => rfl) x (by rw [hcellk x a e]; decide)] at this
      exact this
    mem := fun p hp => let ⟨o, ho, hr⟩ := mem p hp; ⟨o, keep _ _ ho, hr⟩
    fresh := fun a ha => by
      rcases List.mem_append.mp ha with ha | ha
      · have hn := ownn a ha
        refine ⟨?_, ?_⟩
        · cases q : h₀.get? a with
          | none => rfl
          | some o => have := keep₀ a o q; rw [hn] at this; cases this
        · cases q : g a with
          | none => rfl
          | some m => obtain ⟨o, ho, _⟩ := sb a m q; rw [hn] at ho; cases ho
      · exact fresh a ha
    nodup := by
      refine List.nodup_append.mpr ⟨?_, nodup, fun a ha b hb q => ?_⟩
      · refine List.nodup_cons.mpr ⟨fun ha => ?_, ?_⟩
        · obtain ⟨p, hp, e⟩ := List.mem_map.mp ha
          have := X.above p.1 p.2 hp
          rw [e] at this; exact Nat.lt_irrefl _ this
        · exact List.pairwise_map.mpr X.apart
      · obtain ⟨p, hp, rfl⟩ := List.mem_map.mp hb
        obtain ⟨o, ho, _⟩ := mem p hp
        have := ownn a ha
        rw [q, ho] at this; cases this
    live := fun a ha => by
      rcases List.mem_cons.mp ha with e | ha
      · obtain ⟨o, _, _, ho, _⟩ := X.toInCall.ns
        exact ⟨o, e ▸ ho⟩
      · obtain ⟨p, hp, rfl⟩ := List.mem_map.mp ha
        have hnd : (env.cells.map (·.1)).Nodup := by rw [hCe]; exact ndCells D.names _
        obtain ⟨o, ho, _⟩ := X.cell p.1 p.2 (lookup_of_mem_nodup hnd hp)
        exact ⟨o, ho⟩ }
  refine ⟨(wd.nolimit.keeps keep₀).keeps keep, codeAny_func (wpAny_mono (h c O own_mem (congrArg Scope.names hS) rfl rfl _ hA) (fun fl s' ⟨g', _, M', a, b, l, q⟩ => ?_) fun _ _ e => e.elim)⟩
  have a1 : Act w.params c g' _ M' s'.heap := a
  have out : Out w.params h₀ ge g g' M' s s' := ⟨a1.keep, b, l, a1.know, a1.old, a1.mem, fun x hx => a1.fresh x (List.mem_append_right _ hx), (List.nodup_append.mp a1.nodup).2.1⟩
  cases fl <;> exact ⟨_, g', M', rfl, out, q⟩

theorem Fn.def {f : Addr} {fd : FuncData} {body : List Stmt} {oc : Value} {od : Option Addr} {osl : Array (Option Value)} {args : List Value} {kw : List (Str × Value)} {binds : List (Str × Value)} {Q : Value → G → Prop}
    (hK : K.lookup f = some ⟨oc, od, .func fd, osl⟩) (D : DefOk K fd) (hb : fd.body = .stmts body) (hbind : ∀ s, K.In s.heap → BindsTo s fd ⟨args, kw⟩ binds)
    (hkind : (binds.all fun y => fd.scope.names.lookup y.1 == some .local || fd.scope.names.lookup y.1 == some .cell) = true)
    (h : ∀ c : Cx, c.Ok K n → c.Own → c.env.scope.names = fd.scope.names → T prog w c (execs body c.env) (fun fl g' _ _ => Q (retOf fl) g') g (ofBinds binds) []) :
    Pu prog w K (n + 1) (call (.ref f) args kw) Q g := fun A s r wd sb => by
  refine wpAny_call (codeAny_mono (enter (R := fun v g' _ => Q v g') (ge := g) (h₀ := s.heap) (M₀ := []) r wd (Ext.refl _) sb (fun a m e => .inl e) (fun _ hp => nomatch hp) (fun _ hp => nomatch hp) List.nodup_nil hK D hb (hbind s wd.X) hkind fun c O W e _ _ => h c O W e) fun r s' hr => ?_)
  obtain ⟨v, g', M', rfl, o, q⟩ := hr
  exact ⟨o.ext, o.rest, g', o.le, o.know, o.old, q⟩
end
end Mine

namespace Mine

section
variable {prog : Program} {w : World} {α β : Type} {c : Cx} {g : G} {ρ : Str → Option Value} {M : Mem} {K : Frag} {n : Nat} {pos apos : Pos}

theorem put_self {ρ : Str → Option Value} {x : Str} {v : Value} : put ρ x v x = some v := if_pos rfl
theorem put_ne {ρ : Str → Option Value} {x y : Str} {v u : Value} (h : (y == x) = false) (e : ρ y = some u) : put ρ x v y = some u := by
  unfold put; rw [if_neg (by intro q; subst q; simp at h)]; exact e
def IfK (b : Bool) (X Y : Prop) : Prop := (b = true → X) ∧ (b = false → Y)
theorem IfK.t {X Y : Prop} (h : X) : IfK true X Y := ⟨fun _ => h, fun e => Bool.noConfusion e⟩
theorem IfK.f {X Y : Prop} (h : Y) : IfK false X Y := ⟨fun e => Bool.noConfusion e, fun _ => h⟩
theorem IfK.split {b : Bool} {X Y : Prop} (h : b = true → X) (k : b = false → Y) : IfK b X Y := ⟨h, k⟩
def ExecK (prog : Program) (w : World) (c : Cx) (rest : List Stmt) (Q : Flow → G → (Str → Option Value) → Mem → Prop) (f : Flow) (g : G) (ρ : Str → Option Value) (M : Mem) : Prop := match f with
  | .next => T prog w c (execs rest c.env) Q g ρ M
  | f => Q f g ρ M
abbrev Post (α : Type) := α → G → (Str → Option Value) → Mem → Prop

def isVar : NameKind → Bool | .local => true | .cell => true | .free => true | _ => false
def plainName (x : Str) : Bool := !(x == ("__debug__" : Str)) && !(x == ("__classdict__" : Str)) && !(x == ("__name__" : Str))
theorem T.var {l : List (Str × NameKind)} {x : Str} {v : Value} {Q : Post Value} (O : c.Ok K n) (hl : c.env.scope.names = l) (hk : (l.lookup x).any isVar = true) (hx : plainName x = true) (hv : ρ x = some v) (h : Q v g ρ M) : T prog w c (eval (.Name x pos) c.env) Q g ρ M := by
  unfold plainName at hx
  simp only [Bool.and_eq_true, Bool.not_eq_true'] at hx
  have hk' : (c.env.kindOf x).any isVar = true := by rw [Env.kindOf, hl]; exact hk
  cases q : c.env.kindOf x with
  | none => rw [q] at hk'; cases hk'
  | some k =>
    cases k with
    | «local» => exact T.local O q hv h hx.1.1
    | cell => exact T.cell O q hv h hx.1.1
    | free => exact T.free O q hv h hx.1.1 hx.1.2
    | _ => rw [q] at hk'; cases hk'
theorem T.glob {l : List (Str × NameKind)} {x : Str} {v : Value} {Q : Post Value} (O : c.Ok K n) (hl : c.env.scope.names = l) (e : nsIn K mainGlobals x = some (some v)) (hk : (l.lookup x == some .globalImplicit) = true) (hx : plainName x = true) (h : Q v g ρ M) : T prog w c (eval (.Name x pos) c.env) Q g ρ M := by
  unfold plainName at hx
  simp only [Bool.and_eq_true, Bool.not_eq_true'] at hx
  exact T.global O (kind_of hl (by simpa using hk)) e h hx.1.1
theorem T.bltn {l : List (Str × NameKind)} {x : Str} {v : Value} {Q : Post Value} (O : c.Ok K n) (hl : c.env.scope.names = l) (e : nsIn K mainGlobals x = some none) (hv : bootBuiltins x = some v) (hk : (l.lookup x == some .globalImplicit) = true) (hx : plainName x = true) (h : Q v g ρ M) : T prog w c (eval (.Name x pos) c.env) Q g ρ M := by
  unfold plainName at hx
  simp only [Bool.and_eq_true, Bool.not_eq_true'] at hx
  exact T.builtin O (kind_of hl (by simpa using hk)) e hv (by intro q; rw [q] at hx; simp at hx) h hx.1.1
theorem T.stVar {l : List (Str × NameKind)} {x : Str} {v : Value} {Q : Post Unit} (O : c.Ok K n) (W : c.Own) (hl : c.env.scope.names = l) (hk : (l.lookup x == some .local || l.lookup x == some .cell) = true) (h : Q () g (put ρ x v) M) : T prog w c (storeName c.env x v) Q g ρ M := by
  rcases Bool.or_eq_true_iff.mp hk with q | q
  · exact T.stLocal O (kind_of hl (by simpa using q)) h
  · exact T.stCell O W (kind_of hl (by simpa using q)) h
theorem T.execs_nil {Q : Post Flow} (h : Q .next g ρ M) : T prog w c (execs [] c.env) Q g ρ M := T.pure h
theorem T.execs_cons {st : Stmt} {rest : List Stmt} {Q : Post Flow} (h : T prog w c (exec st c.env) (ExecK prog w c rest Q) g ρ M) :
    T prog w c (execs (st :: rest) c.env) Q g ρ M := by
  rw [PySem.execs_cons]
  refine T.bind (T.mono h fun f g ρ M q => ?_)
  cases f <;> first | exact q | exact T.pure q

theorem ExecK.next {rest : List Stmt} {Q : Post Flow} (h : T prog w c (execs rest c.env) Q g ρ M) : ExecK prog w c rest Q .next g ρ M := h
theorem ExecK.ret {rest : List Stmt} {v : Value} {Q : Post Flow} (h : Q (.ret v) g ρ M) : ExecK prog w c rest Q (.ret v) g ρ M := h
theorem ExecK.cont {rest : List Stmt} {Q : Post Flow} (h : Q .cont g ρ M) : ExecK prog w c rest Q .cont g ρ M := h
theorem T.return_ {e : Expr} {Q : Post Flow} (h : T prog w c (eval e c.env) (fun v g ρ M => Q (.ret v) g ρ M) g ρ M) : T prog w c (exec (.Return (some e) pos) c.env) Q g ρ M := by
  rw [exec_Return_some]
  exact T.bind (T.standAt (T.bind (T.mono h fun v g ρ M q => T.pure q)))
theorem T.if_ {test : Expr} {body orelse : List Stmt} {Q : Post Flow} (h : T prog w c (isTrue test c.env (eval test c.env)) (fun b g ρ M => IfK b (T prog w c (execs body c.env) Q g ρ M) (T prog w c (execs orelse c.env) Q g ρ M)) g ρ M) :
    T prog w c (exec (.If test body orelse pos) c.env) Q g ρ M := by
  rw [exec_If]
  refine T.bind (T.standAt (T.bind (T.mono h fun b g ρ M q => ?_)))
  cases b <;> first | exact q.1 rfl | exact q.2 rfl
theorem T.continue_ {Q : Post Flow} (h : Q .cont g ρ M) : T prog w c (exec (.Continue pos) c.env) Q g ρ M := T.bind (T.standAt (T.pure h))
theorem T.assert_ {test : Expr} {msg : Option Expr} {Q : Post Flow} (h : T prog w c (isTrue test c.env (eval test c.env)) (fun b g ρ M => b = true ∧ Q .next g ρ M) g ρ M) :
    T prog w c (exec (.Assert test msg pos) c.env) Q g ρ M := by
  show T prog w c (do PySem.standAt pos; if ← isTrue test c.env (eval test c.env) then Pure.pure Flow.next else assertFails test.pos (evalOpt msg c.env)) Q g ρ M
  refine T.bind (T.standAt (T.bind (T.mono h fun b g ρ M q => ?_)))
  rw [q.1]; exact T.pure q.2
/-- an expression statement: its value must be no object -/
theorem T.expr_ {e : Expr} {Q : Post Flow} (hk : c.env.scope.kind = .function) (hs : ∀ env, swapsWith e none pos.line env = Pure.pure false) (h : T prog w c (eval e c.env) (fun v g ρ M => v = .none ∧ Q .next g ρ M) g ρ M) :
    T prog w c (exec (.Expr e pos) c.env) Q g ρ M := by
  have hi : interactive c.env = false := by unfold interactive; rw [hk]; rfl
  rw [exec_Expr _ e pos hi (hs _)]
  refine T.bind (T.standAt (T.bind (T.mono h fun v g ρ M q => ?_)))
  rw [q.1, dropValue_plain (by intro a e; cases e)]
  exact T.pure q.2

theorem T.const_int {i : Int} {k : Nat} {Q : Post Value} (h : ∀ t, Q (.int i t) g ρ M) : T prog w c (eval (.Constant (.int i) k pos) c.env) Q g ρ M := fun s hA =>
  wpAny_Constant_int ⟨g, ρ, M, hA, .refl s, .refl g, h _⟩
theorem T.const_str {x : Str} {k : Nat} {Q : Post Value} (h : ∀ t, Q (.str x t) g ρ M) : T prog w c (eval (.Constant (.str x) k pos) c.env) Q g ρ M := fun s hA =>
  wpAny_Constant_str ⟨g, ρ, M, hA, .refl s, .refl g, h _⟩
theorem T.const_bool {b : Bool} {k : Nat} {Q : Post Value} (h : Q (.bool b) g ρ M) : T prog w c (eval (.Constant (.bool b) k pos) c.env) Q g ρ M := T.pure h
theorem T.const_none {k : Nat} {Q : Post Value} (h : Q .none g ρ M) : T prog w c (eval (.Constant .none k pos) c.env) Q g ρ M := T.pure h

-- truth of a tree
theorem T.isTrue_not {x : Expr} {whole : Sem Value} {Q : Post Bool} (h : T prog w c (isTrue x c.env (eval x c.env)) (fun b g ρ M => Q (!b) g ρ M) g ρ M) : T prog w c (isTrue (.UnaryOp .Not x pos) c.env whole) Q g ρ M := by
  show T prog w c (do return !(← isTrue x c.env (eval x c.env))) Q g ρ M
  exact T.bind (T.mono h fun b g ρ M q => T.pure q)
theorem T.isTrue_boolop {op : BoolOp} {es : List Expr} {whole : Sem Value} {Q : Post Bool} (h : T prog w c (allTrue op es c.env) Q g ρ M) : T prog w c (isTrue (.BoolOp op es pos) c.env whole) Q g ρ M := h
theorem T.allTrue_nil_and {Q : Post Bool} (h : Q true g ρ M) : T prog w c (allTrue .And [] c.env) Q g ρ M := T.pure h
theorem T.allTrue_nil_or {Q : Post Bool} (h : Q false g ρ M) : T prog w c (allTrue .Or [] c.env) Q g ρ M := T.pure h
theorem T.allTrue_and {x : Expr} {rest : List Expr} {Q : Post Bool} (h : T prog w c (isTrue x c.env (eval x c.env)) (fun b g ρ M => IfK b (T prog w c (allTrue .And rest c.env) Q g ρ M) (Q false g ρ M)) g ρ M) :
    T prog w c (allTrue .And (x :: rest) c.env) Q g ρ M := by
  show T prog w c (do match BoolOp.And, ← isTrue x c.env (eval x c.env) with | .And, false => Pure.pure false | .Or, true => Pure.pure true | _, _ => allTrue .And rest c.env) Q g ρ M
  refine T.bind (T.mono h fun b g ρ M q => ?_)
  cases b <;> first | exact q.1 rfl | exact q.2 rfl | exact T.pure (q.1 rfl) | exact T.pure (q.2 rfl)
theorem T.allTrue_or {x : Expr} {rest : List Expr} {Q : Post Bool} (h : T prog w c (isTrue x c.env (eval x c.env)) (fun b g ρ M => IfK b (Q true g ρ M) (T prog w c (allTrue .Or rest c.env) Q g ρ M)) g ρ M) :
    T prog w c (allTrue .Or (x :: rest) c.env) Q g ρ M := by
  show T prog w c (do match BoolOp.Or, ← isTrue x c.env (eval x c.env) with | .And, false => Pure.pure false | .Or, true => Pure.pure true | _, _ => allTrue .Or rest c.env) Q g ρ M
  refine T.bind (T.mono h fun b g ρ M q => ?_)
  cases b <;> first | exact q.1 rfl | exact q.2 rfl | exact T.pure (q.1 rfl) | exact T.pure (q.2 rfl)
theorem T.isTrue_compare {l r : Expr} {op : CmpOp} {whole : Sem Value} {Q : Post Bool} (hb : behindInMarks op r = false)
    (h : T prog w c (eval l c.env) (fun a g ρ M => T prog w c (eval r c.env) (fun b g ρ M => T prog w c (compareOp op a b) (fun v g ρ M => T prog w c (truthy v) Q g ρ M) g ρ M) g ρ M) g ρ M) :
    T prog w c (isTrue (.Compare l [op] [r] pos) c.env whole) Q g ρ M := by
  show T prog w c (do testChain pos (← eval l c.env) [op] (markedEach [op] [r] (evalEach [r] c.env))) Q g ρ M
  refine T.bind (T.mono h fun a g ρ M q => ?_)
  show T prog w c (do let rv ← PySem.holding [a] (markedBehindIn op r (eval r c.env)); PySem.standAt pos; let x ← PySem.operate [a, rv] (compareOp op a rv); PySem.holding [x] (truthy x)) Q g ρ M
  rw [markedBehindIn_of_false hb]
  exact T.bind (T.holding (T.mono q fun b g ρ M q => T.bind (T.standAt (T.bind (T.operate (T.mono q fun v g ρ M q => T.holding q))))))
theorem T.isTrue_val {e : Expr} {whole : Sem Value} {Q : Post Bool} (he : isTrue e c.env whole = (do let v ← whole; PySem.standAt e.pos; PySem.holding [v] (truthy v)))
    (h : T prog w c whole (fun v g ρ M => T prog w c (truthy v) Q g ρ M) g ρ M) : T prog w c (isTrue e c.env whole) Q g ρ M := by
  rw [he]
  exact T.bind (T.mono h fun v g ρ M q => T.bind (T.standAt (T.holding q)))

theorem T.truthy_bool {b : Bool} {Q : Post Bool} (h : Q b g ρ M) : T prog w c (truthy (.bool b)) Q g ρ M := fun s hA => wpAny_truthy_bool ⟨g, ρ, M, hA, .refl s, .refl g, h⟩
theorem T.truthy_none {Q : Post Bool} (h : Q false g ρ M) : T prog w c (truthy .none) Q g ρ M := T.pure h

-- values
theorem T.compare {l r : Expr} {op : CmpOp} {Q : Post Value} (hb : behindInMarks op r = false)
    (h : T prog w c (eval l c.env) (fun a g ρ M => T prog w c (eval r c.env) (fun b g ρ M => T prog w c (compareOp op a b) Q g ρ M) g ρ M) g ρ M) : T prog w c (eval (.Compare l [op] [r] pos) c.env) Q g ρ M := by
  show T prog w c (do compareChain pos (← eval l c.env) [op] (markedEach [op] [r] (evalEach [r] c.env))) Q g ρ M
  refine T.bind (T.mono h fun a g ρ M q => ?_)
  show T prog w c (do let rv ← PySem.holding [a] (markedBehindIn op r (eval r c.env)); PySem.standAt pos; PySem.operate [a, rv] (compareOp op a rv)) Q g ρ M
  rw [markedBehindIn_of_false hb]
  exact T.bind (T.holding (T.mono q fun b g ρ M q => T.bind (T.standAt (T.operate q))))
theorem T.binop {l r : Expr} {op : Operator} {Q : Post Value}
    (h : T prog w c (eval l c.env) (fun a g ρ M => T prog w c (eval r c.env) (fun b g ρ M => T prog w c (binaryOp op a b) Q g ρ M) g ρ M) g ρ M) : T prog w c (eval (.BinOp l op r pos) c.env) Q g ρ M := by
  rw [eval_BinOp]
  exact T.bind (T.mono h fun a g ρ M q => T.bind (T.holding (T.mono q fun b g ρ M q => T.bind (T.standAt (T.operate q)))))
theorem T.unop {x : Expr} {op : UnaryOp} {Q : Post Value} (h : T prog w c (eval x c.env) (fun v g ρ M => T prog w c (unaryOp op v) Q g ρ M) g ρ M) : T prog w c (eval (.UnaryOp op x pos) c.env) Q g ρ M := by
  show T prog w c (do let v ← eval x c.env; PySem.standAt pos; PySem.holding [v] (unaryOp op v)) Q g ρ M
  exact T.bind (T.mono h fun v g ρ M q => T.bind (T.standAt (T.holding q)))
theorem T.notOp {v : Value} {Q : Post Value} (h : T prog w c (truthy v) (fun b g ρ M => Q (.bool (!b)) g ρ M) g ρ M) : T prog w c (unaryOp .Not v) Q g ρ M := fun s hA =>
  not_value (wpAny_mono (h s hA) (fun _ _ q => q) fun _ _ e => e)
theorem T.ifExp {test body orelse : Expr} {Q : Post Value} (h : T prog w c (isTrue test c.env (eval test c.env)) (fun b g ρ M => IfK b (T prog w c (eval body c.env) Q g ρ M) (T prog w c (eval orelse c.env) Q g ρ M)) g ρ M) :
    T prog w c (eval (.IfExp test body orelse pos) c.env) Q g ρ M := by
  show T prog w c (do if ← isTrue test c.env (eval test c.env) then eval body c.env else eval orelse c.env) Q g ρ M
  refine T.bind (T.mono h fun b g ρ M q => ?_)
  cases b <;> first | exact q.1 rfl | exact q.2 rfl
theorem T.boolOp {op : BoolOp} {es : List Expr} {Q : Post Value} (h : T prog w c (PySem.boolOp pos op (evalEach es c.env)) Q g ρ M) : T prog w c (eval (.BoolOp op es pos) c.env) Q g ρ M := h
theorem T.boolOp_one {op : BoolOp} {e : Expr} {Q : Post Value} (h : T prog w c (eval e c.env) Q g ρ M) : T prog w c (PySem.boolOp pos op (evalEach [e] c.env)) Q g ρ M := h
theorem T.boolOp_and {e f : Expr} {es : List Expr} {Q : Post Value}
    (h : T prog w c (eval e c.env) (fun v g ρ M => T prog w c (truthy v) (fun b g ρ M => IfK b (T prog w c (PySem.boolOp pos .And (evalEach (f :: es) c.env)) Q g ρ M) (Q v g ρ M)) g ρ M) g ρ M) :
    T prog w c (PySem.boolOp pos .And (evalEach (e :: f :: es) c.env)) Q g ρ M := by
  show T prog w c (do let v ← eval e c.env; PySem.standAt pos; let t ← PySem.holding [v] (truthy v); match BoolOp.And, t with | .And, false | .Or, true => Pure.pure v | _, _ => PySem.boolOp pos .And (evalEach (f :: es) c.env)) Q g ρ M
  refine T.bind (T.mono h fun v g ρ M q => T.bind (T.standAt (T.bind (T.holding (T.mono q fun b g ρ M q => ?_)))))
  cases b <;> first | exact q.1 rfl | exact q.2 rfl | exact T.pure (q.1 rfl) | exact T.pure (q.2 rfl)
theorem T.boolOp_or {e f : Expr} {es : List Expr} {Q : Post Value}
    (h : T prog w c (eval e c.env) (fun v g ρ M => T prog w c (truthy v) (fun b g ρ M => IfK b (Q v g ρ M) (T prog w c (PySem.boolOp pos .Or (evalEach (f :: es) c.env)) Q g ρ M)) g ρ M) g ρ M) :
    T prog w c (PySem.boolOp pos .Or (evalEach (e :: f :: es) c.env)) Q g ρ M := by
  show T prog w c (do let v ← eval e c.env; PySem.standAt pos; let t ← PySem.holding [v] (truthy v); match BoolOp.Or, t with | .And, false | .Or, true => Pure.pure v | _, _ => PySem.boolOp pos .Or (evalEach (f :: es) c.env)) Q g ρ M
  refine T.bind (T.mono h fun v g ρ M q => T.bind (T.standAt (T.bind (T.holding (T.mono q fun b g ρ M q => ?_)))))
  cases b <;> first | exact q.1 rfl | exact q.2 rfl | exact T.pure (q.1 rfl) | exact T.pure (q.2 rfl)

-- arguments
theorem T.items_nil {Q : Post (List Value)} (h : Q [] g ρ M) : T prog w c (spliced (backTo pos (starEach [] c.env))) Q g ρ M := T.pure h
theorem T.items_cons {e : Expr} {rest : List Expr} {Q : Post (List Value)} (he : starEach (e :: rest) c.env = (false, eval e c.env) :: starEach rest c.env)
    (h : T prog w c (eval e c.env) (fun v g ρ M => T prog w c (spliced (backTo pos (starEach rest c.env))) (fun vs g ρ M => Q (v :: vs) g ρ M) g ρ M) g ρ M) : T prog w c (spliced (backTo pos (starEach (e :: rest) c.env))) Q g ρ M := by
  rw [he]
  show T prog w c (do
    let v ← eval e c.env
    let here ← (Pure.pure [v] : Sem (List Value))
    return here ++ (← PySem.holding here (spliced (backTo pos (starEach rest c.env))))) Q g ρ M
  exact T.bind (T.mono h fun v g ρ M q => T.bind (T.pure (T.bind (T.holding (T.mono q fun vs g ρ M q => T.pure q)))))
theorem T.list {elts : List Expr} {Q : Post Value} (h : T prog w c (spliced (backTo pos (starEach elts c.env))) (fun vs g ρ M => T prog w c (newList vs) Q g ρ M) g ρ M) : T prog w c (eval (.List elts pos) c.env) Q g ρ M := by
  show T prog w c (do PySem.standAt pos; newList (← spliced (backTo pos (starEach elts c.env)))) Q g ρ M
  exact T.bind (T.standAt (T.bind h))
theorem T.tuple {elts : List Expr} {k : Nat} {Q : Post Value} (h : T prog w c (spliced (backTo pos (starEach elts c.env))) (fun vs g ρ M => T prog w c (newTuple vs) Q g ρ M) g ρ M) : T prog w c (eval (.Tuple elts k pos) c.env) Q g ρ M := by
  show T prog w c (do PySem.standAt pos; newTuple (← spliced (backTo pos (starEach elts c.env)))) Q g ρ M
  exact T.bind (T.standAt (T.bind h))

theorem T.evalArgs_nil {f : Value} {Q : Post Args} (h : Q ⟨[], []⟩ g ρ M) : T prog w c (evalArgs f true [] []) Q g ρ M := by
  unfold evalArgs
  show T prog w c (spliced [] >>= _) Q g ρ M
  refine T.bind (T.pure (T.bind (T.pure (T.holding ?_))))
  exact T.bind (T.pure (T.bind (T.pure (T.pure h))))
theorem T.evalArgs_cons {f : Value} {x : Sem Value} {rest : List (Bool × Sem Value)} {Q : Post Args} (h : T prog w c (spliced ((false, x) :: rest)) (fun vs g ρ M => Q ⟨vs, []⟩ g ρ M) g ρ M) : T prog w c (evalArgs f true ((false, x) :: rest) []) Q g ρ M := by
  unfold evalArgs
  show T prog w c (spliced ((false, x) :: rest) >>= _) Q g ρ M
  refine T.bind (T.mono h fun vs g ρ M q => T.bind (T.pure (T.holding ?_)))
  exact T.bind (T.pure (T.bind (T.pure (T.pure q))))

theorem T.callWith_of {f : Value} {first : List Value} {args : List (Bool × Sem Value)} {kws : List (Option Str × Sem Value)} {Q : Post Value} (hplain : (args.any (·.1) || kws.any (·.1.isNone)) = false)
    (hk : ∀ g ρ M h, Act w.params c g ρ M h → ∃ k, (k = Keeper.frame ∨ k = Keeper.machine ∨ k = Keeper.boundFrame) ∧ Looks (model prog w) h (keeperOf f) k)
    (h : T prog w c (evalArgs f true args kws) (fun a g ρ M => T prog w c (call f (first ++ a.pos) a.kw) Q g ρ M) g ρ M) : T prog w c (callWith pos f first args kws) Q g ρ M := by
  unfold callWith
  refine T.bind (T.holding (T.mono h fun a g ρ M q => T.bind (T.standAt fun s hA => ?_)))
  obtain ⟨k, hk', L⟩ := hk g ρ M _ hA
  simp only [hplain]
  refine wpAny_bind (L.here ?_)
  have tail : ∀ {t : Sem Value}, T prog w c t Q g ρ M → T prog w c (t >>= fun r => PySem.holding [r] PySem.point >>= fun _ => Pure.pure r) Q g ρ M :=
    fun ht => T.bind (T.mono ht fun r g ρ M q => T.bind (T.holding (T.point (T.pure q))))
  have marked (mk : Value) : T prog w c (callMarked mk f (first ++ a.pos) a.kw) Q g ρ M := fun s hA => by unfold callMarked; exact Calls.wpAny_keep (q s hA)
  rcases hk' with rfl | rfl | rfl <;> dsimp only <;> first | exact tail q s hA | (split <;> first | exact tail q s hA | exact tail (marked _) s hA)

theorem T.callWith_K {f : Value} {first : List Value} {args : List (Bool × Sem Value)} {kws : List (Option Str × Sem Value)} {Q : Post Value} (O : c.Ok K n) (hk : keepIn K f = true) (hplain : (args.any (·.1) || kws.any (·.1.isNone)) = false)
    (h : T prog w c (evalArgs f true args kws) (fun a g ρ M => T prog w c (call f (first ++ a.pos) a.kw) Q g ρ M) g ρ M) : T prog w c (callWith pos f first args kws) Q g ρ M :=
  T.callWith_of hplain (fun _ _ _ _ hA => keeps_K hk _ (hA.wd O).X) h
theorem T.callWith_B {id : String} {first : List Value} {args : List (Bool × Sem Value)} {kws : List (Option Str × Sem Value)} {Q : Post Value} (hplain : (args.any (·.1) || kws.any (·.1.isNone)) = false)
    (h : T prog w c (evalArgs (.builtin id) true args kws) (fun a g ρ M => T prog w c (call (.builtin id) (first ++ a.pos) a.kw) Q g ρ M) g ρ M) : T prog w c (callWith pos (.builtin id) first args kws) Q g ρ M :=
  T.callWith_of hplain (fun _ _ _ _ _ => ⟨.machine, .inr (.inl rfl), Looks.of_pure rfl⟩) h
theorem T.callWith_Ty {id : String} {first : List Value} {args : List (Bool × Sem Value)} {kws : List (Option Str × Sem Value)} {Q : Post Value} (hplain : (args.any (·.1) || kws.any (·.1.isNone)) = false)
    (h : T prog w c (evalArgs (.type id) true args kws) (fun a g ρ M => T prog w c (call (.type id) (first ++ a.pos) a.kw) Q g ρ M) g ρ M) : T prog w c (callWith pos (.type id) first args kws) Q g ρ M :=
  T.callWith_of hplain (fun _ _ _ _ _ => ⟨.machine, .inr (.inl rfl), Looks.of_pure rfl⟩) h

theorem T.evalArgs_plain {f : Value} {l : List (Bool × Sem Value)} {Q : Post Args} (hl : l.any (·.1) = false) (h : T prog w c (spliced l) (fun vs g ρ M => Q ⟨vs, []⟩ g ρ M) g ρ M) : T prog w c (evalArgs f true l []) Q g ρ M := by
  cases l with
  | nil =>
    unfold evalArgs
    show T prog w c (spliced [] >>= _) Q g ρ M
    refine T.bind (T.mono h fun vs g ρ M q => T.bind (T.pure (T.holding ?_)))
    exact T.bind (T.pure (T.bind (T.pure (T.pure q))))
  | cons p r =>
    obtain ⟨b, x⟩ := p
    have : b = false := by
      rw [List.any_cons, Bool.or_eq_false_iff] at hl
      exact hl.1
    subst this
    exact T.evalArgs_cons h
section
variable {args : List Expr} {Q : Post Value}
theorem T.cw0K {f : Value} (O : c.Ok K n) (hk : keepIn K f = true) (hp : (backTo pos (starEach args c.env)).any (·.1) = false) (h : T prog w c (spliced (backTo pos (starEach args c.env))) (fun vs g ρ M => T prog w c (call f vs []) Q g ρ M) g ρ M) :
    T prog w c (callWith pos f [] (backTo pos (starEach args c.env)) (backToKw pos (keywordEach [] c.env))) Q g ρ M := T.callWith_K O hk (by rw [hp]; rfl) (T.evalArgs_plain hp h)
theorem T.cw1K {f x : Value} (O : c.Ok K n) (hk : keepIn K f = true) (hp : (backTo pos (starEach args c.env)).any (·.1) = false) (h : T prog w c (spliced (backTo pos (starEach args c.env))) (fun vs g ρ M => T prog w c (call f (x :: vs) []) Q g ρ M) g ρ M) :
    T prog w c (callWith pos f [x] (backTo pos (starEach args c.env)) (backToKw pos (keywordEach [] c.env))) Q g ρ M := T.callWith_K O hk (by rw [hp]; rfl) (T.evalArgs_plain hp h)
theorem T.cw0B {f : String} (hp : (backTo pos (starEach args c.env)).any (·.1) = false) (h : T prog w c (spliced (backTo pos (starEach args c.env))) (fun vs g ρ M => T prog w c (call (.builtin f) vs []) Q g ρ M) g ρ M) :
    T prog w c (callWith pos (.builtin f) [] (backTo pos (starEach args c.env)) (backToKw pos (keywordEach [] c.env))) Q g ρ M := T.callWith_B (by rw [hp]; rfl) (T.evalArgs_plain hp h)
theorem T.cw1B {f : String} {x : Value} (hp : (backTo pos (starEach args c.env)).any (·.1) = false) (h : T prog w c (spliced (backTo pos (starEach args c.env))) (fun vs g ρ M => T prog w c (call (.builtin f) (x :: vs) []) Q g ρ M) g ρ M) :
    T prog w c (callWith pos (.builtin f) [x] (backTo pos (starEach args c.env)) (backToKw pos (keywordEach [] c.env))) Q g ρ M := T.callWith_B (by rw [hp]; rfl) (T.evalArgs_plain hp h)
theorem T.cw0T {f : String} (hp : (backTo pos (starEach args c.env)).any (·.1) = false) (h : T prog w c (spliced (backTo pos (starEach args c.env))) (fun vs g ρ M => T prog w c (call (.type f) vs []) Q g ρ M) g ρ M) :
    T prog w c (callWith pos (.type f) [] (backTo pos (starEach args c.env)) (backToKw pos (keywordEach [] c.env))) Q g ρ M := T.callWith_Ty (by rw [hp]; rfl) (T.evalArgs_plain hp h)
end
theorem T.call_name {id : Str} {p : Pos} {args : List Expr} {kws : List Keyword} {Q : Post Value} (h : T prog w c (eval (.Name id p) c.env) (fun f g ρ M => T prog w c (callWith pos f [] (backTo pos (starEach args c.env)) (backToKw pos (keywordEach kws c.env))) Q g ρ M) g ρ M) :
    T prog w c (eval (.Call (.Name id p) args kws pos) c.env) Q g ρ M := by
  rw [arm_eval_Call_Name']
  exact T.bind h
theorem T.call_attr {o : Expr} {name : Str} {args : List Expr} {kws : List Keyword} {pl : Sem Bool} {Q : Post Value}
    (he : eval (.Call (.Attribute o name apos) args kws pos) c.env = (do
      let ov ← eval o c.env
      PySem.standAt apos.atName
      let (f, first) ← PySem.holding [ov] (getMethod ov name pl)
      callWith pos f first (backTo pos (starEach args c.env)) (backToKw pos (keywordEach kws c.env))))
    (h : T prog w c (eval o c.env) (fun ov g ρ M => T prog w c (getMethod ov name pl) (fun fx g ρ M => T prog w c (callWith pos fx.1 fx.2 (backTo pos (starEach args c.env)) (backToKw pos (keywordEach kws c.env))) Q g ρ M) g ρ M) g ρ M) :
    T prog w c (eval (.Call (.Attribute o name apos) args kws pos) c.env) Q g ρ M := by
  rw [he]
  exact T.bind (T.mono h fun ov g ρ M q => T.bind (T.standAt (T.bind (T.holding (T.mono q fun fx g ρ M q => q)))))
theorem T.attribute {value : Expr} {attr : Str} {Q : Post Value} (he : attributeBase value attr c.env (eval value c.env) = eval value c.env)
    (h : T prog w c (eval value c.env) (fun o g ρ M => T prog w c (getAttr o attr true) Q g ρ M) g ρ M) : T prog w c (eval (.Attribute value attr pos) c.env) Q g ρ M := by
  show T prog w c (do
    let o ← attributeBase value attr c.env (eval value c.env)
    PySem.standAt pos.atName
    let r ← PySem.holding [o] (getAttr o attr true)
    letTemporaryGo value o r
    Pure.pure r) Q g ρ M
  rw [he]
  exact T.bind (T.mono h fun o g ρ M q => T.bind (T.standAt (T.bind (T.holding (T.mono q fun r g ρ M q => T.bind (T.letTemp (T.pure q)))))))
theorem T.subscript {value slice : Expr} {Q : Post Value} (h : T prog w c (eval value c.env) (fun o g ρ M => T prog w c (eval slice c.env) (fun i g ρ M => T prog w c (subscriptTail value slice o i) Q g ρ M) g ρ M) g ρ M) :
    T prog w c (eval (.Subscript value slice pos) c.env) Q g ρ M := by
  show T prog w c (do
    let o ← eval value c.env
    let i ← PySem.holding [o] (eval slice c.env)
    PySem.standAt pos
    let r ← subscripted slice (← getitemInPython o) o i
    letTemporaryGo value o r
    Pure.pure r) Q g ρ M
  refine T.bind (T.mono h fun o g ρ M q => T.bind (T.holding (T.mono q fun i g ρ M q => T.bind (T.standAt ?_))))
  exact q

-- stores
theorem exec_Assign1 (t value : Expr) (pos : Pos) (env : Env) : exec (.Assign [t] value pos) env = (PySem.standAt pos >>= fun _ => swapsWith value (some t) pos.line env >>= fun b =>
    if b = true then evalThenUse value env (fun v => assignAll v ((assignEach [t] env).map (·.2))) >>= fun _ => Pure.pure Flow.next
    else eval value env >>= fun v => swappedStores [t] value env >>= fun sw => assignStores env v sw ((assignEach [t] env).map (·.2))) := rfl
theorem T.assign1 {t e : Expr} {Q : Post Flow} (hs : ∀ env, swapsWith e (some t) pos.line env = Pure.pure false) (hw : ∀ env, swappedStores [t] e env = Pure.pure none) (ht : (assignEach [t] c.env).map (·.2) = [assign t c.env])
    (h : T prog w c (eval e c.env) (fun v g ρ M => T prog w c (assign t c.env v) (fun _ g ρ M => Q .next g ρ M) g ρ M) g ρ M) : T prog w c (exec (.Assign [t] e pos) c.env) Q g ρ M := by
  rw [exec_Assign1, hs, hw, ht]
  refine T.bind (T.standAt (T.bind (T.pure ?_)))
  rw [if_neg Bool.false_ne_true]
  exact T.bind (T.mono h fun v g ρ M q => T.bind (T.pure (T.bind (T.mono q fun _ g ρ M q => T.pure q))))
theorem T.assign_name {x : Str} {p : Pos} {e : Expr} {Q : Post Flow} (hs : ∀ env, swapsWith e (some (.Name x p)) pos.line env = Pure.pure false)
    (hw : ∀ env, swappedStores [.Name x p] e env = Pure.pure none) (h : T prog w c (eval e c.env) (fun v g ρ M => T prog w c (storeName c.env x v) (fun _ g ρ M => Q .next g ρ M) g ρ M) g ρ M) : T prog w c (exec (.Assign [.Name x p] e pos) c.env) Q g ρ M :=
  T.assign1 hs hw rfl (T.mono h fun v g ρ M q => by
    rw [PySem.assign_Name]
    unfold bindName
    exact T.bind (T.standAt (T.bind (T.holding (T.point (T.bind (T.mono q fun _ g ρ M q => T.point q)))))))
theorem assign_Attr (o : Expr) (attr : Str) (p : Pos) (env : Env) (v : Value) : assign (.Attribute o attr p) env v = (do
    let ov ← PySem.holding [v] (eval o env)
    PySem.standAt p.atName
    PySem.holding [v, ov] (setAttr ov attr v)
    PySem.release [v, ov] []) := rfl
theorem T.assign_attr {o : Expr} {attr : Str} {p : Pos} {e : Expr} {Q : Post Flow} (hs : ∀ env, swapsWith e (some (.Attribute o attr p)) pos.line env = Pure.pure false)
    (hw : ∀ env, swappedStores [.Attribute o attr p] e env = Pure.pure none)
    (h : T prog w c (eval e c.env) (fun v g ρ M => T prog w c (eval o c.env) (fun ov g ρ M => T prog w c (setAttr ov attr v) (fun _ g ρ M => Q .next g ρ M) g ρ M) g ρ M) g ρ M) : T prog w c (exec (.Assign [.Attribute o attr p] e pos) c.env) Q g ρ M :=
  T.assign1 hs hw rfl (T.mono h fun v g ρ M q => by
    rw [assign_Attr]
    exact T.bind (T.holding (T.mono q fun ov g ρ M q => T.bind (T.standAt (T.bind (T.holding (T.mono q fun _ g ρ M q => T.release q)))))))
theorem assign_Sub (o i : Expr) (p : Pos) (env : Env) (v : Value) : assign (.Subscript o i p) env v = (do
    let ov ← PySem.holding [v] (eval o env)
    let iv ← PySem.holding [v, ov] (eval i env)
    PySem.standAt p
    PySem.holding [v, ov, iv] (setItem ov iv v)
    PySem.release (match i with | .Slice _ _ none _ => [iv, v, ov] | _ => [v, ov, iv]) []) := rfl
theorem T.assign_sub {o i : Expr} {p : Pos} {e : Expr} {Q : Post Flow} (hs : ∀ env, swapsWith e (some (.Subscript o i p)) pos.line env = Pure.pure false)
    (hw : ∀ env, swappedStores [.Subscript o i p] e env = Pure.pure none)
    (h : T prog w c (eval e c.env) (fun v g ρ M => T prog w c (eval o c.env) (fun ov g ρ M => T prog w c (eval i c.env) (fun iv g ρ M => T prog w c (setItem ov iv v) (fun _ g ρ M => Q .next g ρ M) g ρ M) g ρ M) g ρ M) g ρ M) :
    T prog w c (exec (.Assign [.Subscript o i p] e pos) c.env) Q g ρ M :=
  T.assign1 hs hw rfl (T.mono h fun v g ρ M q => by
    rw [assign_Sub]
    exact T.bind (T.holding (T.mono q fun ov g ρ M q => T.bind (T.holding (T.mono q fun iv g ρ M q => T.bind (T.standAt (T.bind (T.holding (T.mono q fun _ g ρ M q => T.release q)))))))))
end
end Mine

namespace Mine

def setG (g : G) (a : Addr) (m : MO) : G := fun b => if b = a then some m else g b
theorem Le.setG {g : G} {a : Addr} {m : MO} (h : g a = none) : Le g (setG g a m) := fun b m' e => by
  unfold Mine.setG
  split
  · rename_i q; rw [q, h] at e; cases e
  · exact e
theorem setG_self {g : G} {a : Addr} {m : MO} : setG g a m a = some m := if_pos rfl

def putKv : List (Str × Value) → Str → Value → List (Str × Value)
  | [], k, v => [(k, v)]
  | (k', v') :: r, k, v => if k' = k then (k', v) :: r else (k', v') :: putKv r k v

theorem SdEs.length {P : Params} {es : List DictEntry} {kv : List (Str × Value)} (h : SdEs P es kv) : es.length = kv.length := by
  induction h with
  | nil => rfl
  | cons _ ih => rw [List.length_cons, List.length_cons, ih]
theorem SdEs.noRef {P : Params} {es : List DictEntry} {kv : List (Str × Value)} (h : SdEs P es kv) : es.any (·.refKey) = false := by
  induction h with
  | nil => rfl
  | cons _ ih => rw [List.any_cons, ih]; rfl
theorem SdEs.find {P : Params} {es : List DictEntry} {kv : List (Str × Value)} (h : SdEs P es kv) (x : Str) : (es.find? (·.key.isStr x)).map (·.val) = kv.lookup x := by
  induction h with
  | nil => rfl
  | @cons k t v es kv _ ih =>
    rw [List.find?_cons, List.lookup_cons]
    have hk : (Value.str k t).isStr x = (k == x) := rfl
    rw [hk]
    by_cases q : k = x
    · subst q; simp
    · rw [beq_eq_false_iff_ne.mpr q, beq_eq_false_iff_ne.mpr (Ne.symm q)]; exact ih
theorem SdEs.getL {P : Params} {es : List DictEntry} {kv : List (Str × Value)} (h : SdEs P es kv) (x : Str) : getL x es = some (kv.lookup x) := by
  unfold PySem.W.getL
  rw [← h.find x]
  cases es.find? (·.key.isStr x) with
  | none => rw [h.noRef]; rfl
  | some e => rfl
theorem SdEs.put {P : Params} {es : List DictEntry} {kv : List (Str × Value)} (h : SdEs P es kv) (x : Str) (t : Tok) (v : Value) : SdEs P (putL x (PyData.keyHash P x) (.str x t) v es) (putKv kv x v) := by
  induction h with
  | nil => exact .cons .nil
  | @cons k t' v' es kv h' ih =>
    unfold putL putKv
    show SdEs P (if (k == x) = true then _ else _) _
    by_cases q : k = x
    · subst q; simp only [beq_self_eq_true, if_true]; exact .cons h'
    · rw [if_neg (by simpa using q), if_neg q]; exact .cons ih

theorem putKv_length : ∀ (kv : List (Str × Value)) (k : Str) (v : Value), (putKv kv k v).length ≤ kv.length + 1
  | [], _, _ => Nat.le_refl _
  | (k', v') :: r, k, v => by
    unfold putKv
    split
    · exact Nat.le_succ _
    · exact Nat.succ_le_succ (putKv_length r k v)
def Inst (g : G) (x C : Addr) (kv : List (Str × Value)) : Prop := ∃ d, g x = some (.inst C d) ∧ g d = some (.sd kv)
theorem Inst.mono {g g' : G} {x C : Addr} {kv : List (Str × Value)} (h : Inst g x C kv) (l : Le g g') : Inst g' x C kv := let ⟨d, a, b⟩ := h; ⟨d, l _ _ a, l _ _ b⟩
def Lst (g : G) (a : Addr) (vs : List Value) : Prop := g a = some (.list vs)
def Tup (g : G) (a : Addr) (vs : List Value) : Prop := g a = some (.tup vs)
theorem Lst.mono {g g' : G} {x : Addr} {vs : List Value} (h : Lst g x vs) (l : Le g g') : Lst g' x vs := l _ _ h
theorem Tup.mono {g g' : G} {x : Addr} {vs : List Value} (h : Tup g x vs) (l : Le g g') : Tup g' x vs := l _ _ h

theorem Inst.at {P : Params} {g : G} {x C : Addr} {kv : List (Str × Value)} {h : Heap} (I : Inst g x C kv) (sb : Sub P g h) : ∃ d es n, SdEs P es kv ∧ h.get? d = some (dictOf es n) ∧ InstAt h x (instObj C d) C (some (dictOf es n)) := by
  obtain ⟨d, a, b⟩ := I
  obtain ⟨_, hx, rfl⟩ := sb _ _ a
  obtain ⟨_, hd, es, n, rfl, he⟩ := sb _ _ b
  exact ⟨d, es, n, he, hd, hx, rfl, rfl, hd⟩

/-- a name that is read from the object's own dict -/
def attrOk (K : Frag) (C : Addr) (name : Str) : Bool := match clsIn K C, findIn K (.ref C) name with
  | some cd, some attr => cd.hasDict && (match attr with
      | none => true
      | some a => match specialIn K a "__get__" with
        | some none => true
        | some (some _) => takesIn K a == some false
        | none => false) && findIn K (.ref C) "__getattribute__" == some (some (.builtin "object.__getattribute__"))
  | _, _ => false
theorem findObj_own {K : Frag} {C : Addr} {name : Str} {od : Obj} {v : Value} (h : attrOk K C name = true) (hv : lookIn name od = some (some v)) :
    findObj K C (some od) name = some (.value v) ∧ findIn K (.ref C) "__getattribute__" = some (some (.builtin "object.__getattribute__")) := by
  unfold attrOk at h
  split at h
  · rename_i cd attr hc ha
    simp only [Bool.and_eq_true, beq_iff_eq] at h
    obtain ⟨⟨h1, h2⟩, h3⟩ := h
    refine ⟨?_, h3⟩
    unfold findObj
    rw [hc, Option.bind_some, ha, Option.bind_some]
    have own : PySem.W.ownOf cd (some od) name = some (some v) := by unfold PySem.W.ownOf; rw [h1]; exact hv
    cases attr with
    | none => simp [own]
    | some a =>
      dsimp only at h2 ⊢
      split at h2
      · rename_i q; rw [q]; simp [own]
      · rename_i q
        have q2 : takesIn K a = some false := by simpa using h2
        rw [q]; simp [q2, own]
      · cases h2
  · cases h
def methOk (K : Frag) (C : Addr) (name : Str) (f : Addr) : Bool :=
  findIn K (.ref C) "__getattribute__" == some (some (.builtin "object.__getattribute__")) && findIn K (.ref C) "__getattr__" == some none && findIn K (.ref C) name == some (some (.ref f)) && typeIn K (.ref f) == some (.type "function")

section
variable {prog : Program} {w : World} {α β : Type} {c : Cx} {g : G} {ρ : Str → Option Value} {M : Mem} {K : Frag} {n : Nat} {pos apos : Pos}

theorem T.attr {x C : Addr} {kv : List (Str × Value)} {name : Str} {v : Value} {ex : Bool} {Q : Post Value} (O : c.Ok K n) (I : Inst g x C kv) (hp : attrOk K C name = true) (hv : kv.lookup name = some v) (hh : handedIn v = true) (h : Q v g ρ M) :
    T prog w c (getAttr (.ref x) name ex) Q g ρ M := T.tok fun s hA R k => by
  obtain ⟨d, es, n, he, _, IA⟩ := I.at hA.know
  obtain ⟨f1, f2⟩ := findObj_own (od := dictOf es n) hp (by rw [lookIn_dict, he.getL, hv])
  exact get_value (hA.wd O).X IA f2 f1 hh (k _ _ h)
theorem T.method {x C f : Addr} {kv : List (Str × Value)} {name : Str} {pl : Sem Bool} {Q : Post (Value × List Value)} (O : c.Ok K n) (I : Inst g x C kv) (hm : methOk K C name f = true) (hv : kv.lookup name = none) (h : Q (.ref f, [.ref x]) g ρ M) :
    T prog w c (getMethod (.ref x) name pl) Q g ρ M := T.tok fun s hA R k => by
  obtain ⟨d, es, n, he, _, IA⟩ := I.at hA.know
  unfold methOk at hm
  simp only [Bool.and_eq_true, beq_iff_eq] at hm
  obtain ⟨⟨⟨h1, h2⟩, h3⟩, h4⟩ := hm
  exact method_fn (hA.wd O).X IA h1 h2 h3 h4 (by show (lookIn name (dictOf es n)).map _ = _; rw [lookIn_dict, he.getL, hv]; rfl) (k (.ref f, [.ref x]) s.toks h)

theorem bridge {h : Heap} {L : Addr} (X : List Addr) : ∃ I : List (Addr × Obj), (∀ a o, h.get? a = some o → a ≠ L → a ∉ X → (a, o) ∈ I) ∧ ∀ p ∈ I, h.get? p.1 = some p.2 ∧ p.1 ≠ L ∧ p.1 ∉ X := by
  refine ⟨(List.range h.objs.size).filterMap fun a => if a = L ∨ a ∈ X then none else (h.get? a).map (a, ·), fun a o e h1 h2 => ?_, fun p hp => ?_⟩
  · refine List.mem_filterMap.mpr ⟨a, List.mem_range.mpr (Heap.lt_size e), ?_⟩
    rw [if_neg (fun q => q.elim h1 h2), e]; rfl
  · obtain ⟨a, _, e⟩ := List.mem_filterMap.mp hp
    split at e
    · cases e
    · rename_i q
      obtain ⟨o, ho, rfl⟩ := Option.map_eq_some_iff.mp e
      exact ⟨ho, fun z => q (.inl z), fun z => q (.inr z)⟩
theorem get_empty (b : Addr) : ({} : Heap).get? b = none := by simp [Heap.get?]

theorem Act.at {P : Params} {h : Heap} {a : Addr} {m : MO} (A : Act P c g ρ M h) (hm : (a, m) ∈ M) : ∃ o, h.get? a = some o ∧ m.rep P o := A.mem _ hm

/-- one mutable object is turned -/
theorem Act.turn {P : Params} {h h' : Heap} {pre post : Mem} {d : Addr} {m₀ m₁ : MO} (A : Act P c g ρ (pre ++ (d, m₀) :: post) h) (O : c.Ok K n) (hk : ∀ a o, a ≠ d → a ≠ c.env.locals → h.get? a = some o → h'.get? a = some o)
    (hn : ∃ m, h'.Ns c.env.locals m ∧ ∀ x, c.env.kindOf x = some .local → m x = ρ x) (hr : ∃ o, h'.get? d = some o ∧ m₁.rep P o) : Act P c g ρ (pre ++ (d, m₁) :: post) h' := by
  have hpL : ∀ p ∈ pre ++ (d, m₀) :: post, p.1 ≠ c.env.locals := fun p hp q => (List.nodup_append.mp A.nodup).2.2 _ O.loc p.1 (List.mem_map_of_mem hp) q.symm
  have hmap : (pre ++ (d, m₁) :: post).map (·.1) = (pre ++ (d, m₀) :: post).map (·.1) := by simp
  have hd : d ∈ c.own ++ (pre ++ (d, m₀) :: post).map (·.1) := List.mem_append_right _ (by simp)
  have hf := A.fresh d hd
  have hown : ∀ a ∈ c.own, a ≠ d := fun a ha q => (List.nodup_append.mp A.nodup).2.2 a ha d (by simp) q
  have h0 : ∀ a o, c.h₀.get? a = some o → a ≠ d := fun a o e q => by rw [q, hf.1] at e; cases e
  have hfL := A.fresh c.env.locals (List.mem_append_left _ O.loc)
  have hL : ∀ a o, c.h₀.get? a = some o → a ≠ c.env.locals := fun a o e q => by rw [q, hfL.1] at e; cases e
  refine ⟨fun a o e => hk a o (h0 a o e) (hL a o e) (A.keep a o e), fun a m e => ?_, A.old, hn, fun x a e => ?_, fun p hp => ?_, by rw [hmap]; exact A.fresh, by rw [hmap]; exact A.nodup, fun a ha => ?_⟩
  · obtain ⟨o, ho, hr⟩ := A.know a m e
    exact ⟨o, hk a o (fun q => by rw [q, hf.2] at e; cases e) (fun q => by rw [q, hfL.2] at e; cases e) ho, hr⟩
  · obtain ⟨o, ho, hd'⟩ := A.cell x a e
    refine ⟨o, hk a o ?_ (O.cells x a e).1 ho, hd'⟩
    rcases O.cellIn x a e with q | ⟨o', q⟩
    · exact hown a q
    · exact h0 a o' q
  · have hnd := (List.nodup_append.mp A.nodup).2.1
    rw [List.map_append, List.map_cons] at hnd
    obtain ⟨n1, n2, n3⟩ := List.nodup_append.mp hnd
    rcases List.mem_append.mp hp with hp | hp
    · obtain ⟨o, ho, hr'⟩ := A.mem p (List.mem_append_left _ hp)
      exact ⟨o, hk _ _ (fun q => n3 p.1 (List.mem_map_of_mem hp) d (.head _) q) (hpL p (List.mem_append_left _ hp)) ho, hr'⟩
    · rcases List.mem_cons.mp hp with rfl | hp
      · exact hr
      · obtain ⟨o, ho, hr'⟩ := A.mem p (List.mem_append_right _ (.tail _ hp))
        exact ⟨o, hk _ _ (fun q => (List.nodup_cons.mp n2).1 (by rw [← q]; exact List.mem_map_of_mem (f := (·.1)) hp)) (hpL p (List.mem_append_right _ (.tail _ hp))) ho, hr'⟩
  · by_cases q : a = c.env.locals
    · obtain ⟨_, ⟨o, _, _, ho, _⟩, _⟩ := hn
      exact ⟨o, q ▸ ho⟩
    · obtain ⟨o, ho⟩ := A.live a ha
      exact ⟨o, hk a o (hown a ha) q ho⟩
/-- a new object -/
theorem Act.new {P : Params} {h h' : Heap} {a : Addr} {m : MO} (A : Act P c g ρ M h) (hk : Ext h h') (hn : h.get? a = none) (hr : ∃ o, h'.get? a = some o ∧ m.rep P o) : Act P c g ρ ((a, m) :: M) h' := by
  have hg : g a = none := by
    cases q : g a with
    | none => rfl
    | some m => obtain ⟨o, ho, _⟩ := A.know a m q; rw [hn] at ho; cases ho
  have h0 : c.h₀.get? a = none := by
    cases q : c.h₀.get? a with
    | none => rfl
    | some o => have := A.keep a o q; rw [hn] at this; cases this
  refine ⟨A.keep.trans hk, A.know.ext hk, A.old, let ⟨m, x, y⟩ := A.ns; ⟨m, x.keeps hk, y⟩, fun x b e => (A.cell x b e).keeps hk, fun p hp => ?_, fun b hb => ?_, ?_, fun b hb => let ⟨o, ho⟩ := A.live b hb; ⟨o, hk _ _ ho⟩⟩
  · rcases List.mem_cons.mp hp with rfl | hp
    · exact hr
    · obtain ⟨o, ho, hr⟩ := A.mem p hp; exact ⟨o, hk _ _ ho, hr⟩
  · rcases List.mem_append.mp hb with hb | hb
    · exact A.fresh b (List.mem_append_left _ hb)
    · rcases List.mem_cons.mp hb with rfl | hb
      · exact ⟨h0, hg⟩
      · exact A.fresh b (List.mem_append_right _ hb)
  · have al : ∀ b ∈ c.own ++ M.map (·.1), b ≠ a := fun b hb q => by
      rcases List.mem_append.mp hb with hb | hb
      · obtain ⟨o, ho⟩ := A.live b hb
        rw [q, hn] at ho; cases ho
      · obtain ⟨p, hp, rfl⟩ := List.mem_map.mp hb
        obtain ⟨o, ho, _⟩ := A.mem p hp
        rw [q, hn] at ho; cases ho
    obtain ⟨n1, n2, n3⟩ := List.nodup_append.mp A.nodup
    refine List.nodup_append.mpr ⟨n1, List.nodup_cons.mpr ⟨fun hm => al a (List.mem_append_right _ hm) rfl, n2⟩, fun x hx y hy q => ?_⟩
    rcases List.mem_cons.mp hy with rfl | hy
    · exact al x (List.mem_append_left _ hx) q
    · exact n3 x hx y hy q
/-- a mutable object is laid aside for good -/
theorem Act.freeze {P : Params} {h : Heap} {pre post : Mem} {a : Addr} {m : MO} (A : Act P c g ρ (pre ++ (a, m) :: post) h) : Act P c (setG g a m) ρ (pre ++ post) h := by
  have ha := A.fresh a (List.mem_append_right _ (by simp))
  have hnd := A.nodup
  rw [List.map_append, List.map_cons] at hnd
  refine ⟨A.keep, fun b m' e => ?_, fun b m' e => ?_, A.ns, A.cell, fun p hp => A.mem p ?_, fun b hb => ?_, ?_, A.live⟩
  · unfold setG at e
    split at e
    · rename_i q; subst q; cases e; exact A.mem (b, m) (by simp)
    · exact A.know b m' e
  · unfold setG at e
    split at e
    · rename_i q; subst q; exact .inr ha.1
    · exact A.old b m' e
  · rcases List.mem_append.mp hp with hp | hp
    · exact List.mem_append_left _ hp
    · exact List.mem_append_right _ (.tail _ hp)
  · have hb' : b ∈ c.own ++ (pre ++ (a, m) :: post).map (·.1) := by
      simp only [List.map_append, List.mem_append, List.map_cons, List.mem_cons] at hb ⊢
      rcases hb with hb | hb | hb
      · exact .inl hb
      · exact .inr (.inl hb)
      · exact .inr (.inr (.inr hb))
    refine ⟨(A.fresh b hb').1, ?_⟩
    unfold setG
    rw [if_neg ?_]
    · exact (A.fresh b hb').2
    · intro q
      subst q
      obtain ⟨n1, n2, n3⟩ := List.nodup_append.mp hnd
      obtain ⟨m1, m2, m3⟩ := List.nodup_append.mp n2
      simp only [List.map_append, List.mem_append] at hb
      rcases hb with hb | hb | hb
      · exact n3 b hb b (by simp) rfl
      · exact m3 b hb b (.head _) rfl
      · exact (List.nodup_cons.mp m2).1 hb
  · rw [List.map_append]
    obtain ⟨n1, n2, n3⟩ := List.nodup_append.mp hnd
    obtain ⟨m1, m2, m3⟩ := List.nodup_append.mp n2
    refine List.nodup_append.mpr ⟨n1, List.nodup_append.mpr ⟨m1, (List.nodup_cons.mp m2).2, fun x hx y hy => m3 x hx y (.tail _ hy)⟩, fun x hx y hy => n3 x hx y ?_⟩
    rcases List.mem_append.mp hy with hy | hy
    · exact List.mem_append_left _ hy
    · exact List.mem_append_right _ (.tail _ hy)
theorem T.freeze {pre post : Mem} {a : Addr} {m : MO} {t : Sem α} {Q : Post α} (h : g a = none → T prog w c t Q (setG g a m) ρ (pre ++ post)) : T prog w c t Q g ρ (pre ++ (a, m) :: post) := fun s hA => by
  have ha := (hA.fresh a (List.mem_append_right _ (by simp))).2
  exact wpAny_mono (h ha s hA.freeze) (fun _ _ ⟨g', ρ', M', a', b, l, q⟩ => ⟨g', ρ', M', a', b, (Le.setG ha).trans l, q⟩) fun _ _ e => e
theorem T.freeze0 {post : Mem} {a : Addr} {m : MO} {t : Sem α} {Q : Post α} (h : g a = none → T prog w c t Q (setG g a m) ρ post) : T prog w c t Q g ρ ((a, m) :: post) := T.freeze (pre := []) h

def stOk (K : Frag) (C : Addr) (name : Str) : Bool := plainOver K C && takerIn K C name == some none && (clsIn K C).any (·.hasDict) && findIn K (.ref C) "__setattr__" == some (some (.builtin "object.__setattr__"))

theorem T.setAttr {x C d : Addr} {pre post : Mem} {kv : List (Str × Value)} {name : Str} {v : Value} {Q : Post Unit} (O : c.Ok K n) (hx : g x = some (.inst C d)) (hst : stOk K C name = true) (hz : kv.length < 900)
    (h : Q () g ρ (pre ++ (d, .sd (putKv kv name v)) :: post)) : T prog w c (setAttr (.ref x) name v) Q g ρ (pre ++ (d, .sd kv) :: post) := fun s hA => by
  unfold stOk at hst
  simp only [Bool.and_eq_true, beq_iff_eq] at hst
  obtain ⟨⟨⟨h1, h2⟩, h3⟩, h4⟩ := hst
  obtain ⟨_, ho, rfl⟩ := hA.know _ _ hx
  obtain ⟨_, hd, es, k, rfl, he⟩ := hA.mem (d, .sd kv) (by simp)
  obtain ⟨m, hm, e⟩ := hA.ns
  have X := (hA.wd O).X
  have IA : InstAt s.heap x (instObj C d) C (some (dictOf es k)) := ⟨ho, rfl, rfl, hd⟩
  obtain ⟨I, i1, i2⟩ := bridge (h := s.heap) (L := c.env.locals) [d]
  have hLd : d ≠ c.env.locals := fun q => (List.nodup_append.mp hA.nodup).2.2 _ O.loc d (by simp) q.symm
  have F : Fr {} c.env.locals s.heap m := ⟨hm, (fun b o e => by rw [get_empty] at e; cases e), Nat.zero_le _⟩
  have N : News {} c.env.locals s.heap ([] ++ (d, dictOf es k) :: I) := fun p hp => by
    rcases List.mem_cons.mp hp with rfl | hp
    · exact ⟨hd, hLd, get_empty _⟩
    · exact ⟨(i2 p hp).1, (i2 p hp).2.1, get_empty _⟩
  refine set_plain X IA h4 ?_
  refine osa_dict (s := { s with toks := s.toks + 1 }) (K := K) F N X IA rfl h1 h2 h3 (by rw [lookIn_dict, he.getL]; rfl) (fun _ hp => nomatch hp) (fun p hp q => (i2 p hp).2.2 (by rw [q]; exact .head _)) (putName_dict ..) rfl
    (by have l1 := (he.put name (s.toks + 1) v).length; have l2 : (putKv kv name v).length ≤ kv.length + 1 := putKv_length kv name v; dsimp only; omega) fun h' F' N' => ?_
  refine ⟨g, ρ, _, hA.turn (m₁ := .sd (putKv kv name v)) O (fun a o hne q e => (N' (a, o) (.tail _ (i1 a o e q (by simpa using hne)))).1) ⟨m, F'.ns, e⟩ ?_, ⟨rfl, rfl, rfl⟩, .refl g, h⟩
  exact ⟨_, (N' (d, _) (.head _)).1, _, _, rfl, he.put name _ v⟩
theorem T.setAttr0 {x C d : Addr} {post : Mem} {kv kv' : List (Str × Value)} {name : Str} {v : Value} {Q : Post Unit} (O : c.Ok K n) (hx : g x = some (.inst C d)) (hst : stOk K C name = true) (hz : decide (kv.length < 900) = true) (hp : putKv kv name v = kv')
    (h : Q () g ρ ((d, .sd kv') :: post)) : T prog w c (PySem.setAttr (.ref x) name v) Q g ρ ((d, .sd kv) :: post) := by
  subst hp
  exact T.setAttr (pre := []) O hx hst (by simpa using hz) h
theorem putKv_nil {k : Str} {v : Value} : putKv [] k v = [(k, v)] := rfl
theorem putKv_same {k : Str} {v v' : Value} {r : List (Str × Value)} : putKv ((k, v') :: r) k v = (k, v) :: r := by simp [putKv]
theorem putKv_ne {k k' : Str} {v v' : Value} {r r' : List (Str × Value)} (h : (k' == k) = false) (e : putKv r k v = r') : putKv ((k', v') :: r) k v = (k', v') :: r' := by
  unfold putKv
  rw [if_neg (by intro q; subst q; simp at h), e]
end
end Mine

namespace Mine

section
variable {prog : Program} {w : World} {α β : Type} {c : Cx} {g : G} {ρ : Str → Option Value} {M : Mem} {K : Frag} {n : Nat} {pos apos : Pos}

-- pure trees
theorem none_of_ext {h h' : Heap} {a : Addr} (x : Ext h h') (e : h'.get? a = none) : h.get? a = none := by
  cases z : h.get? a with
  | none => rfl
  | some o => rw [x a o z] at e; cases e
theorem Pu.pure {a : α} {Q : α → G → Prop} (h : Q a g) : Pu prog w K n (Pure.pure a) Q g := fun A s _ _ sb => wpAny_pure ⟨Ext.refl _, .refl s, g, .refl g, sb, fun _ _ e => .inl e, h⟩
theorem Pu.bind {m : Sem α} {f : α → Sem β} {Q : β → G → Prop} (h : Pu prog w K n m (fun a g' => Pu prog w K n (f a) Q g') g) : Pu prog w K n (m >>= f) Q g := fun A s r wd sb =>
  wpAny_bind (wpAny_mono (h A s r wd sb) (fun a s' ⟨x, y, g', l, sb', nw, q⟩ => wpAny_mono (q A s' r (wd.ext x) sb') (fun b s'' ⟨x', y', g'', l', sb'', nw', q'⟩ =>
    ⟨x.trans x', y.trans y', g'', l.trans l', sb'', (fun a m e => (nw' a m e).elim (nw a m) fun e => .inr (none_of_ext x e)), q'⟩) fun _ _ e => e) fun _ _ e => e)
theorem Pu.looks {t : Sem α} {r : α} {Q : α → G → Prop} (l : ∀ h, Wd K h → Sub w.params g h → Looks (model prog w) h t r) (h : Q r g) : Pu prog w K n t Q g := fun _ s _ wd sb => (l _ wd sb).here ⟨Ext.refl _, .refl s, g, .refl g, sb, fun _ _ e => .inl e, h⟩
/-- a tree that leaves the heap as it is -/
theorem Pu.tok {t : Sem α} {Q : α → G → Prop} (h : ∀ A s, Room A n → Wd K s.heap → Sub w.params g s.heap → ∀ R : α → Shared → Prop, (∀ r tk, Q r g → R r { s with toks := tk }) → wpAny (model prog w) A t R (fun _ _ => False) s) : Pu prog w K n t Q g :=
  fun A s r wd sb => h A s r wd sb _ fun _ _ q => ⟨Ext.refl _, ⟨rfl, rfl, rfl⟩, g, .refl g, sb, fun _ _ e => .inl e, q⟩
theorem Pu.of_room {t : Sem α} {Q : α → G → Prop} {m : Nat} (h : Pu prog w K n t Q g) (hm : n ≤ m) : Pu prog w K m t Q g := h.mono hm fun _ _ _ q => q
theorem T.pu_same {t : Sem α} {r : α} {Q : Post α} {m : Nat} (O : c.Ok K n) (hp : Pu prog w K m t (fun r' g' => r' = r ∧ g' = g) g) (hm : m ≤ n) (h : Q r g ρ M) : T prog w c t Q g ρ M :=
  T.pu O hp hm fun r' g' _ ⟨a, b⟩ => by subst a b; exact h

/-- a new object made by one push, frozen at once -/
theorem T.push {t : Sem α} {Q : Post α} {m : MO} {o : Obj} {f : Addr → α} (hr : m.rep w.params o) (hf : o.isFreed = false)
    (ht : ∀ s, Act w.params c g ρ M s.heap → ∀ R : α → Shared → Prop, (∀ (h' : Heap) tk, Ext s.heap h' → R (f h'.objs.size) { s with heap := h'.push o, toks := tk }) → wpAny (model prog w) c.A t R (fun _ _ => False) s)
    (h : ∀ a, g a = none → Q (f a) (setG g a m) ρ M) : T prog w c t Q g ρ M := fun s hA => by
  refine ht s hA _ fun h' tk x => ?_
  have A' : Act w.params c g ρ M h' := by
    refine ⟨hA.keep.trans x, hA.know.ext x, hA.old, let ⟨m, a, b⟩ := hA.ns; ⟨m, a.keeps x, b⟩, fun y a e => (hA.cell y a e).keeps x, fun p hp => let ⟨o, a, b⟩ := hA.mem p hp; ⟨o, x _ _ a, b⟩, hA.fresh, hA.nodup, fun a ha => let ⟨o, b⟩ := hA.live a ha; ⟨o, x _ _ b⟩⟩
  have hn : h'.get? h'.objs.size = none := by
    cases q : h'.get? h'.objs.size with
    | none => rfl
    | some o => exact absurd (Heap.lt_size q) (Nat.lt_irrefl _)
  have A2 := A'.new (m := m) (fun b o e => Heap.get?_push_of_some _ e) hn ⟨o, Heap.get?_push_size _ hf, hr⟩
  have hg := (A2.fresh h'.objs.size (List.mem_append_right _ (.head _))).2
  exact ⟨_, _, _, Act.freeze (pre := []) A2, ⟨rfl, rfl, rfl⟩, Le.setG hg, h _ hg⟩
/-- a new object made by one push, still mutable -/
theorem T.pushM {t : Sem α} {Q : Post α} {m : MO} {o : Obj} {f : Addr → α} (hr : m.rep w.params o) (hf : o.isFreed = false)
    (ht : ∀ s, Act w.params c g ρ M s.heap → ∀ R : α → Shared → Prop, (∀ (h' : Heap) tk, Ext s.heap h' → R (f h'.objs.size) { s with heap := h'.push o, toks := tk }) → wpAny (model prog w) c.A t R (fun _ _ => False) s)
    (h : ∀ a, Q (f a) g ρ ((a, m) :: M)) : T prog w c t Q g ρ M := fun s hA => by
  refine ht s hA _ fun h' tk x => ?_
  have A' : Act w.params c g ρ M h' := by
    refine ⟨hA.keep.trans x, hA.know.ext x, hA.old, let ⟨m, a, b⟩ := hA.ns; ⟨m, a.keeps x, b⟩, fun y a e => (hA.cell y a e).keeps x, fun p hp => let ⟨o, a, b⟩ := hA.mem p hp; ⟨o, x _ _ a, b⟩, hA.fresh, hA.nodup, fun a ha => let ⟨o, b⟩ := hA.live a ha; ⟨o, x _ _ b⟩⟩
  have hn : h'.get? h'.objs.size = none := by
    cases q : h'.get? h'.objs.size with
    | none => rfl
    | some o => exact absurd (Heap.lt_size q) (Nat.lt_irrefl _)
  exact ⟨_, _, _, A'.new (m := m) (fun b o e => Heap.get?_push_of_some _ e) hn ⟨o, Heap.get?_push_size _ hf, hr⟩, ⟨rfl, rfl, rfl⟩, .refl _, h _⟩

theorem T.newList {vs : List Value} {Q : Post Value} (hz : vs.length ≤ 1000) (h : ∀ a, Q (.ref a) g ρ ((a, .list vs) :: M)) : T prog w c (PySem.newList vs) Q g ρ M :=
  T.pushM (m := .list vs) (o := { cls := .type "list", data := .seq vs.toArray }) (f := .ref) ⟨0, rfl⟩ rfl (fun s _ R k => wpAny_newObj_type (k s.heap s.toks (Ext.refl _)) (by show vs.toArray.size ≤ sizeLine; rw [List.size_toArray, sizeLine_eq]; omega)) h
theorem T.newListF {vs : List Value} {Q : Post Value} (hz : vs.length ≤ 1000) (h : ∀ a, g a = none → Q (.ref a) (setG g a (.list vs)) ρ M) : T prog w c (PySem.newList vs) Q g ρ M :=
  T.push (m := .list vs) (o := { cls := .type "list", data := .seq vs.toArray }) (f := .ref) ⟨0, rfl⟩ rfl (fun s _ R k => wpAny_newObj_type (k s.heap s.toks (Ext.refl _)) (by show vs.toArray.size ≤ sizeLine; rw [List.size_toArray, sizeLine_eq]; omega)) h
theorem T.newTuple {vs : List Value} {Q : Post Value} (hz : vs.length ≤ 1000) (h : ∀ a, g a = none → Q (.ref a) (setG g a (.tup vs)) ρ M) : T prog w c (PySem.newTuple vs) Q g ρ M :=
  T.push (m := .tup vs) (o := { cls := .type "tuple", data := .seq vs.toArray }) (f := .ref) rfl rfl (fun s _ R k => wpAny_newObj_type (k s.heap s.toks (Ext.refl _)) (by show vs.toArray.size ≤ sizeLine; rw [List.size_toArray, sizeLine_eq]; omega)) h

/-- a list: frozen, or among the mutable -/
def SrcL (g : G) (M : Mem) (a : Addr) (vs : List Value) : Prop := g a = some (.list vs) ∨ (a, .list vs) ∈ M
theorem SrcL.at {P : Params} {h : Heap} {a : Addr} {vs : List Value} (S : SrcL g M a vs) (A : Act P c g ρ M h) : ∃ k, IsL h a vs.toArray k := by
  rcases S with e | e
  · obtain ⟨_, ho, k, rfl⟩ := A.know _ _ e; exact ⟨k, ho⟩
  · obtain ⟨_, ho, k, rfl⟩ := A.mem _ e; exact ⟨k, ho⟩
theorem Tup.at {P : Params} {h : Heap} {a : Addr} {vs : List Value} (S : Tup g a vs) (A : Act P c g ρ M h) : IsT h a vs.toArray 0 := by
  obtain ⟨_, ho, rfl⟩ := A.know _ _ S; exact ho

theorem T.lenL {a : Addr} {vs : List Value} {Q : Post Value} (S : SrcL g M a vs) (hz : vs.length ≤ 1000) (h : ∀ t, Q (.int vs.length t) g ρ M) : T prog w c (call (.builtin "len") [.ref a]) Q g ρ M := T.tok fun s hA R k => by
  obtain ⟨_, hl⟩ := S.at hA
  exact call_len_list hl.isList (by rw [List.size_toArray]; omega) (k _ _ (by rw [List.size_toArray]; exact h _))
theorem T.lenT {a : Addr} {vs : List Value} {Q : Post Value} (S : Tup g a vs) (hz : vs.length ≤ 1000) (h : ∀ t, Q (.int vs.length t) g ρ M) : T prog w c (call (.builtin "len") [.ref a]) Q g ρ M := T.tok fun s hA R k =>
  P.len_tuple (S.at hA) (by rw [List.size_toArray]; omega) (k _ _ (by rw [List.size_toArray]; exact h _))
theorem T.truthyL {a : Addr} {vs : List Value} {Q : Post Bool} (S : SrcL g M a vs) (hz : vs.length ≤ 1000) (h : Q (!vs.isEmpty) g ρ M) : T prog w c (truthy (.ref a)) Q g ρ M := T.tok fun s hA R k => by
  obtain ⟨_, hl⟩ := S.at hA
  exact wpAny_truthy_list hl.isList (by rw [List.size_toArray]; omega) (k _ _ (by rw [List.isEmpty_toArray]; exact h))
theorem T.truthyT {a : Addr} {vs : List Value} {Q : Post Bool} (S : Tup g a vs) (hz : vs.length ≤ 1000) (h : Q (!vs.isEmpty) g ρ M) : T prog w c (truthy (.ref a)) Q g ρ M := T.tok fun s hA R k =>
  truthy_tuple ⟨_, S.at hA, rfl, 0, rfl⟩ (by rw [List.size_toArray]; omega) (k _ _ (by rw [List.isEmpty_toArray]; exact h))
theorem T.truthyI {i : Int} {t : Tok} {Q : Post Bool} (h : Q (i != 0) g ρ M) : T prog w c (truthy (.int i t)) Q g ρ M := T.tok fun s _ _ k => truthy_int (k _ s.toks h)

-- items
theorem T.itemL {value slice : Expr} {a : Addr} {vs : List Value} {k : Int} {u : Tok} {v : Value} {Q : Post Value} (S : SrcL g M a vs) (h0 : 0 ≤ k) (hfit : k < 2 ^ 63) (hx : vs[k.toNat]? = some v)
    (hs : subscripted slice false (.ref a) (.int k u) = PySem.operate [.ref a, .int k u] (getItem (.ref a) (.int k u))) (h : Q v g ρ M) : T prog w c (subscriptTail value slice (.ref a) (.int k u)) Q g ρ M := T.tok fun s hA R kk => by
  obtain ⟨_, hl⟩ := S.at hA
  exact tail_any hl.isList.typeIs slot_list_getitem.lookup (wpAny_getItem_list hl.isList h0 hfit (by simpa using hx) (kk _ s.toks h)) hs
theorem T.itemLneg {value slice : Expr} {a : Addr} {vs : List Value} {k : Int} {u : Tok} {v : Value} {Q : Post Value} (S : SrcL g M a vs) (h0 : k < 0) (h1 : -(vs.length : Int) ≤ k) (hfit : -(2 ^ 63) ≤ k) (hx : vs[(k + vs.length).toNat]? = some v)
    (hs : subscripted slice false (.ref a) (.int k u) = PySem.operate [.ref a, .int k u] (getItem (.ref a) (.int k u))) (h : Q v g ρ M) : T prog w c (subscriptTail value slice (.ref a) (.int k u)) Q g ρ M := T.tok fun s hA R kk => by
  obtain ⟨_, hl⟩ := S.at hA
  exact tail_any hl.isList.typeIs slot_list_getitem.lookup (wpAny_getItem_list_neg hl.isList h0 (by simpa using h1) hfit (by simpa using hx) (kk _ s.toks h)) hs
theorem T.itemT {value slice : Expr} {a : Addr} {vs : List Value} {k : Int} {u : Tok} {v : Value} {Q : Post Value} (S : Tup g a vs) (h0 : 0 ≤ k) (hfit : k < 2 ^ 63) (hx : vs[k.toNat]? = some v)
    (hs : subscripted slice false (.ref a) (.int k u) = PySem.operate [.ref a, .int k u] (getItem (.ref a) (.int k u))) (h : Q v g ρ M) : T prog w c (subscriptTail value slice (.ref a) (.int k u)) Q g ρ M := T.tok fun s hA R kk => by
  have ht := S.at hA
  have hlt : k.toNat < vs.length := by
    rcases Nat.lt_or_ge k.toNat vs.length with q | q
    · exact q
    · rw [List.getElem?_eq_none q] at hx; cases hx
  refine tail_any (T := "tuple") ⟨_, ht, rfl⟩ F.slot_tuple_getitem.lookup (P.getItem_tuple (k := k.toNat) ht (by omega) hfit ?_ (by simpa using hx) (kk _ s.toks h)) hs
  have hk : ¬ k < 0 := by omega
  have h2 : k < (vs.length : Int) := by omega
  unfold seqIndex?
  simp only [List.size_toArray, if_neg hk]
  rw [decide_eq_true h0, decide_eq_true h2]
  rfl

-- whole numbers
theorem T.addI {a b : Int} {t u : Tok} {Q : Post Value} (h : ∀ t, Q (.int (a + b) t) g ρ M) : T prog w c (binaryOp .Add (.int a t) (.int b u)) Q g ρ M := T.tok fun _ _ _ k => add_int (k _ _ (h _))
theorem T.mulI {a b : Int} {t u : Tok} {Q : Post Value} (hm : IntMulOk a b) (h : ∀ t, Q (.int (a * b) t) g ρ M) : T prog w c (binaryOp .Mult (.int a t) (.int b u)) Q g ρ M := T.tok fun _ _ _ k => mul_int (k _ _ (h _)) hm
theorem T.modI {a b : Int} {t u : Tok} {Q : Post Value} (hb : b ≠ 0) (h : ∀ t, Q (.int (a.fmod b) t) g ρ M) : T prog w c (binaryOp .Mod (.int a t) (.int b u)) Q g ρ M := T.tok fun _ _ _ k => mod_int hb (k _ _ (h _))
theorem T.divI {a b : Int} {t u : Tok} {Q : Post Value} (hb : b ≠ 0) (hp : Builtin.divisionGoesByPylong a b = false) (h : ∀ t, Q (.int (a.fdiv b) t) g ρ M) : T prog w c (binaryOp .FloorDiv (.int a t) (.int b u)) Q g ρ M := T.tok fun _ _ _ k => floordiv_int hb (k _ _ (h _)) (.inl hp)
theorem T.subI {a b : Int} {t u : Tok} {Q : Post Value} (h : ∀ t, Q (.int (a - b) t) g ρ M) : T prog w c (binaryOp .Sub (.int a t) (.int b u)) Q g ρ M := T.tok fun _ _ _ k => sub_int (k _ _ (h _))
theorem T.xorI {a b : Int} {t u : Tok} {Q : Post Value} (h : ∀ t, Q (.int (Builtin.bitXor a b) t) g ρ M) : T prog w c (binaryOp .BitXor (.int a t) (.int b u)) Q g ρ M := T.tok fun _ _ _ k => xor_int (k _ _ (h _))
theorem T.shlI {a b : Int} {t u : Tok} {Q : Post Value} (h0 : 0 ≤ b) (h1 : b ≤ 1000000) (h2 : a.natAbs < 2 ^ 64) (h : ∀ t, Q (.int (a * 2 ^ b.toNat) t) g ρ M) : T prog w c (binaryOp .LShift (.int a t) (.int b u)) Q g ρ M := T.tok fun _ _ _ k => lshift_int_small h0 h1 h2 (k _ _ (h _))
theorem T.eqI {a b : Int} {t u : Tok} {Q : Post Value} (h : Q (.bool (a == b)) g ρ M) : T prog w c (compareOp .Eq (.int a t) (.int b u)) Q g ρ M := T.tok fun s _ _ k => eq_int (k _ s.toks h)
theorem T.neI {a b : Int} {t u : Tok} {Q : Post Value} (h : Q (.bool (a != b)) g ρ M) : T prog w c (compareOp .NotEq (.int a t) (.int b u)) Q g ρ M := T.tok fun s _ _ k => ne_int (k _ s.toks h)
theorem T.ltI {a b : Int} {t u : Tok} {Q : Post Value} (h : Q (.bool (decide (a < b))) g ρ M) : T prog w c (compareOp .Lt (.int a t) (.int b u)) Q g ρ M := T.tok fun s _ _ k => lt_int (k _ s.toks h)
theorem T.gtI {a b : Int} {t u : Tok} {Q : Post Value} (h : Q (.bool (decide (b < a))) g ρ M) : T prog w c (compareOp .Gt (.int a t) (.int b u)) Q g ρ M := T.tok fun s _ _ k => gt_int (k _ s.toks h)
theorem T.geI {a b : Int} {t u : Tok} {Q : Post Value} (h : Q (.bool (decide (b ≤ a))) g ρ M) : T prog w c (compareOp .GtE (.int a t) (.int b u)) Q g ρ M := T.tok fun s _ _ k => ge_int (k _ s.toks h)
theorem T.eqS {x y : Str} {t u : Tok} {Q : Post Value} (h : Q (.bool (x == y)) g ρ M) : T prog w c (compareOp .Eq (.str x t) (.str y u)) Q g ρ M := T.tok fun s _ _ k => P.eq_str (k _ s.toks (by
  have e : (x.cps.toList == y.cps.toList) = (x == y) := by
    by_cases q : x = y
    · subst q; simp
    · rw [beq_eq_false_iff_ne.mpr q, beq_eq_false_iff_ne]
      intro z; exact q (by cases x; cases y; congr; exact Array.ext' z)
  rw [e]; exact h))

-- one and the same
theorem T.isRef {x y : Addr} {mx my : MO} {Q : Post Value} (hx : g x = some mx) (hy : g y = some my) (hn : ∀ vs, mx ≠ .tup vs) (hr : ∀ o, mx ≠ .raw o) (h : Q (.bool (decide (x = y))) g ρ M) : T prog w c (compareOp .Is (.ref x) (.ref y)) Q g ρ M := T.tok fun s hA R k => by
  by_cases q : x = y
  · subst q
    exact wpAny_is_ref_self (k _ s.toks (by simpa using h))
  · obtain ⟨ox, hox, rx⟩ := hA.know _ _ hx
    obtain ⟨oy, hoy, _⟩ := hA.know _ _ hy
    refine wpAny_is_ref_other q hox hoy ?_ (k _ s.toks (by simpa [q] using h))
    cases mx with
    | list => obtain ⟨n, rfl⟩ := rx; exact (by decide : Value.type "list" ≠ .type "tuple")
    | tup vs => exact absurd rfl (hn vs)
    | inst => rw [show ox = _ from rx]; exact fun e => by cases e
    | sd => obtain ⟨_, _, rfl, _⟩ := rx; exact (by decide : Value.type "dict" ≠ .type "tuple")
    | raw o => exact absurd rfl (hr o)
    | map f n => obtain ⟨_, _, _, rfl, _⟩ := rx; exact (by decide : Value.type "dict" ≠ .type "tuple")
    | vd xs => obtain ⟨_, rfl⟩ := rx; exact (by decide : Value.type "dict" ≠ .type "tuple")

-- isinstance
def isiOk (K : Frag) (D : Addr) : Bool := plainGet K D "__class__" && hasDictIn K D && findIn K (.ref D) "__class__" == some (some (.builtin "object.__class__")) && mroIn K D (.type "object") == some true
def isiTop (K : Frag) : Bool := specialIn K (.builtin "object.__class__") "__get__" == some (some (.builtin "getset_descriptor.__get__")) && takesIn K (.builtin "object.__class__") == some true
theorem T.isinst {x D C : Addr} {kv : List (Str × Value)} {b : Bool} {Q : Post Value} (O : c.Ok K n) (I : Inst g x D kv) (hD : isiOk K D = true) (hT : isiTop K = true) (e : kitOne K (.ref D) (.ref C) = some b) (h : Q (.bool b) g ρ M) :
    T prog w c (call (.builtin "isinstance") [.ref x, .ref C]) Q g ρ M := T.tok fun s hA R k => by
  obtain ⟨d, es, j, he, hd, IA⟩ := I.at hA.know
  unfold isiOk at hD
  unfold isiTop at hT
  simp only [Bool.and_eq_true, beq_iff_eq] at hD hT
  obtain ⟨⟨⟨h1, h2⟩, h3⟩, h4⟩ := hD
  exact kia_one (kitx_own (ox := instObj D d) (od := dictOf es j) h1 h2 h3 hT.1 hT.2 h4) (hA.wd O).X IA e (fun q => by cases q) fun tk => k _ _ h

-- lists that are turned
theorem T.methodL {a : Addr} {vs : List Value} {name : Str} {id : String} {pl : Sem Bool} {Q : Post (Value × List Value)} (S : SrcL g M a vs) (slot : Slot "list" name id) (hty : typeOf (.builtin id) = Pure.pure (.type "method_descriptor")) (h : Q (.builtin id, [.ref a]) g ρ M) :
    T prog w c (getMethod (.ref a) name pl) Q g ρ M := T.tok fun s hA R k => by
  obtain ⟨_, hl⟩ := S.at hA
  exact getMethod_builtin hl.isList.typeIs F.plainAttrs_list slot hty (fun b e => by cases e; exact ⟨_, hl, rfl⟩) (k _ s.toks h)
theorem Act.upd {P : Params} {s : Shared} {pre post : Mem} {d : Addr} {m₀ m₁ : MO} {f : Obj → Obj} {o : Obj} (A : Act P c g ρ (pre ++ (d, m₀) :: post) s.heap) (O : c.Ok K n) (ho : s.heap.get? d = some o) (hf : (f o).isFreed = false) (hr : m₁.rep P (f o)) :
    Act P c g ρ (pre ++ (d, m₁) :: post) (s.heap.update d f) := by
  refine A.turn O (fun a o' ha _ e => (Heap.get?_update_ne _ _ _ _ ha).trans e) ?_ ⟨_, Heap.get?_update_self _ ho hf, hr⟩
  obtain ⟨m, ⟨oL, es, ep, hL, r⟩, e⟩ := A.ns
  refine ⟨m, ⟨oL, es, ep, (Heap.get?_update_ne _ _ _ _ fun q => ?_).trans hL, r⟩, e⟩
  exact (List.nodup_append.mp A.nodup).2.2 _ O.loc d (by simp) q
theorem seq_upd {P : Params} {vs us : List Value} {j : Nat} {f : Array Value → Array Value} (hf : f vs.toArray = us.toArray) : (MO.list us).rep P (Obj.mapSeq f { cls := .type "list", data := .seq vs.toArray j }) :=
  ⟨if us.toArray.size == vs.toArray.size then j else j + 1, by rw [← hf]; rfl⟩
theorem T.appendL {a : Addr} {pre post : Mem} {vs : List Value} {v : Value} {Q : Post Value} (O : c.Ok K n) (hz : vs.length ≤ 1000) (h : Q .none g ρ (pre ++ (a, .list (vs ++ [v])) :: post)) :
    T prog w c (call (.builtin "list.append") [.ref a, v]) Q g ρ (pre ++ (a, .list vs) :: post) := fun s hA => by
  obtain ⟨_, hl, j, rfl⟩ := hA.mem (a, .list vs) (by simp)
  exact call_meets F.slot_list_append ⟨_, hl, rfl⟩ F.entry_list_append (F.args_list_append_2 _ _) (list_append a vs.toArray j v (by rw [List.size_toArray, sizeLine_eq]; omega))
    ⟨hl, ⟨g, ρ, _, hA.upd O hl rfl (seq_upd (by simp)), ⟨rfl, rfl, rfl⟩, .refl g, h⟩⟩
theorem T.extendL {a b : Addr} {pre post : Mem} {vs us : List Value} {Q : Post Value} (O : c.Ok K n) (S : SrcL g (pre ++ post) b us) (hz : vs.length + us.length ≤ 1000) (h : Q .none g ρ (pre ++ (a, .list (vs ++ us)) :: post)) :
    T prog w c (call (.builtin "list.extend") [.ref a, .ref b]) Q g ρ (pre ++ (a, .list vs) :: post) := fun s hA => by
  obtain ⟨_, hl, j, rfl⟩ := hA.mem (a, .list vs) (by simp)
  have S' : SrcL g (pre ++ (a, .list vs) :: post) b us := S.imp id fun hm => by
    rcases List.mem_append.mp hm with hm | hm
    · exact List.mem_append_left _ hm
    · exact List.mem_append_right _ (.tail _ hm)
  obtain ⟨j2, hb⟩ := S'.at hA
  exact call_meets F.slot_list_extend ⟨_, hl, rfl⟩ F.entry_list_extend (F.args_list_extend_2 _ _) (AutoSeq1.list_extend_list_list_0 a vs.toArray j b us.toArray j2
      (by simp only [List.size_toArray, Bool.and_eq_true, not_and]; intro _; unfold Builtin.List.listTooLong; have := sizeLine_eq; simp; omega) (by rw [List.size_toArray, sizeLine_eq]; omega) (by have := sizeLine_eq; simp only [List.size_toArray]; omega))
    ⟨hl, hb, ⟨g, ρ, _, hA.upd O hl rfl (seq_upd (by simp)), ⟨rfl, rfl, rfl⟩, .refl g, h⟩⟩
theorem T.popL {a : Addr} {pre post : Mem} {vs : List Value} {v : Value} {Q : Post Value} (O : c.Ok K n) (hz : vs.length ≤ 1000) (h : Q v g ρ (pre ++ (a, .list vs) :: post)) :
    T prog w c (call (.builtin "list.pop") [.ref a]) Q g ρ (pre ++ (a, .list (vs ++ [v])) :: post) := fun s hA => by
  obtain ⟨_, hl, j, rfl⟩ := hA.mem (a, .list (vs ++ [v])) (by simp)
  exact call_meets F.slot_list_pop ⟨_, hl, rfl⟩ F.entry_list_pop (F.args_list_pop_1 _) (MeetsSeq.list_pop_last a (vs ++ [v]).toArray j v (by simp) (by rw [List.size_toArray, sizeLine_eq, List.length_append, List.length_singleton]; omega))
    ⟨hl, ⟨g, ρ, _, hA.upd O hl rfl (seq_upd (by simp [Array.eraseIdxIfInBounds, List.eraseIdx_append_of_length_le])), ⟨rfl, rfl, rfl⟩, .refl g, h⟩⟩
theorem T.reverseL {a : Addr} {pre post : Mem} {vs : List Value} {Q : Post Value} (O : c.Ok K n) (hz : vs.length ≤ 1000) (h : Q .none g ρ (pre ++ (a, .list vs.reverse) :: post)) :
    T prog w c (call (.builtin "list.reverse") [.ref a]) Q g ρ (pre ++ (a, .list vs) :: post) := fun s hA => by
  obtain ⟨_, hl, j, rfl⟩ := hA.mem (a, .list vs) (by simp)
  exact call_meets F.slot_list_reverse ⟨_, hl, rfl⟩ F.entry_list_reverse (F.args_list_reverse_1 _) (AutoSeq1.list_reverse_list_0 a vs.toArray j (by rw [List.size_toArray, sizeLine_eq]; omega))
    ⟨hl, ⟨g, ρ, _, hA.upd O hl rfl (seq_upd (by simp)), ⟨rfl, rfl, rfl⟩, .refl g, h⟩⟩
/-- tuple(a list) -/
theorem T.tupleOf {a : Addr} {vs : List Value} {Q : Post Value} (S : SrcL g M a vs) (hz : vs.length ≤ 1000) (h : ∀ b, g b = none → Q (.ref b) (setG g b (.tup vs)) ρ M) : T prog w c (call (.type "tuple") [.ref a]) Q g ρ M :=
  T.push (m := .tup vs) (o := { cls := .type "tuple", data := .seq vs.toArray }) (f := .ref) rfl rfl (fun s hA R k => by
    obtain ⟨_, hl⟩ := S.at hA
    exact call_tuple_list hl.isList (fun h' x => k h' s.toks x) (by rw [List.size_toArray, sizeLine_eq]; omega)) h
theorem T.tupleSame {a : Addr} {vs : List Value} {Q : Post Value} (S : Tup g a vs) (h : Q (.ref a) g ρ M) : T prog w c (call (.type "tuple") [.ref a]) Q g ρ M := T.tok fun s hA R k =>
  call_tuple_same ⟨_, S.at hA, rfl, 0, rfl⟩ (k _ s.toks h)
/-- list + list -/
theorem T.addL {a b : Addr} {vs us : List Value} {Q : Post Value} (S : SrcL g M a vs) (S' : SrcL g M b us) (hz : vs.length + us.length ≤ 1000) (h : ∀ b, g b = none → Q (.ref b) (setG g b (.list (vs ++ us))) ρ M) : T prog w c (binaryOp .Add (.ref a) (.ref b)) Q g ρ M :=
  T.push (m := .list (vs ++ us)) (o := { cls := .type "list", data := .seq (vs ++ us).toArray }) (f := .ref) ⟨0, rfl⟩ rfl (fun s hA R k => by
    obtain ⟨_, hl⟩ := S.at hA
    obtain ⟨_, hl'⟩ := S'.at hA
    exact P.add_list hl hl' (by have := k s.heap s.toks (Ext.refl _); simpa using this) (by have := sizeLine_eq; simp only [List.size_toArray]; omega)) h
end
end Mine

namespace Mine

section
variable {prog : Program} {w : World} {α β : Type} {c : Cx} {g : G} {ρ : Str → Option Value} {M : Mem} {K : Frag} {n : Nat} {pos apos : Pos}

theorem Room.make {A : Around} (r : Room A (n + 1)) (C : Addr) (vs : List Value) (kw : List (Str × Value)) : Room (A.under (.builtin "type.__call__" ⟨.ref C :: vs, kw⟩)) n :=
  ⟨by have := r.depth; rw [depth_under_kw]; omega, by have := r.units; show A.units + 1 + 8 * n < _; omega, r.handled⟩

/-- an own class is called: its __init__ is entered with the new object's dict as what may be turned -/
theorem Pu.make {C fI : Addr} {fd : FuncData} {body : List Stmt} {oc : Value} {od : Option Addr} {osl : Array (Option Value)} {args : List Value} {kw : List (Str × Value)} {binds : Addr → List (Str × Value)} {Q : Value → G → Prop}
    (hm : makesIn K C = true) (hi : findIn K (.ref C) "__init__" = some (some (.ref fI))) (hf : typeIn K (.ref fI) = some (.type "function"))
    (hK : K.lookup fI = some ⟨oc, od, .func fd, osl⟩) (D : DefOk K fd) (hb : fd.body = .stmts body) (hbind : ∀ s x, K.In s.heap → BindsTo s fd ⟨.ref x :: args, kw⟩ (binds x))
    (hkind : ∀ x, ((binds x).all fun y => fd.scope.names.lookup y.1 == some .local || fd.scope.names.lookup y.1 == some .cell) = true)
    (h : ∀ (x d : Addr) (c : Cx), c.Ok K n → c.Own → c.env.scope.names = fd.scope.names → g x = none → g d = none → T prog w c (execs body c.env) (fun fl g' _ M' => retOf fl = .none ∧ ∃ kv, M' = [(d, .sd kv)] ∧
      ∀ g'', Le g' g'' → Inst g'' x C kv → Q (.ref x) g'') (setG g x (.inst C d)) (ofBinds (binds x)) [(d, .sd [])]) :
    Pu prog w K (n + 2) (call (.ref C) args kw) Q g := fun A s r wd sb => by
  obtain ⟨hh, gens, dr, t, os⟩ := s
  dsimp only at wd sb
  have X : K.In hh := wd.X
  have e1 : Ext hh ((hh.push emptyDict).push (instObj C hh.objs.size)) := fun b o e => Heap.get?_push_of_some _ (Heap.get?_push_of_some _ e)
  have nd : hh.get? hh.objs.size = none := by
    cases q : hh.get? hh.objs.size with
    | none => rfl
    | some o => exact absurd (Heap.lt_size q) (Nat.lt_irrefl _)
  have nx : hh.get? (hh.objs.size + 1) = none := by
    cases q : hh.get? (hh.objs.size + 1) with
    | none => rfl
    | some o => exact absurd (Heap.lt_size q) (Nat.not_lt.mpr (Nat.le_succ _))
  have gn : ∀ a, hh.get? a = none → g a = none := fun a ha => by
    cases q : g a with
    | none => rfl
    | some m => obtain ⟨o, ho, _⟩ := sb a m q; rw [ha] at ho; cases ho
  have hx : ((hh.push emptyDict).push (instObj C hh.objs.size)).get? (hh.objs.size + 1) = some (instObj C hh.objs.size) := by heap_get
  have hd : ((hh.push emptyDict).push (instObj C hh.objs.size)).get? hh.objs.size = some (dictOf [] 0) := Heap.get?_push_of_some _ (Heap.get?_push_size _ rfl)
  refine wpAny_call (make_core (makes_of X hm) (looks_findIn X hi) (fun self => bind_fn X self hf) (.inl rfl) ?_)
  refine codeAny_mono (enter (n := n) (R := fun v g' M' => v = .none ∧ ∃ kv, M' = [(hh.objs.size, .sd kv)] ∧ ∀ g'', Le g' g'' → Inst g'' (hh.objs.size + 1) C kv → Q (.ref (hh.objs.size + 1)) g'')
    (g := setG g (hh.objs.size + 1) (.inst C hh.objs.size)) (ge := g) (h₀ := hh) (M₀ := [(hh.objs.size, .sd [])]) (r.make C args kw) wd e1 ?_ ?_ ?_ ?_ ?_ hK D hb (hbind _ _ (X.keeps e1)) (hkind _) fun c O W e _ _ => h _ _ c O W e (gn _ nx) (gn _ nd)) fun r s' hr => ?_
  · intro a m e
    unfold setG at e
    split at e
    · rename_i q; subst q; cases e; exact ⟨_, hx, rfl⟩
    · obtain ⟨o, ho, hr⟩ := sb a m e; exact ⟨o, e1 _ _ ho, hr⟩
  · intro a m e
    unfold setG at e
    split at e
    · rename_i q; subst q; exact .inr nx
    · exact .inl e
  · intro p hp
    rw [List.mem_singleton.mp hp]
    exact ⟨_, hd, [], 0, rfl, .nil⟩
  · intro a ha
    rw [List.mem_singleton.mp ha]
    refine ⟨nd, ?_⟩
    unfold setG
    rw [if_neg (Nat.ne_of_lt (Nat.lt_succ_self _))]
    exact gn _ nd
  · exact List.nodup_cons.mpr ⟨(fun h => nomatch h), List.nodup_nil⟩
  · obtain ⟨v, g', M', rfl, o, rfl, kv, rfl, q⟩ := hr
    refine ⟨rfl, ?_⟩
    obtain ⟨od, hod, hrep⟩ := o.mem _ (.head _)
    have fr := o.fresh hh.objs.size (.head _)
    have l1 : Le g' (setG g' hh.objs.size (.sd kv)) := Le.setG fr.2
    have lg : Le g g' := (Le.setG (gn _ nx)).trans o.le
    refine ⟨o.ext, o.rest, _, lg.trans l1, fun a m e => ?_, fun a m e => ?_, q _ l1 ⟨hh.objs.size, l1 _ _ (o.le _ _ setG_self), setG_self⟩⟩
    · unfold setG at e
      split at e
      · rename_i z; subst z; cases e; exact ⟨od, hod, hrep⟩
      · exact o.know a m e
    · unfold setG at e
      split at e
      · rename_i z; subst z; exact .inr nd
      · exact o.old a m e

/-- an own class without an __init__ -/
theorem Pu.rule {tag : String} {Q : Unit → G → Prop} (h : Q () g) : Pu prog w K n (PySem.rule tag) Q g := Pu.tok fun A s _ _ _ R k => wpAny_rule (k _ s.toks h)
theorem Pu.isSame {x y C D : Addr} {kv kv' : List (Str × Value)} {Q : Bool → G → Prop} (I : Inst g x C kv) (J : Inst g y D kv') (h : Q (decide (x = y)) g) : Pu prog w K n (isSame (.ref x) (.ref y)) Q g := Pu.tok fun A s _ wd sb R k => by
  obtain ⟨_, _, _, _, _, Ix⟩ := I.at sb
  obtain ⟨_, _, _, _, _, Iy⟩ := J.at sb
  by_cases e : x = y
  · subst e
    exact wpAny_isSame_ref_self (k _ s.toks (by simpa using h))
  · exact wpAny_isSame_ref_other e Ix.at_ Iy.at_ (fun q => by cases q) (k _ s.toks (by simpa [e] using h))
theorem Pu.tryEq {x C f : Addr} {kv : List (Str × Value)} {b : Value} {Q : Option Value → G → Prop} (I : Inst g x C kv) (hs : findIn K (.ref C) "__eq__" = some (some (.ref f))) (hf : isFn K (.ref f) = true)
    (h : Pu prog w K n (call (.ref f) [.ref x, b]) (fun r g' => Q (if r = .notImplemented then none else some r) g') g) : Pu prog w K n (tryCompare (.ref x) "__eq__" b) Q g := fun A s r wd sb => by
  obtain ⟨d, es, j, he, hd, IA⟩ := I.at sb
  unfold tryCompare
  refine wpAny_bind (ifBound_K wd.X IA hs hf (wpAny_mono (h A s r wd sb) (fun v s' ⟨a, b, g', c, d, e, q⟩ => ?_) fun _ _ e => e))
  cases v <;> exact wpAny_pure ⟨a, b, g', c, d, e, q⟩
def eqFirst (K : Frag) (C D f : Addr) : Bool := (C == D || subIn K (.ref D) (.ref C) == some false) && findIn K (.ref C) "__eq__" == some (some (.ref f)) && isFn K (.ref f)
theorem Pu.eqInst {x y C D f f' : Addr} {kv kv' : List (Str × Value)} {Q : Value → G → Prop} (I : Inst g x C kv) (J : Inst g y D kv') (hf : eqFirst K C D f = true) (hf' : findIn K (.ref D) "__eq__" = some (some (.ref f'))) (hff : isFn K (.ref f') = true)
    (h : Pu prog w K (n + 1) (call (.ref f) [.ref x, .ref y]) (fun r g' => match r with
      | .notImplemented => Pu prog w K (n + 1) (call (.ref f') [.ref y, .ref x]) (fun r g'' => match r with | .notImplemented => Q (.bool (decide (x = y))) g'' | v => Q v g'') g'
      | v => Q v g') g) : Pu prog w K (n + 1) (compareOp .Eq (.ref x) (.ref y)) Q g := fun A s r wd sb => by
  unfold eqFirst at hf
  simp only [Bool.and_eq_true, beq_iff_eq, Bool.or_eq_true] at hf
  obtain ⟨⟨h1, h2⟩, h3⟩ := hf
  obtain ⟨d, es, j, he, hd, Ix⟩ := I.at sb
  obtain ⟨d', es', j', he', hd', Iy⟩ := J.at sb
  have X := wd.X
  show wpAny _ _ (richCompare .Eq (.ref x) (.ref y)) _ _ _
  have tail : wpAny (model prog w) A (do
      if let some v ← tryCompare (.ref x) "__eq__" (.ref y) then return v
      if !false then
        if let some v ← tryCompare (.ref y) "__eq__" (.ref x) then return v
      PySem.rule "compare.eq-identity"
      return Value.bool (← PySem.isSame (.ref x) (.ref y))) (fun r s' => Ext s.heap s'.heap ∧ Rest s s' ∧
        ∃ g', Le g g' ∧ Sub w.params g' s'.heap ∧ (∀ a m, g' a = some m → g a = some m ∨ s.heap.get? a = none) ∧ Q r g') (fun _ _ => False) s := by
    have z : Pu prog w K (n + 1) (do
      if let some v ← tryCompare (.ref x) "__eq__" (.ref y) then return v
      if !false then
        if let some v ← tryCompare (.ref y) "__eq__" (.ref x) then return v
      PySem.rule "compare.eq-identity"
      return Value.bool (← PySem.isSame (.ref x) (.ref y))) Q g := by
      refine Pu.bind (Pu.tryEq I h2 h3 (h.mono (Nat.le_refl _) fun r g' l q => ?_))
      by_cases hr : r = .notImplemented
      · subst hr
        rw [if_pos rfl]
        refine Pu.bind (Pu.tryEq (J.mono l) hf' hff (q.mono (Nat.le_refl _) fun r g'' l' q' => ?_))
        by_cases hr : r = .notImplemented
        · subst hr
          rw [if_pos rfl]
          exact Pu.bind (Pu.rule (Pu.bind (Pu.isSame (I.mono (l.trans l')) (J.mono (l.trans l')) (Pu.pure q'))))
        · rw [if_neg hr]
          refine Pu.pure ?_
          cases r <;> first | exact q' | exact absurd rfl hr
      · rw [if_neg hr]
        refine Pu.pure ?_
        cases r <;> first | exact q | exact absurd rfl hr
    exact z A s r wd sb
  unfold richCompare
  simp only [oneThing_ref]
  refine wpAny_holding (wpAny_bind (wpAny_cRoomFor (by have := r.units; omega) ?_))
  refine wpAny_bind (Ix.type.here (wpAny_bind (Iy.type.here ?_)))
  split
  · rename_i q
    rcases h1 with h1 | h1
    · subst h1; simp at q
    · refine wpAny_bind ((looks_subIn X h1).here ?_)
      exact tail
  · exact wpAny_bind (wpAny_pure tail)
end
end Mine

namespace Mine

theorem get_freed (h : Heap) (a : Addr) : (h.update a fun _ => { cls := .none, data := .freed }).get? a = none := by
  obtain ⟨objs, l⟩ := h
  simp only [Heap.update, Heap.get?, Array.getElem?_modify, if_true]
  cases objs[a]? <;> rfl
def hide (h : Heap) : List Addr → Heap
  | [] => h
  | a :: l => hide (h.update a fun _ => { cls := .none, data := .freed }) l
theorem get_hide : ∀ (l : List Addr) (h : Heap) (b : Addr), (hide h l).get? b = if b ∈ l then none else h.get? b
  | [], h, b => by simp [hide]
  | a :: l, h, b => by
    show (hide (h.update a _) l).get? b = _
    rw [get_hide l]
    by_cases q : b ∈ l
    · rw [if_pos q, if_pos (.tail _ q)]
    · rw [if_neg q]
      by_cases z : b = a
      · subst z; rw [if_pos (.head _)]; exact get_freed h b
      · rw [if_neg (by simp [z, q])]; exact Heap.get?_update_other h _ (Ne.symm z)
theorem hide_ext {h₀ h : Heap} {l : List Addr} (x : Ext h₀ h) (hl : ∀ a ∈ l, h₀.get? a = none) : Ext h₀ (hide h l) := fun a o e => by
  rw [get_hide, if_neg (fun q => by rw [hl a q] at e; cases e)]; exact x a o e
theorem ext_hide {h : Heap} {l : List Addr} : Ext (hide h l) h := fun a o e => by
  rw [get_hide] at e
  split at e
  · cases e
  · exact e

section
variable {prog : Program} {w : World} {α β : Type} {c : Cx} {g g' : G} {ρ ρ' : Str → Option Value} {M M' : Mem} {K : Frag} {n : Nat} {pos apos : Pos} {P : Params} {h h' : Heap}

/-- the context seen from the state that is reached -/
def Cx.re (c : Cx) (h : Heap) (M : Mem) (g : G) : Cx := { c with h₀ := hide h (c.own ++ M.map (·.1)), ge := g }
theorem Act.re_ext (A : Act P c g ρ M h) : Ext c.h₀ (c.re h M g).h₀ := hide_ext A.keep fun a ha => (A.fresh a ha).1
theorem Act.reOk (A : Act P c g ρ M h) (O : c.Ok K n) : (c.re h M g).Ok K n :=
  ⟨O.room, O.wd.ext A.re_ext, O.kind, O.globals, O.builtins, O.loc, O.cells, O.cellOf, O.freeOf, O.locOf, fun x a e => (O.cellIn x a e).imp id fun ⟨o, ho⟩ => ⟨o, A.re_ext _ _ ho⟩⟩
theorem Act.re (A : Act P c g ρ M h) : Act P (c.re h M g) g ρ M h :=
  ⟨ext_hide, A.know, fun _ _ e => .inl e, A.ns, A.cell, A.mem, fun a ha => ⟨by show (hide _ _).get? a = none; rw [get_hide]; exact if_pos ha, (A.fresh a ha).2⟩, A.nodup, A.live⟩
theorem Act.unre (A : Act P c g ρ M h) (A' : Act P (c.re h M g) g' ρ' M' h') : Act P c g' ρ' M' h' := by
  have x := A.re_ext
  refine ⟨x.trans A'.keep, A'.know, fun a m e => ?_, A'.ns, A'.cell, A'.mem, fun a ha => ⟨none_of_ext x (A'.fresh a ha).1, (A'.fresh a ha).2⟩, A'.nodup, A'.live⟩
  rcases A'.old a m e with e | e
  · exact A.old a m e
  · exact .inr (none_of_ext x e)
/-- what stands outside is kept -/
structure Kept (c : Cx) (g : G) (M : Mem) (h : Heap) (b : Addr) (o : Obj) : Prop where
  get : h.get? b = some o
  out : b ∉ c.own ++ M.map (·.1)
theorem Kept.re {b : Addr} {o : Obj} (k : Kept c g M h b o) : (c.re h M g).h₀.get? b = some o := by
  show (hide _ _).get? b = _
  rw [get_hide, if_neg k.out]; exact k.get
theorem Kept.after {b : Addr} {o : Obj} (k : Kept c g M h b o) (A' : Act P (c.re h M g) g' ρ' M' h') : Kept c g' M' h' b o :=
  ⟨A'.keep _ _ k.re, fun q => by have := (A'.fresh b q).1; rw [k.re] at this; cases this⟩
theorem Kept.noneAfter {b : Addr} {o : Obj} (k : Kept c g M h b o) (hg : g b = none) (A' : Act P (c.re h M g) g' ρ' M' h') : g' b = none := by
  cases q : g' b with
  | none => rfl
  | some m =>
    rcases A'.old b m q with e | e
    · exact absurd (show g b = some m from e) (by rw [hg]; exact fun e => nomatch e)
    · rw [k.re] at e; cases e
/-- objects that none knows of are turned -/
theorem Act.outside {wr : List Addr} (A : Act P c g ρ M h) (O : c.Ok K n) (hk : ∀ b o, b ∉ wr → h.get? b = some o → h'.get? b = some o) (hw : ∀ b ∈ wr, c.h₀.get? b = none ∧ g b = none ∧ b ∉ c.own ++ M.map (·.1)) : Act P c g ρ M h' := by
  have k1 : ∀ b o, (c.h₀.get? b = some o ∨ (∃ m, g b = some m) ∨ b ∈ c.own ++ M.map (·.1)) → ∀ o, h.get? b = some o → h'.get? b = some o := fun b o hb o' e => hk b o' (fun q => by
    rcases hb with hb | ⟨m, hb⟩ | hb
    · rw [(hw b q).1] at hb; cases hb
    · rw [(hw b q).2.1] at hb; cases hb
    · exact (hw b q).2.2 hb) e
  refine ⟨fun b o e => k1 b o (.inl e) o (A.keep b o e), fun b m e => ?_, A.old, ?_, fun x b e => ?_, fun p hp => ?_, A.fresh, A.nodup, fun b hb => ?_⟩
  · obtain ⟨o, ho, hr⟩ := A.know b m e
    exact ⟨o, k1 b o (.inr (.inl ⟨m, e⟩)) o ho, hr⟩
  · obtain ⟨m, hm, e⟩ := A.ns
    exact ⟨m, hm.at' fun o ho => k1 _ o (.inr (.inr (List.mem_append_left _ O.loc))) o ho, e⟩
  · obtain ⟨o, ho, hd⟩ := A.cell x b e
    refine ⟨o, ?_, hd⟩
    rcases O.cellIn x b e with q | ⟨o', q⟩
    · exact k1 b o (.inr (.inr (List.mem_append_left _ q))) o ho
    · exact k1 b o' (.inl q) o ho
  · obtain ⟨o, ho, hr⟩ := A.mem p hp
    exact ⟨o, k1 _ o (.inr (.inr (List.mem_append_right _ (List.mem_map_of_mem hp)))) o ho, hr⟩
  · obtain ⟨o, ho⟩ := A.live b hb
    exact ⟨o, k1 b o (.inr (.inr (List.mem_append_left _ hb))) o ho⟩

/-- what is walked over -/
structure Itr (prog : Program) (w : World) (A : Around) (target : Expr) (I : Addr) (fp wr : List Addr) (m : Nat) (P : Nat → Value → Heap → Prop) (St : Nat → Heap → Prop) : Prop where
  sub : ∀ b ∈ wr, b ∈ fp
  frame : ∀ i h h', St i h → (∀ b ∈ fp, ∀ o, h.get? b = some o → h'.get? b = some o) → St i h'
  live : ∀ i h, St i h → ∀ b ∈ fp, ∃ o, h.get? b = some o
  turn : ∀ i s, i < m → St i s.heap → wpAny (model prog w) A (pyNext (.ref I)) (fun r s₁ => ∃ v, r = some v ∧ wpAny (model prog w) A (letOwnedTupleGo target (.ref I) v) (fun _ s₂ => St (i + 1) s₂.heap ∧ Rest s s₂ ∧
    (∀ b o, b ∉ wr → s.heap.get? b = some o → s₂.heap.get? b = some o) ∧ ∀ h', (∀ T o, s.heap.get? T = none → s₂.heap.get? T = some o → h'.get? T = some o) → P i v h') (fun _ _ => False) s₁) (fun _ _ => False) s
  done : ∀ s, St m s.heap → wpAny (model prog w) A (pyNext (.ref I)) (fun r s₁ => r = none ∧ Rest s s₁ ∧ ∀ b o, b ∉ wr → s.heap.get? b = some o → s₁.heap.get? b = some o) (fun _ _ => False) s
  self : ∀ i s, St i s.heap → wpAny (model prog w) A (pyIter (.ref I)) (fun r s₁ => r = .ref I ∧ s₁ = s) (fun _ _ => False) s

theorem Itr.ofWalks {A : Around} {target : Expr} {I : Addr} {fp wr : List Addr} {m : Nat} {P : Nat → Value → Prop} {St : Nat → Heap → Prop} (W : Walks prog w A I fp wr m P St) (hl : ∀ i h, St i h → ∀ b ∈ fp, ∃ o, h.get? b = some o)
    (hgo : ∀ i v (s : Shared) (Q : Unit → Shared → Prop) (E : Value → Shared → Prop), St i s.heap → Q () s → wpAny (model prog w) A (letOwnedTupleGo target (.ref I) v) Q E s) : Itr prog w A target I fp wr m (fun i v _ => P i v) St where
  sub := W.sub
  frame := W.frame
  live := hl
  turn := fun i s hi st => W.item i s _ _ hi st fun v h' tk hP st' hk => ⟨v, rfl, hgo (i + 1) v _ _ _ st' ⟨st', ⟨rfl, rfl, rfl⟩, hk, fun _ _ => hP⟩⟩
  done := fun s st => W.done s _ _ st fun h' tk hk => ⟨rfl, ⟨rfl, rfl, rfl⟩, hk⟩
  self := fun i s st => W.self i s _ _ st ⟨rfl, rfl⟩
theorem Itr.ofWalksT {A : Around} {elts : List Expr} {k : Nat} {I : Addr} {fp wr : List Addr} {m : Nat} {Pt : Nat → Array Value → Prop} {St : Nat → Heap → Prop} {Mid : Nat → Addr → Heap → Prop} (W : WalksT prog w A I fp wr m Pt St Mid) (hl : ∀ i h, St i h → ∀ b ∈ fp, ∃ o, h.get? b = some o) :
    Itr prog w A (.Tuple elts k pos) I fp wr m (fun i v h => ∃ T vals, v = .ref T ∧ Pt i vals ∧ h.IsTuple T vals) St where
  sub := W.sub
  frame := W.frame
  live := hl
  turn := fun i s hi st => W.item i s _ _ hi st fun T vals h' tk hP hn hT hm hk => ⟨.ref T, rfl, W.go elts k pos i T _ _ _ hm fun h2 st2 hk2 =>
    ⟨st2, ⟨rfl, rfl, rfl⟩, fun b o hb e => hk2 b o hb (hk b o hb e), fun h3 x => ⟨T, vals, rfl, hP, hT.at fun o e => x T o (by
      cases q : s.heap.get? T with
      | none => rfl
      | some o => exact absurd (Heap.lt_size q) (Nat.not_lt.mpr hn)) (hk2 T o (W.apart i T _ hm) e)⟩⟩⟩
  done := fun s st => W.done s _ _ st fun h' tk hk => ⟨rfl, ⟨rfl, rfl, rfl⟩, hk⟩
  self := fun i s st => W.self i s _ _ st ⟨rfl, rfl⟩

/-- a value over which is walked: pyIter makes an iterator of it, out of what none else knows -/
def Seqs (prog : Program) (w : World) (c : Cx) (target : Expr) (xv : Value) (g : G) (ρ : Str → Option Value) (M : Mem) (k : Nat → (Nat → Value → Heap → Prop) → Mem → Prop) : Prop :=
  ∃ m P M', k m P M' ∧ ∀ s, Act w.params c g ρ M s.heap → wpAny (model prog w) c.A (pyIter xv) (fun it s' => ∃ I fp wr St, it = .ref I ∧ Itr prog w c.A target I fp wr m P St ∧ St 0 s'.heap ∧ Act w.params c g ρ M' s'.heap ∧ Rest s s' ∧
    (∀ b ∈ wr, c.h₀.get? b = none ∧ g b = none) ∧ ∀ b ∈ fp, b ∉ c.own ++ M'.map (·.1)) (fun _ _ => False) s
theorem Seqs.mono {target : Expr} {xv : Value} {k k' : Nat → (Nat → Value → Heap → Prop) → Mem → Prop} (h : Seqs prog w c target xv g ρ M k) (hk : ∀ m P M', k m P M' → k' m P M') : Seqs prog w c target xv g ρ M k' :=
  let ⟨m, P, M', a, b⟩ := h; ⟨m, P, M', hk _ _ _ a, b⟩

/-- one turn's state of a walk -/
structure Walking (prog : Program) (w : World) (c : Cx) (St : Nat → Heap → Prop) (fp wr : List Addr) (Inv : Nat → G → (Str → Option Value) → Mem → Prop) (g₀ : G) (s₀ : Shared) (m i : Nat) (s : Shared) : Prop where
  hi : i ≤ m
  st : St i s.heap
  rest : Rest s₀ s
  act : ∃ g ρ M, Act w.params c g ρ M s.heap ∧ Le g₀ g ∧ Inv i g ρ M ∧ (∀ b ∈ wr, c.h₀.get? b = none ∧ g b = none) ∧ ∀ b ∈ fp, b ∉ c.own ++ M.map (·.1)

theorem fresh_new {h : Heap} {b : Addr} (A : Act P c g ρ M h) (hb : h.get? b = none) : c.h₀.get? b = none ∧ g b = none ∧ b ∉ c.own ++ M.map (·.1) := by
  refine ⟨none_of_ext A.keep hb, ?_, fun q => ?_⟩
  · cases q : g b with
    | none => rfl
    | some m => obtain ⟨o, ho, _⟩ := A.know b m q; rw [hb] at ho; cases ho
  · rcases List.mem_append.mp q with q | q
    · obtain ⟨o, ho⟩ := A.live b q; rw [hb] at ho; cases ho
    · obtain ⟨p, hp, rfl⟩ := List.mem_map.mp q
      obtain ⟨o, ho, _⟩ := A.mem p hp; rw [hb] at ho; cases ho

/-- for: each turn is done in a context that stands where the turn begins -/
theorem T.for_ {target iter : Expr} {body : List Stmt} {l : List (Str × NameKind)} {Q : Post Flow} (O : c.Ok K n) (W : c.Own) (hS : c.env.scope.names = l) (hs : ∀ x, foldedSetIterable iter c.env x = Pure.pure x)
    (h : T prog w c (eval iter c.env) (fun xv g ρ M => Seqs prog w c target xv g ρ M fun m P M' => ∃ Inv : Nat → G → (Str → Option Value) → Mem → Prop, Inv 0 g ρ M' ∧
      (∀ c' : Cx, c'.Ok K n → c'.Own → c'.env.scope.names = l → ∀ i v g' ρ M, i < m → P i v c'.h₀ → Le g g' → Inv i g' ρ M → T prog w c' (assign target c'.env v) (fun _ g ρ M => T prog w c' (execs body c'.env) (fun fl g ρ M => match fl with
        | .next => Inv (i + 1) g ρ M | .cont => Inv (i + 1) g ρ M | .ret v => Q (.ret v) g ρ M | .brk => Q .next g ρ M) g ρ M) g' ρ M) ∧
      ∀ g' ρ M, Le g g' → Inv m g' ρ M → Q .next g' ρ M) g ρ M) :
    T prog w c (exec (.For target iter body [] pos) c.env) Q g ρ M := fun s hA => by
  refine wpAny_For (wpAny_mono (h s hA) (fun xv s₁ ⟨g₁, ρ₁, M₁, A₁, r₁, l₁, m, P, M', ⟨Inv, h0, step, fin⟩, hseq⟩ => ?_) fun _ _ e => e.elim) hs
  refine wpAny_mono (hseq s₁ A₁) (fun it s₂ ⟨I, fp, wr, St, e, W', st, A₂, r₂, hwr, hfp⟩ => ?_) fun _ _ e => e.elim
  subst e
  refine codeAny_mono (codeAny_forLoop_any (R := fun r s' => ∃ f, r = .ok f ∧ ∃ g' ρ' M', Act w.params c g' ρ' M' s'.heap ∧ Rest s₂ s' ∧ Le g₁ g' ∧ Q f g' ρ' M')
    (fun k s' => ∃ i, k = m + 1 - i ∧ Walking prog w c St fp wr Inv g₁ s₂ m i s') ?_ (m + 1) ⟨0, rfl, Nat.zero_le _, st, .refl _, g₁, ρ₁, M', A₂, .refl _, h0, hwr, hfp⟩) fun r s' ⟨f, e, g', ρ', M', A', rr, ll, q⟩ => ?_
  · rintro k s₃ ⟨i, rfl, hi, st₃, rs₃, g₃, ρ₃, M₃, A₃, l₃, inv, hwr₃, hfp₃⟩
    have hw : ∀ b ∈ wr, c.h₀.get? b = none ∧ g₃ b = none ∧ b ∉ c.own ++ M₃.map (·.1) := fun b hb => ⟨(hwr₃ b hb).1, (hwr₃ b hb).2, hfp₃ b (W'.sub b hb)⟩
    by_cases hlt : i < m
    · refine wpAny_mono (W'.turn i s₃ hlt st₃) (fun r s₄ ⟨v, e, hg⟩ => ?_) fun _ _ e => e.elim
      subst e
      refine wpAny_mono hg (fun _ s₅ ⟨st₅, r₅, hk₅, hP₅⟩ => ?_) fun _ _ e => e.elim
      have A₅ : Act w.params c g₃ ρ₃ M₃ s₅.heap := A₃.outside O hk₅ hw
      have kf : ∀ b ∈ fp, ∃ o, Kept c g₃ M₃ s₅.heap b o := fun b hb => let ⟨o, ho⟩ := W'.live _ _ st₅ b hb; ⟨o, ho, hfp₃ b hb⟩
      have hPre : P i v (c.re s₅.heap M₃ g₃).h₀ := hP₅ _ fun T o hn e => (⟨e, (fresh_new A₃ hn).2.2⟩ : Kept c g₃ M₃ s₅.heap T o).re
      have key := step (c.re s₅.heap M₃ g₃) (A₅.reOk O) W hS i v g₃ ρ₃ M₃ hlt hPre l₃ inv s₅ A₅.re
      refine wpAny_mono key (fun _ s₆ ⟨g₆, ρ₆, M₆, A₆, r₆, l₆, t⟩ => ?_) fun _ _ e => e.elim
      refine wpAny_mono (t s₆ A₆) (fun fl s₇ ⟨g₇, ρ₇, M₇, A₇, r₇, l₇, q⟩ => ?_) fun _ _ e => e.elim
      have B := A₅.unre A₇
      have rs : Rest s₂ s₇ := ((rs₃.trans r₅).trans r₆).trans r₇
      have ll : Le g₁ g₇ := l₃.trans (l₆.trans l₇)
      have again : Inv (i + 1) g₇ ρ₇ M₇ → ∃ j, j < m + 1 - i ∧ ∃ i, j = m + 1 - i ∧ Walking prog w c St fp wr Inv g₁ s₂ m i s₇ := fun q =>
        ⟨m + 1 - (i + 1), by omega, i + 1, rfl, hlt, W'.frame _ _ _ st₅ (fun b hb o e => by
          obtain ⟨o', k⟩ := kf b hb
          rw [k.get] at e; cases e
          exact (k.after A₇).get), rs, g₇, ρ₇, M₇, B, ll, q, fun b hb => ⟨(hwr₃ b hb).1, (kf b (W'.sub b hb)).elim fun o k => k.noneAfter (hwr₃ b hb).2 A₇⟩, fun b hb => (kf b hb).elim fun o k => (k.after A₇).out⟩
      cases fl with
      | next => exact again q
      | cont => exact again q
      | brk => exact ⟨_, rfl, g₇, ρ₇, M₇, B, rs, ll, q⟩
      | ret v => exact ⟨_, rfl, g₇, ρ₇, M₇, B, rs, ll, q⟩
    · have hin : i = m := by omega
      subst hin
      refine wpAny_mono (W'.done s₃ st₃) (fun r s₄ ⟨e, r₄, hk⟩ => ?_) fun _ _ e => e.elim
      subst e
      exact wpAny_execs_nil ⟨_, rfl, g₃, ρ₃, M₃, A₃.outside O hk hw, rs₃.trans r₄, l₃, fin g₃ ρ₃ M₃ l₃ inv⟩
  · subst e
    exact ⟨g', ρ', M', A', (r₁.trans r₂).trans rr, l₁.trans ll, q⟩
end
end Mine

namespace Mine

def relab (l names : List (Str × NameKind)) : List (Str × NameKind) := names.map fun p => if (p.2 == .free && l.lookup p.1 == some .cell) then (p.1, .cell) else (p.1, p.2)
theorem relab_lookup {l : List (Str × NameKind)} {x : Str} {k : NameKind} : ∀ {names : List (Str × NameKind)}, (relab l names).lookup x = some k → ∃ k', names.lookup x = some k' ∧ (k = k' ∨ (k' = .free ∧ k = .cell))
  | [], h => by cases h
  | (y, k₀) :: r, h => by
    have ih := @relab_lookup l x k r
    have e : relab l ((y, k₀) :: r) = (if (k₀ == .free && l.lookup y == some .cell) then (y, NameKind.cell) else (y, k₀)) :: relab l r := rfl
    rw [e] at h
    cases q : x == y with
    | true =>
      refine ⟨k₀, by rw [List.lookup_cons, q], ?_⟩
      split at h
      · rename_i z
        rw [List.lookup_cons, q] at h
        simp only [Bool.and_eq_true, beq_iff_eq] at z
        exact .inr ⟨z.1, (Option.some.inj h).symm⟩
      · rw [List.lookup_cons, q] at h
        exact .inl (Option.some.inj h).symm
    | false =>
      rw [List.lookup_cons, q]
      split at h <;> (rw [List.lookup_cons, q] at h; exact ih h)

theorem closure_go {env : Env} (f : Str × NameKind → List (Str × Addr) → Sem (ForInStep (List (Str × Addr)))) (hf : ∀ x k acc, f (x, k) acc = if (k == NameKind.free) = true then (do let a ← cellOf env x; pure (.yield ((x, a) :: acc))) else pure (.yield acc)) :
    ∀ (names : List (Str × NameKind)) (acc : List (Str × Addr)), (∀ x, (x, NameKind.free) ∈ names → ∃ a, env.cells.lookup x = some a) →
      ∃ cl, forIn names acc f = (pure cl : Sem _) ∧ (∀ x a, (x, a) ∈ cl → (x, a) ∈ acc ∨ ((x, NameKind.free) ∈ names ∧ env.cells.lookup x = some a)) ∧ ∀ x, ((x, NameKind.free) ∈ names ∨ ∃ a, (x, a) ∈ acc) → ∃ a, (x, a) ∈ cl
  | [], acc, _ => ⟨acc, by simp, fun _ _ h => .inl h, fun x h => h.elim (fun h => nomatch h) id⟩
  | (y, k) :: r, acc, h => by
    rw [List.forIn_cons, hf]
    by_cases hk : k = .free
    · subst hk
      obtain ⟨a, ha⟩ := h y (.head _)
      obtain ⟨cl, e, h1, h2⟩ := closure_go f hf r ((y, a) :: acc) fun x hx => h x (.tail _ hx)
      refine ⟨cl, ?_, fun x b hb => ?_, fun x hx => h2 x ?_⟩
      · rw [if_pos (by decide), cellOf, ha]
        exact e
      · rcases h1 x b hb with q | q
        · rcases List.mem_cons.mp q with q | q
          · cases q; exact .inr ⟨.head _, ha⟩
          · exact .inl q
        · exact .inr ⟨.tail _ q.1, q.2⟩
      · rcases hx with hx | ⟨b, hb⟩
        · rcases List.mem_cons.mp hx with q | q
          · cases q; exact .inr ⟨a, .head _⟩
          · exact .inl q
        · exact .inr ⟨b, .tail _ hb⟩
    · obtain ⟨cl, e, h1, h2⟩ := closure_go f hf r acc fun x hx => h x (.tail _ hx)
      refine ⟨cl, ?_, fun x b hb => (h1 x b hb).imp id fun q => ⟨.tail _ q.1, q.2⟩, fun x hx => h2 x ?_⟩
      · rw [if_neg (by simpa using hk)]
        exact e
      · refine hx.imp (fun hx => ?_) id
        rcases List.mem_cons.mp hx with q | q
        · cases q; exact absurd rfl hk
        · exact q
theorem closure_of {scope : Scope} {env : Env} (h : ∀ x, (x, NameKind.free) ∈ scope.names → ∃ a, env.cells.lookup x = some a) :
    ∃ cl, closureFor scope env = pure cl ∧ (∀ x a, cl.lookup x = some a → (x, NameKind.free) ∈ scope.names ∧ env.cells.lookup x = some a) ∧ ∀ x, (x, NameKind.free) ∈ scope.names → ∃ a, cl.lookup x = some a := by
  obtain ⟨cl, e, h1, h2⟩ := closure_go (env := env) (fun (p : Str × NameKind) acc => if (p.2 == NameKind.free) = true then (do let a ← cellOf env p.1; pure (.yield ((p.1, a) :: acc))) else pure (.yield acc)) (fun x k acc => rfl) scope.names [] h
  refine ⟨cl, ?_, fun x a ha => (h1 x a (mem_of_lookup ha)).elim (fun q => nomatch q) id, fun x hx => ?_⟩
  · have e' : closureFor scope env = (forIn scope.names [] fun (p : Str × NameKind) acc => if (p.2 == NameKind.free) = true then (do let a ← cellOf env p.1; pure (.yield ((p.1, a) :: acc))) else pure (.yield acc)) >>= fun r => pure r := by
      rfl
    rw [e', e]; rfl
  · obtain ⟨a, ha⟩ := h2 x (.inl hx)
    cases q : cl.lookup x with
    | some b => exact ⟨b, rfl⟩
    | none =>
      exfalso
      have : ∀ (l : List (Str × Addr)), (x, a) ∈ l → l.lookup x ≠ none := by
        intro l
        induction l with
        | nil => intro h; cases h
        | cons p r ih =>
          intro h
          obtain ⟨y, b⟩ := p
          rw [List.lookup_cons]
          cases z : x == y with
          | true => exact fun e => nomatch e
          | false =>
            rcases List.mem_cons.mp h with h | h
            · cases h; simp at z
            · exact ih h
      exact this cl ha q

def compOk (sc : Scope) : Bool := sc.kind == .function && (sc.names.all fun p => decide (p.2 ≠ .cell)) && decide (sc.names.map (·.1)).Nodup
def tests (ifs : List Expr) (env : Env) : Sem Bool := forIn ifs true fun c r => if r = true then do let ok ← isTrue c env (eval c env); pure (ForInStep.yield ok) else pure (ForInStep.yield r)

section
variable {prog : Program} {w : World} {α β : Type} {c : Cx} {g g' : G} {ρ ρ' : Str → Option Value} {M M' : Mem} {K : Frag} {n : Nat} {pos apos : Pos} {P : Params} {h h' : Heap} {l : List (Str × NameKind)}

theorem relabel_names (O : c.Ok K n) (hS : c.env.scope.names = l) (sc : Scope) : (relabel sc c.env).names = relab l sc.names := by
  unfold relabel relab
  simp only
  refine List.map_congr_left fun p _ => ?_
  obtain ⟨x, k⟩ := p
  have e1 : (c.env.scope.kind == ScopeKind.function) = true := by rw [O.kind]; rfl
  have e2 : c.env.kindOf x = l.lookup x := by rw [Env.kindOf, hS]
  simp only [e1, e2, Bool.and_true]

theorem T.tests_nil {Q : Post Bool} (h : Q true g ρ M) : T prog w c (tests [] c.env) Q g ρ M := T.pure h
theorem T.tests_one {e : Expr} {Q : Post Bool} (h : T prog w c (isTrue e c.env (eval e c.env)) Q g ρ M) : T prog w c (tests [e] c.env) Q g ρ M := fun s hA => wpAny_tests_one (h s hA)

def Cx.comp (c : Cx) (sc : Scope) (cl : List (Str × Addr)) (C : Addr) (h : Heap) (wr : List Addr) (M : Mem) (g : G) : Cx := ⟨c.A, compEnvC sc cl C c.env, [C], hide h (C :: wr ++ M.map (·.1)), g⟩
def cutR (l : List (Str × NameKind)) (ρ : Str → Option Value) : Str → Option Value := fun x => if (l.lookup x == some .local) = true then none else ρ x

structure CompIn (K : Frag) (n : Nat) (c : Cx) (sc : Scope) (cl : List (Str × Addr)) (C : Addr) (h : Heap) (wr : List Addr) (g : G) (M : Mem) (l : List (Str × NameKind)) : Prop where
  ok : c.Ok K n
  names : c.env.scope.names = l
  co : compOk sc = true
  cl1 : ∀ x a, cl.lookup x = some a → (x, NameKind.free) ∈ sc.names ∧ c.env.cells.lookup x = some a
  cl2 : ∀ x, (x, NameKind.free) ∈ sc.names → ∃ a, cl.lookup x = some a
  wr : ∀ b ∈ wr, c.h₀.get? b = none ∧ g b = none ∧ b ∉ c.own ++ M.map (·.1)
  C0 : c.h₀.get? C = none ∧ g C = none ∧ C ∉ c.own ++ M.map (·.1)
  ns : h.Ns C (fun _ => none)

section
variable {sc : Scope} {cl : List (Str × Addr)} {C : Addr} {wr : List Addr}
theorem CompIn.keep (I : CompIn K n c sc cl C h wr g M l) (A : Act P c g ρ M h) {b : Addr} {o : Obj} (e : h.get? b = some o) (hb : b ≠ C) (h2 : b ∉ wr) (h3 : b ∉ M.map (·.1)) : (c.comp sc cl C h wr M g).h₀.get? b = some o := by
  show (hide _ _).get? b = _
  rw [get_hide, if_neg ?_]
  · exact e
  · intro q
    rcases List.mem_append.mp q with q | q
    · rcases List.mem_cons.mp q with q | q
      · exact hb q
      · exact h2 q
    · exact h3 q
theorem CompIn.ext (I : CompIn K n c sc cl C h wr g M l) (A : Act P c g ρ M h) : Ext c.h₀ (c.comp sc cl C h wr M g).h₀ := fun b o e =>
  I.keep A (A.keep b o e) (fun q => by rw [q, I.C0.1] at e; cases e) (fun q => by rw [(I.wr b q).1] at e; cases e) fun q => by rw [(A.fresh b (List.mem_append_right _ q)).1] at e; cases e
theorem CompIn.own (I : CompIn K n c sc cl C h wr g M l) (A : Act P c g ρ M h) {a : Addr} (ha : a ∈ c.own) : ∃ o, h.get? a = some o ∧ (c.comp sc cl C h wr M g).h₀.get? a = some o := by
  obtain ⟨o, ho⟩ := A.live a ha
  exact ⟨o, ho, I.keep A ho (fun q => I.C0.2.2 (q ▸ List.mem_append_left _ ha)) (fun q => (I.wr a q).2.2 (List.mem_append_left _ ha)) fun q => (List.nodup_append.mp A.nodup).2.2 a ha a q rfl⟩
theorem CompIn.cell (I : CompIn K n c sc cl C h wr g M l) (A : Act P c g ρ M h) {x : Str} {a : Addr} (e : c.env.cells.lookup x = some a) : ∃ o, h.get? a = some o ∧ (c.comp sc cl C h wr M g).h₀.get? a = some o := by
  rcases I.ok.cellIn x a e with q | ⟨o, q⟩
  · exact I.own A q
  · exact ⟨o, A.keep a o q, I.ext A a o q⟩
theorem CompIn.kinds (I : CompIn K n c sc cl C h wr g M l) : (c.comp sc cl C h wr M g).env.scope.names = relab l sc.names := relabel_names I.ok I.names sc
theorem CompIn.nd (I : CompIn K n c sc cl C h wr g M l) : sc.kind = .function ∧ (∀ y ∈ sc.names, y.2 ≠ .cell) ∧ (sc.names.map (·.1)).Nodup := by
  have := I.co
  unfold compOk at this
  simp only [Bool.and_eq_true, beq_iff_eq, List.all_eq_true, decide_eq_true_eq] at this
  exact ⟨this.1.1, this.1.2, this.2⟩
theorem CompIn.freeIn (I : CompIn K n c sc cl C h wr g M l) {x : Str} {k : NameKind} (e : (c.comp sc cl C h wr M g).env.kindOf x = some k) : ∃ k', (x, k') ∈ sc.names ∧ (k = k' ∨ (k' = .free ∧ k = .cell)) := by
  rw [Env.kindOf, I.kinds] at e
  obtain ⟨k', a, b⟩ := relab_lookup e
  exact ⟨k', mem_of_lookup a, b⟩
theorem CompIn.Ok (I : CompIn K n c sc cl C h wr g M l) (A : Act P c g ρ M h) : (c.comp sc cl C h wr M g).Ok K n where
  room := I.ok.room
  wd := I.ok.wd.ext (I.ext A)
  kind := I.nd.1
  globals := I.ok.globals
  builtins := I.ok.builtins
  loc := .head _
  cells := fun x a e => by
    have ea := (I.cl1 x a e).2
    refine ⟨fun q => ?_, fun y b e' hy => ?_⟩
    · have q' : a = C := q
      rcases I.ok.cellIn x a ea with z | ⟨o, z⟩
      · exact I.C0.2.2 (q' ▸ List.mem_append_left _ z)
      · rw [q', I.C0.1] at z; cases z
    · exact (I.ok.cells x a ea).2 y b (I.cl1 y b e').2 hy
  cellOf := fun x e => by
    obtain ⟨k', hm, hk⟩ := I.freeIn e
    rcases hk with rfl | ⟨rfl, _⟩
    · exact absurd rfl (I.nd.2.1 _ hm)
    · exact I.cl2 x hm
  freeOf := fun x e => by
    obtain ⟨k', hm, hk⟩ := I.freeIn e
    rcases hk with rfl | ⟨_, hk⟩
    · exact I.cl2 x hm
    · cases hk
  locOf := fun x e => by
    obtain ⟨k', hm, hk⟩ := I.freeIn e
    rcases hk with rfl | ⟨_, hk⟩
    · cases q : cl.lookup x with
      | none => exact q
      | some a =>
        have := (I.cl1 x a q).1
        have e1 := kind_mem I.nd.2.2 hm
        have e2 := kind_mem I.nd.2.2 this
        rw [e1] at e2; cases e2
    · cases hk
  cellIn := fun x a e => .inr (let ⟨o, _, z⟩ := I.cell A (I.cl1 x a e).2; ⟨o, z⟩)
theorem CompIn.act (I : CompIn K n c sc cl C h wr g M l) (A : Act P c g ρ M h) : Act P (c.comp sc cl C h wr M g) g (cutR (relab l sc.names) ρ) M h where
  keep := ext_hide
  know := A.know
  old := fun _ _ e => .inl e
  ns := ⟨_, I.ns, fun x e => by
    have e' : (relab l sc.names).lookup x = some .local := by rw [← I.kinds]; exact e
    unfold cutR
    rw [e']; rfl⟩
  cell := fun x a e => by
    have := A.cell x a (I.cl1 x a e).2
    unfold cutR
    rw [if_neg ?_]
    · exact this
    · intro q
      have e' : (c.comp sc cl C h wr M g).env.kindOf x = some .local := by rw [Env.kindOf, I.kinds]; simpa using q
      have := (I.Ok A).locOf x e'
      rw [show (c.comp sc cl C h wr M g).env.cells.lookup x = some a from e] at this; cases this
  mem := A.mem
  fresh := fun a ha => by
    refine ⟨?_, ?_⟩
    · show (hide _ _).get? a = none
      rw [get_hide, if_pos ?_]
      rcases List.mem_append.mp ha with q | q
      · rw [List.mem_singleton.mp q]; exact .head _
      · exact List.mem_append_right _ q
    · rcases List.mem_append.mp ha with q | q
      · rw [List.mem_singleton.mp q]; exact I.C0.2.1
      · exact (A.fresh a (List.mem_append_right _ q)).2
  nodup := List.nodup_cons.mpr ⟨fun q => I.C0.2.2 (List.mem_append_right _ q), (List.nodup_append.mp A.nodup).2.1⟩
  live := fun a ha => by
    rw [List.mem_singleton.mp ha]
    obtain ⟨o, _, _, ho, _⟩ := I.ns
    exact ⟨o, ho⟩
theorem CompIn.back (I : CompIn K n c sc cl C h wr g M l) (A : Act P c g ρ M h) (A' : Act P (c.comp sc cl C h wr M g) g' ρ' M' h') : Act P c g' ρ M' h' where
  keep := (I.ext A).trans A'.keep
  know := A'.know
  old := fun a m e => by
    rcases A'.old a m e with e | e
    · exact A.old a m e
    · exact .inr (none_of_ext (I.ext A) e)
  ns := by
    obtain ⟨m, hm, e⟩ := A.ns
    refine ⟨m, hm.at' fun o ho => ?_, e⟩
    obtain ⟨o', ho', z⟩ := I.own A I.ok.loc
    rw [ho] at ho'; cases ho'
    exact A'.keep _ _ z
  cell := fun x a e => by
    obtain ⟨o, ho, hd⟩ := A.cell x a e
    obtain ⟨o', ho', z⟩ := I.cell A e
    rw [ho] at ho'; cases ho'
    exact ⟨o, A'.keep _ _ z, hd⟩
  mem := A'.mem
  fresh := fun a ha => by
    rcases List.mem_append.mp ha with q | q
    · refine ⟨(A.fresh a (List.mem_append_left _ q)).1, ?_⟩
      obtain ⟨o, _, z⟩ := I.own A q
      cases y : g' a with
      | none => rfl
      | some m =>
        rcases A'.old a m y with e | e
        · rw [show (c.comp sc cl C h wr M g).ge a = g a from rfl, (A.fresh a (List.mem_append_left _ q)).2] at e; cases e
        · rw [z] at e; cases e
    · have := A'.fresh a (List.mem_append_right _ q)
      exact ⟨none_of_ext (I.ext A) this.1, this.2⟩
  nodup := by
    refine List.nodup_append.mpr ⟨(List.nodup_append.mp A.nodup).1, (List.nodup_append.mp A'.nodup).2.1, fun a ha b hb q => ?_⟩
    obtain ⟨o, _, z⟩ := I.own A ha
    have := (A'.fresh b (List.mem_append_right _ hb)).1
    rw [← q, z] at this; cases this
  live := fun a ha => let ⟨o, _, z⟩ := I.own A ha; ⟨o, A'.keep _ _ z⟩
/-- names that are no variable of the comprehension keep their value -/
theorem CompIn.recut (I : CompIn K n c sc cl C h wr g M l) (A : Act P c g ρ M h) (A' : Act P (c.comp sc cl C h wr M g) g' ρ' M' h') :
    Act P (c.comp sc cl C h wr M g) g' (fun x => if ((relab l sc.names).lookup x == some .local) = true then ρ' x else ρ x) M' h' where
  keep := A'.keep
  know := A'.know
  old := A'.old
  ns := by
    obtain ⟨m, hm, e⟩ := A'.ns
    refine ⟨m, hm, fun x hx => ?_⟩
    have : (relab l sc.names).lookup x = some .local := by rw [← I.kinds]; exact hx
    rw [this]
    exact e x hx
  cell := fun x a e => by
    have := (I.back A A').cell x a (I.cl1 x a e).2
    rw [if_neg ?_]
    · exact this
    · intro q
      have e' : (c.comp sc cl C h wr M g).env.kindOf x = some .local := by rw [Env.kindOf, I.kinds]; simpa using q
      have := (I.Ok A).locOf x e'
      rw [show (c.comp sc cl C h wr M g).env.cells.lookup x = some a from e] at this; cases this
  mem := A'.mem
  fresh := A'.fresh
  nodup := A'.nodup
  live := A'.live
end
end
end Mine

namespace Mine

section
variable {prog : Program} {w : World} {A : Around} {R : Result → Shared → Prop} {s : Shared}

def isComp : Expr → Bool | .ListComp .. => true | .DictComp .. => true | _ => false
theorem codeAny_compStartG {e : Expr} {gc : Comprehension} {it acc : Value} {env : Env} (he : isComp e = true) (hcl : clausesOf e = [gc]) (ha : gc.is_async = 0) (h0 : codeAny (model prog w) A (.compLoop e 0 it acc env) R s)
    (h : wpAny (model prog w) A (pyIter it) (fun it' s' => codeAny (model prog w) A (.compLoop e 0 it' acc env) R s') (fun _ _ => False) s) :
    codeAny (model prog w) A (.compStart e 0 it acc env) R s := by
  refine codeAny_of_tree ?_
  have hd : (model prog w).den (.compStart e 0 it acc env) = (compStart e 0 it acc env).onRaise (fun x => do noteFrame x env; standAt theWindowsPlace) := by cases e <;> first | rfl | cases he
  have hu : A.under (.compStart e 0 it acc env) = A := by cases e <;> first | rfl | cases he
  rw [hd, hu]
  refine wpAny_notedAt ?_
  unfold compStart
  rw [hcl]
  have e1 : ((([gc] : List Comprehension)[0]?).elim false (·.is_async != 0)) = false := by show (gc.is_async != 0) = false; rw [ha]; rfl
  rw [e1]
  show wpAny _ A (ask >>= _) _ _ s
  refine wpAny_bind (wpAny_askSetting (wpAny_ite ?_))
  split
  · exact wpAny_pure (And.intro rfl h0)
  · refine wpAny_bind (wpAny_rule ?_)
    show wpAny _ _ (standAt gc.iter.pos >>= _) _ _ s
    exact wpAny_bind (wpAny_standAt (wpAny_bind (wpAny_mono h (fun it' s' h' => wpAny_pure (And.intro rfl h')) fun _ _ x => x.elim)))

theorem codeAny_compLoopG {e target iter : Expr} {ifs : List Expr} {emit : Sem Unit} {it acc : Value} {env : Env}
    (he : isComp e = true) (hturn : compTurn e 0 it acc env = (standAt iter.pos >>= fun _ => pyNext it >>= fun r => match r with
      | none => pure (.done .next)
      | some v => letOwnedTupleGo target it v >>= fun _ => assign target env v >>= fun _ => tests ifs env >>= fun ok => (if ok = true then emit else pure ()) >>= fun _ => again (.compLoop e 0 it acc env)))
    (I : Nat → Shared → Prop)
    (turn : ∀ n s, I n s → wpAny (model prog w) A (pyNext it) (fun r s₁ => match r with
      | none => R (.ok .next) s₁
      | some v => wpAny (model prog w) A (letOwnedTupleGo target it v) (fun _ s₁' => wpAny (model prog w) A (assign target env v) (fun _ s₂ => wpAny (model prog w) A (tests ifs env) (fun ok s₃ =>
            if ok = true then wpAny (model prog w) A emit (fun _ s₅ => ∃ m, m < n ∧ I m s₅) (fun _ _ => False) s₃ else ∃ m, m < n ∧ I m s₃) (fun _ _ => False) s₂) (fun _ _ => False) s₁') (fun _ _ => False) s₁) (fun _ _ => False) s)
    (n : Nat) (h : I n s) : codeAny (model prog w) A (.compLoop e 0 it acc env) R s := by
  refine codeAny_loop rfl I (fun n s hI => ?_) n h
  have hd : (model prog w).den (.compLoop e 0 it acc env) = (compTurn e 0 it acc env).onRaise (fun x => do noteFrame x env; theTreesLotGoes x) := by cases e <;> first | rfl | cases he
  have hu : A.under (.compLoop e 0 it acc env) = A := by cases e <;> first | rfl | cases he
  rw [hd, hu]
  refine wpAny_noted ?_
  rw [hturn]
  refine wpAny_bind (wpAny_standAt (wpAny_bind (wpAny_mono (turn n s hI) (fun r s₁ h₁ => ?_) fun _ _ h' => h'.elim)))
  cases r with
  | none => exact wpAny_pure h₁
  | some v =>
    refine wpAny_bind (wpAny_mono h₁ (fun _ s₁' h₁' => ?_) fun _ _ h' => h'.elim)
    refine wpAny_bind (wpAny_mono h₁' (fun _ s₂ h₂ => wpAny_bind (wpAny_mono h₂ (fun ok s₃ h₃ => ?_) fun _ _ h' => h'.elim)) fun _ _ h' => h'.elim)
    cases ok with
    | false => exact wpAny_bind (wpAny_pure (wpAny_pure ⟨rfl, h₃⟩))
    | true => exact wpAny_bind (wpAny_mono h₃ (fun _ s₅ h₅ => wpAny_pure ⟨rfl, h₅⟩) fun _ _ h' => h'.elim)
end

section
variable {prog : Program} {w : World} {α β : Type} {c : Cx} {g g' : G} {ρ ρ' : Str → Option Value} {M M' : Mem} {K : Frag} {n : Nat} {pos apos : Pos} {P : Params} {h h' : Heap} {l : List (Str × NameKind)}

theorem Act.ext (A : Act P c g ρ M h) (x : Ext h h') : Act P c g ρ M h' :=
  ⟨A.keep.trans x, A.know.ext x, A.old, let ⟨m, a, b⟩ := A.ns; ⟨m, a.keeps x, b⟩, fun y a e => (A.cell y a e).keeps x, fun p hp => let ⟨o, a, b⟩ := A.mem p hp; ⟨o, x _ _ a, b⟩, A.fresh, A.nodup, fun a ha => let ⟨o, b⟩ := A.live a ha; ⟨o, x _ _ b⟩⟩

def freeOk (l names : List (Str × NameKind)) : Bool := names.all fun p => p.2 != .free || (l.lookup p.1 == some .cell || l.lookup p.1 == some .free)

def UseK (prog : Program) (w : World) (K : Frag) (n : Nat) (l : List (Str × NameKind)) (use : Option (Env → Value → Sem Unit)) (Q : Post Value) (D : Addr) (g : G) (ρ : Str → Option Value) (M : Mem) : Prop := match use with
  | none => Q (.ref D) g ρ M
  | some u => ∀ c' : Cx, c'.Ok K n → c'.Own → c'.env.scope.names = l → T prog w c' (u c'.env (.ref D)) (fun _ g ρ M => Q .none g ρ M) g ρ M
theorem T.compU {e target iter : Expr} {ifs : List Expr} {sc : Scope} {emit : Value → Env → Sem Unit} {newAcc : Sem Value} {use : Option (Env → Value → Sem Unit)} {m₀ : MO} {PD : Addr → Prop} {Q : Post Value}
    (O : c.Ok K n) (hW : use.isSome = true → c.Own) (hS : c.env.scope.names = l) (he : isComp e = true) (hcl : clausesOf e = [⟨target, iter, ifs, 0⟩])
    (hturn : ∀ it D env, compTurn e 0 it (.ref D) env = (PySem.standAt iter.pos >>= fun _ => pyNext it >>= fun r => match r with
      | none => Pure.pure (.done .next)
      | some v => letOwnedTupleGo target it v >>= fun _ => assign target env v >>= fun _ => tests ifs env >>= fun ok => (if ok = true then emit (.ref D) env else Pure.pure ()) >>= fun _ => again (.compLoop e 0 it (.ref D) env)))
    (hsc : compOk sc = true) (hfr : freeOk l sc.names = true) (hs : ∀ x, foldedSetIterable iter c.env x = Pure.pure x)
    (hnew : ∀ (c : Cx) (Q : Post Value) g ρ M, c.Ok K n → (∀ D, PD D → Q (.ref D) g ρ ((D, m₀) :: M)) → T prog w c newAcc Q g ρ M)
    (h : T prog w c (eval iter c.env) (fun xv g ρ M => Seqs prog w c target xv g ρ M fun m P M' => ∀ D, PD D → ∃ Inv : Nat → G → Mem → Prop, Inv 0 g ((D, m₀) :: M') ∧
      (∀ c' : Cx, c'.Ok K n → c'.env.scope.names = relab l sc.names → ∀ i v g' ρ' M, i < m → P i v c'.h₀ → Le g g' → (∀ x, ((relab l sc.names).lookup x == some .local) = false → ρ' x = ρ x) → Inv i g' M →
        T prog w c' (assign target c'.env v) (fun _ g ρ M => T prog w c' (tests ifs c'.env) (fun b g ρ M => IfK b (T prog w c' (emit (.ref D) c'.env) (fun _ g ρ M => Inv (i + 1) g M) g ρ M) (Inv (i + 1) g M)) g ρ M) g' ρ' M) ∧
      ∀ g' M, Le g g' → Inv m g' M → UseK prog w K n l use Q D g' ρ M) g ρ M) :
    T prog w c (comprehension e sc c.env pos newAcc false (eval iter c.env) (use.map fun u => u c.env)) Q g ρ M := fun s hA => by
  have hfree : ∀ x, (x, NameKind.free) ∈ sc.names → ∃ a, c.env.cells.lookup x = some a := fun x hx => by
    have := List.all_eq_true.mp hfr _ hx
    simp only [bne_self_eq_false, Bool.false_or, Bool.or_eq_true, beq_iff_eq] at this
    rcases this with q | q
    · exact O.cellOf x (kind_of hS q)
    · exact O.freeOf x (kind_of hS q)
  obtain ⟨cl, hclos, cl1, cl2⟩ := closure_of (scope := sc) (env := c.env) hfree
  have hsc' := hsc
  unfold compOk at hsc'
  simp only [Bool.and_eq_true, beq_iff_eq, List.all_eq_true, decide_eq_true_eq] at hsc'
  obtain ⟨⟨hkind, hcell⟩, hnd⟩ := hsc'
  refine wpAny_comprehension_free hcl hs hclos hkind (fun x hx e => kind_mem hnd (by rw [← e]; exact hx)) (wpAny_mono (h s hA) (fun xv s₁ ⟨g₁, ρ₁, M₁, A₁, r₁, l₁, m, P, M', hk, hseq⟩ => ?_) fun _ _ e => e.elim)
  refine wpAny_mono (hseq s₁ A₁) (fun it s₂ ⟨I, fp, wr, St, e', W', st, A₂, r₂, hwr, hfp⟩ => ?_) fun _ _ e => e.elim
  subst e'
  have kf₂ : ∀ b ∈ fp, ∃ o, Kept c g₁ M' s₂.heap b o := fun b hb => let ⟨o, ho⟩ := W'.live _ _ st b hb; ⟨o, ho, hfp b hb⟩
  have key := hnew (c.re s₂.heap M' g₁) (fun r g ρ M => ∃ D, r = .ref D ∧ g = g₁ ∧ ρ = ρ₁ ∧ M = (D, m₀) :: M' ∧ PD D) g₁ ρ₁ M' (A₂.reOk O) (fun D hD => ⟨D, rfl, rfl, rfl, rfl, hD⟩) s₂ A₂.re
  refine wpAny_mono key (fun acc s₃ ⟨g₃, ρ₃, M₃, A₃, r₃, l₃, D, e1, e2, e3, e4, hPD⟩ => ?_) fun _ _ e => e.elim
  subst e1; subst e2; subst e3; subst e4
  have B₃ := A₂.unre A₃
  have kf₃ : ∀ b ∈ fp, ∃ o, Kept c g₃ ((D, m₀) :: M') s₃.heap b o ∧ s₂.heap.get? b = some o := fun b hb => let ⟨o, k⟩ := kf₂ b hb; ⟨o, k.after A₃, k.get⟩
  have hwr₃ : ∀ b ∈ wr, c.h₀.get? b = none ∧ g₃ b = none ∧ b ∉ c.own ++ ((D, m₀) :: M').map (·.1) := fun b hb => ⟨(hwr b hb).1, (hwr b hb).2, (kf₃ b (W'.sub b hb)).elim fun o k => k.1.out⟩
  refine wpAny_newFunctionEnv hcell (fun x hx => nomatch hx) (fun h₁ hns hsb => ?_) hkind
  have hC : s₃.heap.get? s₃.heap.objs.size = none := by
    cases q : s₃.heap.get? s₃.heap.objs.size with
    | none => rfl
    | some o => exact absurd (Heap.lt_size q) (Nat.lt_irrefl _)
  have x₁ : Ext s₃.heap h₁ := fun b o e => (hsb.2 b fun q => by rw [q, hC] at e; cases e).trans (Heap.get?_push_of_some _ e)
  have B₄ : Act w.params c g₃ ρ₃ ((D, m₀) :: M') h₁ := B₃.ext x₁
  have CI : CompIn K n c sc cl s₃.heap.objs.size h₁ wr g₃ ((D, m₀) :: M') l := ⟨O, hS, hsc, cl1, cl2, hwr₃, fresh_new B₃ hC, hns⟩
  generalize s₃.heap.objs.size = C at CI hC
  show codeAny (model prog w) c.A (.compStart e 0 (.ref I) (.ref D) (compEnvC sc cl C c.env)) (compPost (model prog w) c.A (fun _ _ => False) (use.map fun u => u c.env) _ (.ref D) C) _
  obtain ⟨Inv, h0, step, fin⟩ := hk D hPD
  have nofp : ∀ b ∈ fp, b ∉ [C] ++ ((D, m₀) :: M').map (·.1) := fun b hb q => by
    obtain ⟨o, k, _⟩ := kf₃ b hb
    rcases List.mem_append.mp q with q | q
    · have := k.get; rw [List.mem_singleton.mp q, hC] at this; cases this
    · exact k.out (List.mem_append_right _ q)
  have nowr : ∀ b ∈ wr, (c.comp sc cl C h₁ wr ((D, m₀) :: M') g₃).h₀.get? b = none := fun b hb => by
    show (hide _ _).get? b = none
    rw [get_hide, if_pos (List.mem_append_left _ (.tail _ hb))]
  have A₄ := CI.act B₄
  have O₄ := CI.Ok B₄
  have loop : codeAny (model prog w) c.A (.compLoop e 0 (.ref I) (.ref D) (compEnvC sc cl C c.env)) (compPost (model prog w) c.A (fun _ _ => False) (use.map fun u => u c.env) (fun r s' => ∃ g' ρ' M', Act w.params c g' ρ' M' s'.heap ∧ Rest s s' ∧ Le g g' ∧ Q r g' ρ' M') (.ref D) C)
      ({ s₃ with heap := h₁, toks := s₃.toks + ([] : List (Str × Value)).length } : Shared) := by
    refine codeAny_compLoopG he (hturn (.ref I) D _)
      (fun k s' => ∃ i, k = m + 1 - i ∧ Walking prog w (c.comp sc cl C h₁ wr ((D, m₀) :: M') g₃) St fp wr (fun i g ρ M => (∀ x, ((relab l sc.names).lookup x == some .local) = false → ρ x = ρ₃ x) ∧ Inv i g M) g₃ s₂ m i s') ?_ (m + 1)
      ⟨0, rfl, Nat.zero_le _, W'.frame _ _ _ st (fun b hb o e => by obtain ⟨o', k, e'⟩ := kf₃ b hb; rw [e'] at e; cases e; exact x₁ _ _ k.get), ⟨r₃.1, r₃.2.1, r₃.2.2⟩, g₃, _, _, A₄, .refl _, ⟨fun x hx => by unfold cutR; rw [if_neg (by rw [hx]; exact Bool.false_ne_true)], h0⟩, fun b hb => ⟨nowr b hb, (hwr₃ b hb).2.1⟩, nofp⟩
    rintro k s₅ ⟨i, rfl, hi, st₅, rs₅, g₅, ρ₅, M₅, A₅, l₅, ⟨hρ, inv⟩, hwr₅, hfp₅⟩
    have hw : ∀ b ∈ wr, (c.comp sc cl C h₁ wr ((D, m₀) :: M') g₃).h₀.get? b = none ∧ g₅ b = none ∧ b ∉ (c.comp sc cl C h₁ wr ((D, m₀) :: M') g₃).own ++ M₅.map (·.1) := fun b hb => ⟨(hwr₅ b hb).1, (hwr₅ b hb).2, hfp₅ b (W'.sub b hb)⟩
    by_cases hlt : i < m
    · refine wpAny_mono (W'.turn i s₅ hlt st₅) (fun r s₆ ⟨v, e, hg⟩ => ?_) fun _ _ e => e.elim
      subst e
      refine wpAny_mono hg (fun _ s₇ ⟨st₇, r₇, hk₇, hP₇⟩ => ?_) fun _ _ e => e.elim
      have A₇ := A₅.outside O₄ hk₇ hw
      have kf : ∀ b ∈ fp, ∃ o, Kept (c.comp sc cl C h₁ wr ((D, m₀) :: M') g₃) g₅ M₅ s₇.heap b o := fun b hb => let ⟨o, ho⟩ := W'.live _ _ st₇ b hb; ⟨o, ho, hfp₅ b hb⟩
      have hPre : P i v ((c.comp sc cl C h₁ wr ((D, m₀) :: M') g₃).re s₇.heap M₅ g₅).h₀ := hP₇ _ fun T o hn e => (⟨e, (fresh_new A₅ hn).2.2⟩ : Kept (c.comp sc cl C h₁ wr ((D, m₀) :: M') g₃) g₅ M₅ s₇.heap T o).re
      have again : ∀ (s₈ : Shared) g₈ ρ₈ M₈, Act w.params ((c.comp sc cl C h₁ wr ((D, m₀) :: M') g₃).re s₇.heap M₅ g₅) g₈ ρ₈ M₈ s₈.heap → Rest s₇ s₈ → Le g₅ g₈ → Inv (i + 1) g₈ M₈ →
          ∃ j, j < m + 1 - i ∧ ∃ i, j = m + 1 - i ∧ Walking prog w (c.comp sc cl C h₁ wr ((D, m₀) :: M') g₃) St fp wr (fun i g ρ M => (∀ x, ((relab l sc.names).lookup x == some .local) = false → ρ x = ρ₃ x) ∧ Inv i g M) g₃ s₂ m i s₈ := fun s₈ g₈ ρ₈ M₈ A₈ r₈ l₈ q =>
        ⟨m + 1 - (i + 1), by omega, i + 1, rfl, hlt, W'.frame _ _ _ st₇ (fun b hb o e => by
          obtain ⟨o', k⟩ := kf b hb
          rw [k.get] at e; cases e
          exact (k.after A₈).get), (rs₅.trans r₇).trans r₈, g₈, _, M₈, CI.recut B₄ (A₇.unre A₈), l₅.trans l₈, ⟨fun x hx => by rw [if_neg (by rw [hx]; exact Bool.false_ne_true)], q⟩, fun b hb => ⟨(hwr₅ b hb).1, (kf b (W'.sub b hb)).elim fun o k => k.noneAfter (hwr₅ b hb).2 A₈⟩, fun b hb => (kf b hb).elim fun o k => (k.after A₈).out⟩
      have key := step ((c.comp sc cl C h₁ wr ((D, m₀) :: M') g₃).re s₇.heap M₅ g₅) (A₇.reOk O₄) CI.kinds i v g₅ ρ₅ M₅ hlt hPre l₅ hρ inv s₇ A₇.re
      refine wpAny_mono key (fun _ s₈ ⟨g₈, ρ₈, M₈, A₈, r₈, l₈, t⟩ => ?_) fun _ _ e => e.elim
      refine wpAny_mono (t s₈ A₈) (fun ok s₉ ⟨g₉, ρ₉, M₉, A₉, r₉, l₉, q⟩ => ?_) fun _ _ e => e.elim
      cases ok with
      | false => exact again s₉ g₉ ρ₉ M₉ A₉ (r₈.trans r₉) (l₈.trans l₉) (q.2 rfl)
      | true => exact wpAny_mono (q.1 rfl s₉ A₉) (fun _ s' ⟨g', ρ', M', a, b, cc, q⟩ => again s' g' ρ' M' a ((r₈.trans r₉).trans b) ((l₈.trans l₉).trans cc) q) fun _ _ e => e.elim
    · have hin : i = m := by omega
      subst hin
      refine wpAny_mono (W'.done s₅ st₅) (fun r s₆ ⟨e, r₆, hk₆⟩ => ?_) fun _ _ e => e.elim
      subst e
      have A₆ := A₅.outside O₄ hk₆ hw
      have B₆ := CI.back B₄ A₆
      obtain ⟨mC, hmC, _⟩ := A₆.ns
      have rs : Rest s s₆ := ((r₁.trans r₂).trans rs₅).trans r₆
      have ll : Le g g₅ := l₁.trans l₅
      have hCo := A₆.fresh C (.head _)
      have hCout : C ∉ c.own ++ M₅.map (·.1) := fun q => by
        rcases List.mem_append.mp q with q | q
        · exact CI.C0.2.2 (List.mem_append_left _ q)
        · exact (List.nodup_cons.mp A₆.nodup).1 q
      have kC : ∀ {h₇ h₈ : Heap} {gg ρρ MM}, Act w.params c gg ρρ MM h₇ → gg C = none → C ∉ c.own ++ MM.map (·.1) → Heap.SameBut C h₇ h₈ → Act w.params c gg ρρ MM h₈ := fun a1 a2 a3 a4 =>
        a1.outside (wr := [C]) O (fun b o hb e => (a4.2 b (by simpa using hb)).trans e) fun b hb => by rw [List.mem_singleton.mp hb]; exact ⟨CI.C0.1, a2, a3⟩
      have fin' := fin g₅ M₅ l₅ inv
      cases use with
      | none => exact ⟨mC, hmC, fun h₇ hs₇ => ⟨g₅, ρ₃, M₅, kC B₆ hCo.2 hCout hs₇, rs, ll, fin'⟩⟩
      | some u =>
        obtain ⟨oC, esC, epC, hoC, restC⟩ := hmC
        have kk : Kept c g₅ M₅ s₆.heap C oC := ⟨hoC, hCout⟩
        refine wpAny_mono (fin' (c.re s₆.heap M₅ g₅) (B₆.reOk O) (hW rfl) hS s₆ B₆.re) (fun _ s₈ ⟨g₈, ρ₈, M₈, A₈, r₈, l₈, q⟩ => ?_) fun _ _ e => e.elim
        have k8 := kk.after A₈
        exact ⟨mC, ⟨oC, esC, epC, k8.get, restC⟩, fun h₉ hs₉ => ⟨g₈, ρ₈, M₈, kC (B₆.unre A₈) (kk.noneAfter hCo.2 A₈) k8.out hs₉, rs.trans r₈, ll.trans l₈, q⟩⟩
  refine codeAny_compStartG he hcl rfl loop (wpAny_mono (W'.self 0 _ ?_) (fun it' s' ⟨e1, e2⟩ => by subst e1; subst e2; exact loop) fun _ _ e => e.elim)
  exact W'.frame _ _ _ st (fun b hb o e => by obtain ⟨o', k, e'⟩ := kf₃ b hb; rw [e'] at e; cases e; exact x₁ _ _ k.get)
end
end Mine

namespace Mine

section
variable {prog : Program} {w : World} {α β : Type} {c : Cx} {g g' : G} {ρ ρ' : Str → Option Value} {M M' : Mem} {K : Frag} {n : Nat} {pos apos : Pos} {P : Params} {h h' : Heap} {l : List (Str × NameKind)}

theorem Act.adopt {a : Addr} {m : MO} (A : Act P c g ρ M h) (hr : ∃ o, h.get? a = some o ∧ m.rep P o) (ha : c.h₀.get? a = none ∧ g a = none ∧ a ∉ c.own ++ M.map (·.1)) : Act P c g ρ ((a, m) :: M) h := by
  refine ⟨A.keep, A.know, A.old, A.ns, A.cell, fun p hp => ?_, fun b hb => ?_, ?_, A.live⟩
  · rcases List.mem_cons.mp hp with rfl | hp
    · exact hr
    · exact A.mem p hp
  · rcases List.mem_append.mp hb with hb | hb
    · exact A.fresh b (List.mem_append_left _ hb)
    · rcases List.mem_cons.mp hb with rfl | hb
      · exact ⟨ha.1, ha.2.1⟩
      · exact A.fresh b (List.mem_append_right _ hb)
  · obtain ⟨n1, n2, n3⟩ := List.nodup_append.mp A.nodup
    refine List.nodup_append.mpr ⟨n1, List.nodup_cons.mpr ⟨fun q => ha.2.2 (List.mem_append_right _ q), n2⟩, fun x hx y hy q => ?_⟩
    rcases List.mem_cons.mp hy with rfl | hy
    · exact ha.2.2 (List.mem_append_left _ (q ▸ hx))
    · exact n3 x hx y hy q
theorem Act.drop {p : Addr × MO} (A : Act P c g ρ (p :: M) h) : Act P c g ρ M h := by
  obtain ⟨n1, n2, n3⟩ := List.nodup_append.mp A.nodup
  refine ⟨A.keep, A.know, A.old, A.ns, A.cell, fun q hq => A.mem q (.tail _ hq), fun b hb => A.fresh b ?_, List.nodup_append.mpr ⟨n1, (List.nodup_cons.mp n2).2, fun x hx y hy q => n3 x hx y (.tail _ hy) q⟩, A.live⟩
  rcases List.mem_append.mp hb with hb | hb
  · exact List.mem_append_left _ hb
  · exact List.mem_append_right _ (.tail _ hb)
theorem Act.head_out {p : Addr × MO} (A : Act P c g ρ (p :: M) h) : c.h₀.get? p.1 = none ∧ g p.1 = none ∧ p.1 ∉ c.own ++ M.map (·.1) := by
  obtain ⟨n1, n2, n3⟩ := List.nodup_append.mp A.nodup
  have := A.fresh p.1 (List.mem_append_right _ (.head _))
  refine ⟨this.1, this.2, fun q => ?_⟩
  rcases List.mem_append.mp q with q | q
  · exact n3 _ q _ (.head _) rfl
  · exact (List.nodup_cons.mp n2).1 q
theorem Act.known_out {a : Addr} {m : MO} (A : Act P c g ρ M h) (e : g a = some m) : a ∉ c.own ++ M.map (·.1) := fun q => by
  rw [(A.fresh a q).2] at e; cases e
/-- an object that is left alone for good -/
theorem T.drop {p : Addr × MO} {t : Sem α} {Q : Post α} (hh : T prog w c t Q g ρ M) : T prog w c t Q g ρ (p :: M) := fun s hA => hh s hA.drop

-- comprehensions over one clause, nothing known of the new list but to the comprehension
theorem compTurn_L {elt target iter : Expr} {ifs : List Expr} {sc : Scope} {p : Pos} (it : Value) (D : Addr) (env : Env) :
    compTurn (.ListComp elt [⟨target, iter, ifs, 0⟩] sc p) 0 it (.ref D) env = (standAt iter.pos >>= fun _ => pyNext it >>= fun r => match r with
      | none => pure (.done .next)
      | some v => letOwnedTupleGo target it v >>= fun _ => assign target env v >>= fun _ => tests ifs env >>= fun ok => (if ok = true then (eval elt env >>= fun x => call (.builtin "list.append") [.ref D, x] >>= fun _ => pure ()) else pure ()) >>= fun _ => again (.compLoop (.ListComp elt [⟨target, iter, ifs, 0⟩] sc p) 0 it (.ref D) env)) := by
  rw [compTurn_list]
  refine bind_congr fun _ => bind_congr fun r => ?_
  cases r with
  | none => rfl
  | some v =>
    refine bind_congr fun _ => bind_congr fun _ => ?_
    refine bind_congr (x := tests ifs env) fun ok => ?_
    cases ok
    · exact (pure_bind (m := Sem) _ _).symm
    · rfl
theorem compTurn_D {kx vx target iter : Expr} {ifs : List Expr} {sc : Scope} {p : Pos} (it : Value) (D : Addr) (env : Env) :
    compTurn (.DictComp kx vx [⟨target, iter, ifs, 0⟩] sc p) 0 it (.ref D) env = (standAt iter.pos >>= fun _ => pyNext it >>= fun r => match r with
      | none => pure (.done .next)
      | some v => letOwnedTupleGo target it v >>= fun _ => assign target env v >>= fun _ => tests ifs env >>= fun ok => (if ok = true then (eval kx env >>= fun k => holding [k] (eval vx env) >>= fun v => standAt { kx.pos with endLine := vx.pos.endLine, endCol := vx.pos.endCol } >>= fun _ => holding [k, v] (dictSet D k v)) else pure ()) >>= fun _ => again (.compLoop (.DictComp kx vx [⟨target, iter, ifs, 0⟩] sc p) 0 it (.ref D) env)) := by
  rw [compTurn_dict]
  refine bind_congr fun _ => bind_congr fun r => ?_
  cases r with
  | none => rfl
  | some v =>
    refine bind_congr fun _ => bind_congr fun _ => ?_
    refine bind_congr (x := tests ifs env) fun ok => ?_
    cases ok
    · exact (pure_bind (m := Sem) _ _).symm
    · rfl

/-- what a list comprehension has to show, once its first iterable stands -/
def LcK (prog : Program) (w : World) (K : Frag) (n : Nat) (l : List (Str × NameKind)) (sc : Scope) (target elt : Expr) (ifs : List Expr) (g : G) (ρ : Str → Option Value) (m : Nat) (P : Nat → Value → Heap → Prop) (M' : Mem)
    (fin : Addr → List Value → G → Mem → Prop) : Prop := m ≤ 1000 ∧ ∀ D, ∃ Inv : Nat → List Value → G → Mem → Prop, Inv 0 [] g M' ∧
  (∀ c' : Cx, c'.Ok K n → c'.env.scope.names = relab l sc.names → ∀ i v g' ρ' acc M, i < m → P i v c'.h₀ → Le g g' → (∀ x, ((relab l sc.names).lookup x == some .local) = false → ρ' x = ρ x) → Inv i acc g' M →
    T prog w c' (assign target c'.env v) (fun _ g ρ M₁ => T prog w c' (tests ifs c'.env) (fun b g ρ M₁ => IfK b (T prog w c' (eval elt c'.env) (fun y g ρ M₁ => ∃ M', M₁ = (D, .list acc) :: M' ∧ Inv (i + 1) (acc ++ [y]) g M') g ρ M₁) (∃ M', M₁ = (D, .list acc) :: M' ∧ Inv (i + 1) acc g M')) g ρ M₁) g' ρ' ((D, .list acc) :: M)) ∧
  ∀ acc g' M, Le g g' → Inv m acc g' M → fin D acc g' M

theorem T.lcU {elt target iter : Expr} {ifs : List Expr} {sc : Scope} {p : Pos} {use : Option (Env → Value → Sem Unit)} {Q : Post Value} (O : c.Ok K n) (hW : use.isSome = true → c.Own) (hS : c.env.scope.names = l)
    (hsc : compOk sc = true) (hfr : freeOk l sc.names = true) (hs : ∀ x, foldedSetIterable iter c.env x = Pure.pure x)
    (h : T prog w c (eval iter c.env) (fun xv g ρ M => Seqs prog w c target xv g ρ M fun m P M' => LcK prog w K n l sc target elt ifs g ρ m P M' fun D acc g' M => UseK prog w K n l use Q D g' ρ ((D, .list acc) :: M)) g ρ M) :
    T prog w c (comprehension (.ListComp elt [⟨target, iter, ifs, 0⟩] sc p) sc c.env pos (PySem.newList []) false (eval iter c.env) (use.map fun u => u c.env)) Q g ρ M := by
  refine T.compU (PD := fun _ => True) (m₀ := .list []) (emit := fun a env => eval elt env >>= fun x => call (.builtin "list.append") [a, x] >>= fun _ => Pure.pure ()) O hW hS rfl rfl (fun it D env => compTurn_L it D env) hsc hfr hs (fun c Q g ρ M _ hQ => T.newList (Nat.zero_le _) fun D => hQ D trivial) ?_
  refine T.mono h fun xv g ρ M hq => hq.mono fun m P M' ⟨hm, hk⟩ D _ => ?_
  obtain ⟨Inv, h0, step, fin⟩ := hk D
  refine ⟨fun i g MM => ∃ acc M, MM = (D, .list acc) :: M ∧ acc.length ≤ i ∧ Inv i acc g M, ⟨[], M', rfl, Nat.zero_le _, h0⟩, ?_, ?_⟩
  · rintro c' O' hS' i v g' ρ' MM hi hP hl ha ⟨acc, M, rfl, hz, inv⟩
    refine T.mono (step c' O' hS' i v g' ρ' acc M hi hP hl ha inv) fun _ g ρ M₁ q => T.mono q fun b g ρ M₁ q => ⟨fun e => ?_, fun e => ?_⟩
    · refine T.bind (T.mono (q.1 e) fun y g ρ M₁ ⟨M₂, e1, inv⟩ => ?_)
      subst e1
      refine T.bind (T.appendL (pre := []) O' (by omega) (T.pure ⟨acc ++ [y], M₂, rfl, by simp; omega, inv⟩))
    · obtain ⟨M₂, e1, inv⟩ := q.2 e
      exact ⟨acc, M₂, e1, by omega, inv⟩
  · rintro g' MM hl ⟨acc, M, rfl, _, inv⟩
    exact fin acc g' M hl inv
theorem T.lc {elt target iter : Expr} {ifs : List Expr} {sc : Scope} {p : Pos} {Q : Post Value} (O : c.Ok K n) (hS : c.env.scope.names = l)
    (hsc : compOk sc = true) (hfr : freeOk l sc.names = true) (hs : ∀ x, foldedSetIterable iter c.env x = Pure.pure x)
    (h : T prog w c (eval iter c.env) (fun xv g ρ M => Seqs prog w c target xv g ρ M fun m P M' => LcK prog w K n l sc target elt ifs g ρ m P M' fun D acc g' M => Q (.ref D) g' ρ ((D, .list acc) :: M)) g ρ M) :
    T prog w c (eval (.ListComp elt [⟨target, iter, ifs, 0⟩] sc p) c.env) Q g ρ M := by
  rw [eval_ListComp]
  exact T.lcU (use := none) O (fun e => nomatch e) hS hsc hfr hs h

def swB (l : List (Str × NameKind)) (x : Str) (p vp : Pos) (sc : Scope) : Bool := (l.lookup x == some .local) && p.line == vp.line && !(sc.names.any fun (n, k) => n == x && (k == .local || k == .cell))
theorem swaps_lc {elt : Expr} {gens : List Comprehension} {sc : Scope} {p vp : Pos} {x : Str} {line : Nat} (O : c.Ok K n) (hS : c.env.scope.names = l) : swapsWith (.ListComp elt gens sc vp) (some (.Name x p)) line c.env = pure (swB l x p vp sc) := by
  have e1 : c.env.blockKind = .function := by unfold Env.blockKind; rw [O.kind]; rfl
  have e2 : c.env.kindOf x = l.lookup x := by rw [Env.kindOf, hS]
  unfold swapsWith swB
  simp only [e1, e2]
  rfl
theorem swaps_dc {kx vx : Expr} {gens : List Comprehension} {sc : Scope} {p vp : Pos} {x : Str} {line : Nat} (O : c.Ok K n) (hS : c.env.scope.names = l) : swapsWith (.DictComp kx vx gens sc vp) (some (.Name x p)) line c.env = pure (swB l x p vp sc) := by
  have e1 : c.env.blockKind = .function := by unfold Env.blockKind; rw [O.kind]; rfl
  have e2 : c.env.kindOf x = l.lookup x := by rw [Env.kindOf, hS]
  unfold swapsWith swB
  simp only [e1, e2]
  rfl
theorem T.assign_stored {x : Str} {p : Pos} {v : Value} {Q : Post Unit} (h : T prog w c (storeName c.env x v) Q g ρ M) : T prog w c (assign (.Name x p) c.env v) Q g ρ M := by
  rw [PySem.assign_Name]
  unfold bindName
  exact T.bind (T.standAt (T.bind (T.holding (T.point (T.bind (T.mono h fun _ g ρ M q => T.point q))))))
/-- x = [..] where the value comes by the plain road -/
theorem T.assign_lc0 {elt : Expr} {gens : List Comprehension} {sc : Scope} {p vp : Pos} {x : Str} {Q : Post Flow} (O : c.Ok K n) (hS : c.env.scope.names = l) (hb : swB l x p vp sc = false)
    (h : T prog w c (eval (.ListComp elt gens sc vp) c.env) (fun v g ρ M => T prog w c (storeName c.env x v) (fun _ g ρ M => Q .next g ρ M) g ρ M) g ρ M) : T prog w c (exec (.Assign [.Name x p] (.ListComp elt gens sc vp) pos) c.env) Q g ρ M := by
  rw [exec_Assign1, swaps_lc O hS, hb]
  refine T.bind (T.standAt (T.bind (T.pure ?_)))
  rw [if_neg Bool.false_ne_true]
  exact T.bind (T.mono h fun v g ρ M q => T.bind (T.pure (T.bind (T.mono (T.assign_stored q) fun _ g ρ M q => T.pure q))))
theorem T.assign_dc0 {kx vx : Expr} {gens : List Comprehension} {sc : Scope} {p vp : Pos} {x : Str} {Q : Post Flow} (O : c.Ok K n) (hS : c.env.scope.names = l) (hb : swB l x p vp sc = false)
    (h : T prog w c (eval (.DictComp kx vx gens sc vp) c.env) (fun v g ρ M => T prog w c (storeName c.env x v) (fun _ g ρ M => Q .next g ρ M) g ρ M) g ρ M) : T prog w c (exec (.Assign [.Name x p] (.DictComp kx vx gens sc vp) pos) c.env) Q g ρ M := by
  rw [exec_Assign1, swaps_dc O hS, hb]
  refine T.bind (T.standAt (T.bind (T.pure ?_)))
  rw [if_neg Bool.false_ne_true]
  exact T.bind (T.mono h fun v g ρ M q => T.bind (T.pure (T.bind (T.mono (T.assign_stored q) fun _ g ρ M q => T.pure q))))
/-- x = [..] where the variable is stored before the comprehension's own names go -/
theorem T.assign_lc1 {elt target iter : Expr} {ifs : List Expr} {sc : Scope} {p vp : Pos} {x : Str} {Q : Post Flow} (O : c.Ok K n) (W : c.Own) (hS : c.env.scope.names = l) (hb : swB l x p vp sc = true)
    (hsc : compOk sc = true) (hfr : freeOk l sc.names = true) (hs : ∀ x, foldedSetIterable iter c.env x = Pure.pure x)
    (h : T prog w c (eval iter c.env) (fun xv g ρ M => Seqs prog w c target xv g ρ M fun m P M' => LcK prog w K n l sc target elt ifs g ρ m P M' fun D acc g' M => Q .next g' (put ρ x (.ref D)) ((D, .list acc) :: M)) g ρ M) :
    T prog w c (exec (.Assign [.Name x p] (.ListComp elt [⟨target, iter, ifs, 0⟩] sc vp) pos) c.env) Q g ρ M := by
  have hsw := swaps_lc (elt := elt) (gens := [⟨target, iter, ifs, 0⟩]) (sc := sc) (p := p) (vp := vp) (x := x) (line := pos.line) O hS
  rw [hb] at hsw
  rw [exec_Assign_Name_used _ _ _ _ hsw]
  have hl : l.lookup x = some .local := by
    unfold swB at hb
    simp only [Bool.and_eq_true, beq_iff_eq] at hb
    exact hb.1.1
  have key : T prog w c (comprehension (.ListComp elt [⟨target, iter, ifs, 0⟩] sc vp) sc c.env (firstIterPos [⟨target, iter, ifs, 0⟩] vp) (PySem.newList []) false (eval iter c.env) ((some fun env => assign (.Name x p) env).map fun u => u c.env))
      (fun _ g ρ M => Q .next g ρ M) g ρ M := by
    refine T.lcU (use := some fun env => assign (.Name x p) env) O (fun _ => W) hS hsc hfr hs (T.mono h fun xv g ρ M q => q.mono fun m P M' ⟨hm, q⟩ => ⟨hm, fun D => ?_⟩)
    obtain ⟨Inv, a, b, f⟩ := q D
    refine ⟨Inv, a, b, fun acc g' M hl' inv => ?_⟩
    intro c' O' W' hS'
    exact T.assign_stored (T.stLocal O' (kind_of hS' hl) (f acc g' M hl' inv))
  refine T.bind (T.standAt (T.bind ?_))
  show T prog w c (do let _ ← comprehension (.ListComp elt [⟨target, iter, ifs, 0⟩] sc vp) sc c.env (firstIterPos [⟨target, iter, ifs, 0⟩] vp) (PySem.newList []) false (eval iter c.env) (some (assign (.Name x p) c.env))) _ g ρ M
  exact T.bind (T.mono key fun _ g ρ M q => T.pure (T.pure q))

-- iterables
theorem Itr.list {A : Around} {target : Expr} (hh : A.handled = none) {I a : Addr} (hne : a ≠ I) (vs : List Value) : Itr prog w A target I [I, a] [I] vs.length (fun i v _ => vs[i]? = some v) (fun i h => h.IsListIter I a i ∧ h.IsList a vs.toArray) := by
  have W := Itr.ofWalks (target := target) (Walks.list (prog := prog) (w := w) hh I a hne vs.toArray) (fun i h st b hb => by
    rcases List.mem_cons.mp hb with rfl | hb
    · obtain ⟨o, ho, _⟩ := st.1; exact ⟨o, ho⟩
    · rw [List.mem_singleton.mp hb]; obtain ⟨o, ho, _⟩ := st.2; exact ⟨o, ho⟩) (fun i v s Q E st q => letGo_listiter st.1 q)
  simpa using W
theorem Itr.tuple {A : Around} {target : Expr} (hh : A.handled = none) {I a : Addr} (hne : a ≠ I) (vs : List Value) : Itr prog w A target I [I, a] [I] vs.length (fun i v _ => vs[i]? = some v) (fun i h => h.IsTupleIter I a i ∧ h.IsTuple a vs.toArray) := by
  have W := Itr.ofWalks (target := target) (Walks.tuple (prog := prog) (w := w) hh I a hne vs.toArray) (fun i h st b hb => by
    rcases List.mem_cons.mp hb with rfl | hb
    · obtain ⟨o, ho, _⟩ := st.1; exact ⟨o, ho⟩
    · rw [List.mem_singleton.mp hb]; obtain ⟨o, ho, _⟩ := st.2; exact ⟨o, ho⟩) (fun i v s Q E st q => letGo_tupleiter st.1 q)
  simpa using W
theorem heap_new (h : Heap) : h.get? h.objs.size = none := by
  cases q : h.get? h.objs.size with
  | none => rfl
  | some o => exact absurd (Heap.lt_size q) (Nat.lt_irrefl _)
theorem Seqs.list {target : Expr} {a : Addr} {vs : List Value} {k : Nat → (Nat → Value → Heap → Prop) → Mem → Prop} (O : c.Ok K n) (S : Lst g a vs) (hk : k vs.length (fun i v _ => vs[i]? = some v) M) : Seqs prog w c target (.ref a) g ρ M k := by
  refine ⟨_, _, _, hk, fun s hA => ?_⟩
  obtain ⟨j, hl⟩ := SrcL.at (M := M) (Or.inl S) hA
  have hne : a ≠ s.heap.objs.size := Nat.ne_of_lt (Heap.lt_size hl)
  have hn := fresh_new hA (heap_new s.heap)
  refine wpAny_pyIter_list hl.isList ⟨_, _, _, _, rfl, Itr.list O.room.handled hne vs, ⟨⟨_, Heap.get?_push_size _ rfl, rfl, rfl⟩, hl.isList.push _⟩, hA.ext fun b o e => Heap.get?_push_of_some _ e, ⟨rfl, rfl, rfl⟩, fun b hb => ?_, fun b hb => ?_⟩
  · rw [List.mem_singleton.mp hb]; exact ⟨hn.1, hn.2.1⟩
  · rcases List.mem_cons.mp hb with rfl | hb
    · exact hn.2.2
    · rw [List.mem_singleton.mp hb]; exact hA.known_out S
theorem Seqs.tuple {target : Expr} {a : Addr} {vs : List Value} {k : Nat → (Nat → Value → Heap → Prop) → Mem → Prop} (O : c.Ok K n) (S : Tup g a vs) (hk : k vs.length (fun i v _ => vs[i]? = some v) M) : Seqs prog w c target (.ref a) g ρ M k := by
  refine ⟨_, _, _, hk, fun s hA => ?_⟩
  have hl := Tup.at S hA
  have ht : s.heap.IsTuple a vs.toArray := ⟨_, hl, rfl, 0, rfl⟩
  have hne : a ≠ s.heap.objs.size := Nat.ne_of_lt (Heap.lt_size hl)
  have hn := fresh_new hA (heap_new s.heap)
  refine wpAny_pyIter_tuple ht ⟨_, _, _, _, rfl, Itr.tuple O.room.handled hne vs, ⟨⟨_, Heap.get?_push_size _ rfl, rfl, rfl⟩, ht.push _⟩, hA.ext fun b o e => Heap.get?_push_of_some _ e, ⟨rfl, rfl, rfl⟩, fun b hb => ?_, fun b hb => ?_⟩
  · rw [List.mem_singleton.mp hb]; exact ⟨hn.1, hn.2.1⟩
  · rcases List.mem_cons.mp hb with rfl | hb
    · exact hn.2.2
    · rw [List.mem_singleton.mp hb]; exact hA.known_out S

-- range
def rangeO (a b s : Int) (t u v : Tok) : Obj := { cls := .type "range", data := .fields #[.int a t, .int b u, .int s v] }
def Rng (g : G) (r : Addr) (a b s : Int) : Prop := ∃ t u v, g r = some (.raw (rangeO a b s t u v))
theorem Rng.mono {r : Addr} {a b s : Int} (h : Rng g r a b s) (l : Le g g') : Rng g' r a b s := let ⟨t, u, v, e⟩ := h; ⟨t, u, v, l _ _ e⟩
theorem T.range1 {b : Int} {t : Tok} {Q : Post Value} (h : ∀ r g', Le g g' → Rng g' r 0 b 1 → Q (.ref r) g' ρ M) : T prog w c (call (.type "range") [.int b t]) Q g ρ M := fun s hA => by
  refine call_range_1 ?_
  have A2 := hA.new (a := s.heap.objs.size) (m := .raw (rangeO 0 b 1 s.toks t (s.toks + 1))) (fun b o e => Heap.get?_push_of_some _ e) (heap_new s.heap) ⟨_, Heap.get?_push_size s.heap (o := rangeO 0 b 1 s.toks t (s.toks + 1)) rfl, rfl⟩
  have hg := (fresh_new hA (heap_new s.heap)).2.1
  exact ⟨_, _, _, Act.freeze (pre := []) A2, ⟨rfl, rfl, rfl⟩, Le.setG hg, h _ _ (Le.setG hg) ⟨_, _, _, setG_self⟩⟩
theorem T.range3 {a b st : Int} {t u v : Tok} {Q : Post Value} (hc : st ≠ 0) (hp : Builtin.divisionGoesByPylong (b - a) st = false) (h : ∀ r g', Le g g' → Rng g' r a b st → Q (.ref r) g' ρ M) : T prog w c (call (.type "range") [.int a t, .int b u, .int st v]) Q g ρ M := fun s hA => by
  refine call_range_3 hc ?_ (.inl hp)
  have A2 := hA.new (a := s.heap.objs.size) (m := .raw (rangeO a b st t u v)) (fun b o e => Heap.get?_push_of_some _ e) (heap_new s.heap) ⟨_, Heap.get?_push_size s.heap (o := rangeO a b st t u v) rfl, rfl⟩
  have hg := (fresh_new hA (heap_new s.heap)).2.1
  exact ⟨_, _, _, Act.freeze (pre := []) A2, ⟨rfl, rfl, rfl⟩, Le.setG hg, h _ _ (Le.setG hg) ⟨_, _, _, setG_self⟩⟩
theorem Seqs.range {x : Str} {px : Pos} {r : Addr} {a b st : Int} {m : Nat} {k : Nat → (Nat → Value → Heap → Prop) → Mem → Prop} (O : c.Ok K n) (S : Rng g r a b st) (hsm : Builtin.Range.small a b st = true) (hm : Builtin.Range.rangeSize a b st = (m : Int))
    (hk : k m (fun i v _ => ∃ t, v = .int (a + i * st) t) M) : Seqs prog w c (.Name x px) (.ref r) g ρ M k := by
  refine ⟨_, _, _, hk, fun s hA => ?_⟩
  obtain ⟨t, u, v, e⟩ := S
  obtain ⟨_, hr, rfl⟩ := hA.know _ _ e
  have hn := fresh_new hA (heap_new s.heap)
  refine wpAny_pyIter_range (a := a) (b := b) (c := st) hr hsm ⟨_, _, _, _, rfl, Itr.ofWalks (Walks.range O.room.handled s.heap.objs.size a st m) (fun i h stt b hb => ?_) (fun i v s Q E stt q => wpAny_pure q), ?_, hA.ext fun b o e => Heap.get?_push_of_some _ e, ⟨rfl, rfl, rfl⟩, fun b hb => ?_, fun b hb => ?_⟩
  · rw [List.mem_singleton.mp hb]; exact ⟨_, stt⟩
  · show IsRangeIter _ _ _ _ _
    rw [hm]; simpa using Heap.get?_push_size _ rfl
  · rw [List.mem_singleton.mp hb]; exact ⟨hn.1, hn.2.1⟩
  · rw [List.mem_singleton.mp hb]; exact hn.2.2

-- enumerate
def enumO (it : Addr) : Obj := { cls := .type "enumerate", data := .fields #[.none, .bool false, .ref it, rawInt 0, .none, .none] }
def iterO (ty : String) (l : Addr) : Obj := { cls := .type ty, data := .fields #[.ref l, .int 0 0] }
theorem T.enum {a : Addr} {vs : List Value} {Q : Post Value} (S : Lst g a vs) (h : ∀ e it o, o.cls = .type "list_iterator" → o.data = .fields #[.ref a, .int 0 0] → Q (.ref e) g ρ ((e, .raw (enumO it)) :: (it, .raw o) :: M)) : T prog w c (call (.type "enumerate") [.ref a]) Q g ρ M := fun s hA => by
  obtain ⟨j, hl⟩ := SrcL.at (M := M) (Or.inl S) hA
  refine call_enumerate_list hl.isList fun h' he ⟨oi, hoi, hci, hdi⟩ hz hk => ?_
  have n1 := fresh_new hA (heap_new s.heap)
  have hn2 : s.heap.get? (s.heap.objs.size + 1) = none := by
    cases q : s.heap.get? (s.heap.objs.size + 1) with
    | none => rfl
    | some o => exact absurd (Heap.lt_size q) (Nat.not_lt.mpr (Nat.le_succ _))
  have n2 := fresh_new hA hn2
  refine ⟨g, ρ, _, ((hA.ext hk).adopt (m := .raw oi) ⟨oi, hoi, rfl⟩ n1).adopt (m := .raw (enumO s.heap.objs.size)) ⟨_, he, rfl⟩ ⟨n2.1, n2.2.1, fun q => ?_⟩, ⟨rfl, rfl, rfl⟩, .refl g, h _ _ _ hci hdi⟩
  rcases List.mem_append.mp q with q | q
  · exact n2.2.2 (List.mem_append_left _ q)
  · rcases List.mem_cons.mp q with q | q
    · exact absurd q (Nat.succ_ne_self _)
    · exact n2.2.2 (List.mem_append_right _ q)
theorem Seqs.enum {elts : List Expr} {kk : Nat} {pt : Pos} {e it a : Addr} {o : Obj} {vs : List Value} {k : Nat → (Nat → Value → Heap → Prop) → Mem → Prop} (O : c.Ok K n) (S : Lst g a vs) (hc : o.cls = .type "list_iterator") (hd : o.data = .fields #[.ref a, .int 0 0])
    (hk : k vs.length (fun i v h => ∃ T vals, v = .ref T ∧ (∃ t x, vs[i]? = some x ∧ vals = #[.int i t, x]) ∧ h.IsTuple T vals) M) : Seqs prog w c (.Tuple elts kk pt) (.ref e) g ρ ((e, .raw (enumO it)) :: (it, .raw o) :: M) k := by
  refine ⟨_, _, _, hk, fun s hA => ?_⟩
  obtain ⟨j, hl⟩ := SrcL.at (M := (e, .raw (enumO it)) :: (it, .raw o) :: M) (Or.inl S) hA
  obtain ⟨_, he, rfl⟩ := hA.mem (e, .raw (enumO it)) (.head _)
  obtain ⟨_, hi, rfl⟩ := hA.mem (it, .raw o) (.tail _ (.head _))
  have o1 := hA.head_out
  have o2 := hA.drop.head_out
  have hei : e ≠ it := fun q => o1.2.2 (by rw [q]; exact List.mem_append_right _ (.head _))
  have ko := hA.known_out S
  have hae : a ≠ e := fun q => ko (by rw [q]; exact List.mem_append_right _ (.head _))
  have hai : a ≠ it := fun q => ko (by rw [q]; exact List.mem_append_right _ (.tail _ (.head _)))
  have WW := Itr.ofWalksT (elts := elts) (k := kk) (pos := pt) (WalksT.enumerate (prog := prog) (w := w) O.room.handled e it a hei hae hai vs.toArray) (fun i h st b hb => by
    obtain ⟨⟨old, x1⟩, ⟨o2, x2, _⟩, ⟨o3, x3, _⟩⟩ := st
    simp at hb
    rcases hb with rfl | rfl | rfl
    · exact ⟨_, x1⟩
    · exact ⟨_, x2⟩
    · exact ⟨_, x3⟩)
  have W2 : Itr prog w c.A (.Tuple elts kk pt) e [e, it, a] [e, it] vs.length (fun i v h => ∃ T vals, v = .ref T ∧ (∃ t x, vs[i]? = some x ∧ vals = #[.int i t, x]) ∧ h.IsTuple T vals) (fun i h => (∃ old, IsEnum h e it i old) ∧ h.IsListIter it a i ∧ h.IsList a vs.toArray) := by simpa using WW
  refine wpAny_pyIter_enum (it := it) he ⟨e, _, _, _, rfl, W2, ⟨⟨_, he⟩, ⟨_, hi, hc, hd⟩, hl.isList⟩, hA.drop.drop, ⟨rfl, rfl, rfl⟩, fun b hb => ?_, fun b hb => ?_⟩
  · simp at hb
    rcases hb with rfl | rfl
    · exact ⟨o1.1, o1.2.1⟩
    · exact ⟨o2.1, o2.2.1⟩
  · simp at hb
    rcases hb with rfl | rfl | rfl
    · exact fun q => o1.2.2 (by
        rcases List.mem_append.mp q with q | q
        · exact List.mem_append_left _ q
        · exact List.mem_append_right _ (.tail _ q))
    · exact o2.2.2
    · exact hA.drop.drop.known_out S

-- targets that are tuples
theorem T.inOrder_nil {fs : List (Value → Sem Unit)} {Q : Post Unit} (h : Q () g ρ M) : T prog w c (assignInOrder fs []) Q g ρ M := by
  cases fs <;> exact T.pure h
theorem T.inOrder_cons {f : Value → Sem Unit} {fs : List (Value → Sem Unit)} {v : Value} {vs : List Value} {Q : Post Unit} (h : T prog w c (f v) (fun _ g ρ M => T prog w c (assignInOrder fs vs) Q g ρ M) g ρ M) : T prog w c (assignInOrder (f :: fs) (v :: vs)) Q g ρ M := by
  show T prog w c (PySem.holding vs (f v) >>= fun _ => assignInOrder fs vs) Q g ρ M
  exact T.bind (T.holding h)
theorem T.unpackT {elts : List Expr} {kk : Nat} {pt : Pos} {t : Addr} {vals : List Value} {Q : Post Unit} (O : c.Ok K n) (ht : c.h₀.IsTuple t vals.toArray ∨ Tup g t vals) (hn : (assignEach elts c.env).length = vals.length) (hstar : (assignEach elts c.env).findIdx? (·.1) = none)
    (h : T prog w c (assignInOrder ((assignEach elts c.env).map (·.2)) vals) Q g ρ M) : T prog w c (assign (.Tuple elts kk pt) c.env (.ref t)) Q g ρ M := fun s hA => by
  have ht' : s.heap.IsTuple t vals.toArray := by
    rcases ht with ⟨o, ho, r⟩ | S
    · exact ⟨o, hA.keep _ _ ho, r⟩
    · exact ⟨_, Tup.at S hA, rfl, 0, rfl⟩
  refine wpAny_assign_Tuple O.room.handled ht' (by simpa using hn) hstar fun h' x => ?_
  have x' : Ext s.heap h' := fun b o e => x b o (Nat.ne_of_lt (Heap.lt_size e)) e
  exact wpAny_mono (h { s with heap := h' } (hA.ext x')) (fun _ _ ⟨g', ρ', M', a, b, c, d⟩ => ⟨g', ρ', M', a, b, c, d⟩) fun _ _ e => e
end
end Mine

namespace Mine

section
variable {prog : Program} {w : World} {A : Around} {E : Value → Shared → Prop} {s : Shared}

theorem nextOf_tuple_item {it l : Addr} {i : Nat} {items : Array Value} {x : Value} {Q : Value → Shared → Prop} (hit : s.heap.IsTupleIter it l i)
    (hl : s.heap.IsTuple l items) (hx : items[i]? = some x)
    (hQ : ∀ h', h'.IsTupleIter it l (i + 1) → Heap.SameBut it s.heap h' → Q x { s with heap := h' }) :
    wpAny (model prog w) A (Builtin.SmallTypes.nextOf (.ref it)) Q E s := by
  obtain ⟨o, ho, hc, hd⟩ := id hit
  obtain ⟨ol, hol, _, nl, hdl⟩ := hl
  unfold Builtin.SmallTypes.nextOf
  refine wpAny_bind (wpAny_callSpecial?_slot (name := Str.ofString "__next__") hit.typeIs F.slot_tuple_iterator_next
    (wpAny_call_entry F.slot_tuple_iterator_next hit.typeIs F.entry_tuple_iterator_next ?_ (F.args_tuple_iterator_next_1 _)))
  show wpAny _ _ (field (.ref it) 0 >>= _) _ _ s
  refine wpAny_bind (wpAny_field ho hd (x := .ref l) rfl ?_)
  show wpAny _ _ (if (Value.ref l == Value.none) = true then _ else _) _ _ s
  rw [if_neg (show ¬ ((Value.ref l == Value.none) = true) from Bool.false_ne_true)]
  show wpAny _ _ (field (.ref it) 1 >>= _) _ _ s
  refine wpAny_bind (wpAny_field ho hd (x := .int i 0) rfl ?_)
  show wpAny _ _ (seqItems? (.ref l) >>= _) _ _ s
  refine wpAny_bind (wpAny_seqItems hol hdl ?_)
  simp only [Int.toNat_natCast, hx]
  refine wpAny_bind (wpAny_setField ho hd (by simp) (wpAny_pure ⟨x, rfl, wpAny_pure (hQ _ ?_ (Heap.SameBut.update ..))⟩))
  exact ⟨_, Heap.get?_update_self _ ho (Obj.isFreed_of_fields (Obj.data_mapFields hd _)), (Obj.cls_mapFields ..).trans hc, by
    rw [Obj.data_mapFields hd]; simp [rawInt]⟩
theorem nextOf_tuple_end {it l : Addr} {i : Nat} {items : Array Value} {Q : Value → Shared → Prop} (hh : A.handled = none)
    (hit : s.heap.IsTupleIter it l i) (hl : s.heap.IsTuple l items) (hx : items[i]? = none)
    (hE : ∀ h' e, Heap.ExtBut it s.heap h' → (∃ o, h'.get? e = some o ∧ o.cls = .type "StopIteration") → E (.ref e) { s with heap := h' }) :
    wpAny (model prog w) A (Builtin.SmallTypes.nextOf (.ref it)) Q E s := by
  obtain ⟨o, ho, hc, hd⟩ := id hit
  obtain ⟨ol, hol, _, nl, hdl⟩ := hl
  unfold Builtin.SmallTypes.nextOf
  refine wpAny_bind (wpAny_callSpecial?_slot (name := Str.ofString "__next__") hit.typeIs F.slot_tuple_iterator_next
    (wpAny_call_entry F.slot_tuple_iterator_next hit.typeIs F.entry_tuple_iterator_next ?_ (F.args_tuple_iterator_next_1 _)))
  show wpAny _ _ (field (.ref it) 0 >>= _) _ _ s
  refine wpAny_bind (wpAny_field ho hd (x := .ref l) rfl ?_)
  show wpAny _ _ (if (Value.ref l == Value.none) = true then _ else _) _ _ s
  rw [if_neg (show ¬ ((Value.ref l == Value.none) = true) from Bool.false_ne_true)]
  show wpAny _ _ (field (.ref it) 1 >>= _) _ _ s
  refine wpAny_bind (wpAny_field ho hd (x := .int i 0) rfl ?_)
  show wpAny _ _ (seqItems? (.ref l) >>= _) _ _ s
  refine wpAny_bind (wpAny_seqItems hol hdl ?_)
  simp only [Int.toNat_natCast, hx]
  refine wpAny_bind (wpAny_rule (wpAny_bind (wpAny_setField ho hd (by simp) ?_)))
  show wpAny _ _ (newExc (.type "StopIteration") [] >>= _) _ _ _
  refine wpAny_bind ?_
  simp only [newExc, newTuple]
  refine wpAny_bind (wpAny_newObj_type ?_ (by size_fits))
  refine wpAny_bind (m := firstArgMember _ _) (wpAny_of_eq (a := Value.none) (by first | rfl | (simp only [firstArgMember]; rfl)) ?_)
  refine wpAny_newObj_type ?_ (by size_fits)
  simp only [raiseNew]
  refine wpAny_bind (wpAny_handled ?_)
  first | rw [show A.in1.handled = none from hh] | rw [hh]
  refine wpAny_bind (wpAny_pure (wpAny_throw ?_))
  exact hE _ _ (((Heap.SameBut.update ..).extBut.push _).push _) ⟨_, Heap.get?_push_size _ rfl, rfl⟩

/-- an iterator over a list or a tuple, and what it walks over -/
structure Zd where
  i : Addr
  l : Addr
  xs : List Value
def Zd.At (d : Zd) (h : Heap) (k : Nat) : Prop := (h.IsListIter d.i d.l k ∧ h.IsList d.l d.xs.toArray) ∨ (h.IsTupleIter d.i d.l k ∧ h.IsTuple d.l d.xs.toArray)
theorem Zd.At.ext {d : Zd} {h h' : Heap} {k : Nat} (a : d.At h k) (hi : ∀ o, h.get? d.i = some o → h'.get? d.i = some o) (hl : ∀ o, h.get? d.l = some o → h'.get? d.l = some o) : d.At h' k :=
  a.imp (fun a => ⟨a.1.at hi, a.2.at hl⟩) fun a => ⟨a.1.at hi, a.2.at hl⟩
theorem Zd.At.live {d : Zd} {h : Heap} {k : Nat} (a : d.At h k) : (∃ o, h.get? d.i = some o) ∧ ∃ o, h.get? d.l = some o := by
  rcases a with a | a <;> exact ⟨let ⟨o, e, _⟩ := a.1; ⟨o, e⟩, let ⟨o, e, _⟩ := a.2; ⟨o, e⟩⟩
theorem Zd.next {d : Zd} {k : Nat} {x : Value} {Q : Value → Shared → Prop} (a : d.At s.heap k) (hne : d.l ≠ d.i) (hx : d.xs[k]? = some x) (hQ : ∀ h', d.At h' (k + 1) → Heap.SameBut d.i s.heap h' → Q x { s with heap := h' }) :
    wpAny (model prog w) A (Builtin.SmallTypes.nextOf (.ref d.i)) Q E s := by
  rcases a with a | a
  · exact wpAny_nextOf_list_item a.1 a.2 (by simpa using hx) fun h' h1 h2 => hQ h' (.inl ⟨h1, a.2.extBut h2.extBut hne⟩) h2
  · exact nextOf_tuple_item a.1 a.2 (by simpa using hx) fun h' h1 h2 => hQ h' (.inr ⟨h1, a.2.extBut h2.extBut hne⟩) h2
theorem Zd.end {d : Zd} {k : Nat} {Q : Value → Shared → Prop} (hh : A.handled = none) (a : d.At s.heap k) (hx : d.xs[k]? = none)
    (hE : ∀ h' e, Heap.ExtBut d.i s.heap h' → (∃ o, h'.get? e = some o ∧ o.cls = .type "StopIteration") → E (.ref e) { s with heap := h' }) :
    wpAny (model prog w) A (Builtin.SmallTypes.nextOf (.ref d.i)) Q E s := by
  rcases a with a | a
  · exact wpAny_nextOf_list_end hh a.1 a.2 (by simpa using hx) hE
  · exact nextOf_tuple_end hh a.1 a.2 (by simpa using hx) hE

abbrev IsTp (h : Heap) (T : Addr) (vs : List Value) : Prop := h.get? T = some { cls := .type "tuple", data := .seq vs.toArray }
theorem updateSeq_tp {T : Addr} {vs us : List Value} {x : Value} {k : Nat} {Q : Unit → Shared → Prop} (hT : IsTp s.heap T vs) (hu : vs.set k x = us) (hz : vs.length ≤ 1000)
    (h : ∀ h', IsTp h' T us → Heap.SameBut T s.heap h' → Q () { s with heap := h' }) :
    wpAny (model prog w) A (updateSeq T (·.setIfInBounds k x)) Q E s := by
  refine wpAny_updateSeq hT rfl (h _ ?_ (Heap.SameBut.update ..)) (by have := sizeLine_eq; simp; omega) (by have := sizeLine_eq; simp; omega)
  show Heap.get? _ _ = _
  rw [Heap.get?_update_self _ hT rfl]
  simp [Obj.mapSeq, hu]
  rw [← hu]; simp

structure Zap (z TI TO : Addr) (ds : List Zd) : Prop where
  ne : ds ≠ []
  TIz : TI ≠ z
  TOz : TO ≠ z
  TITO : TI ≠ TO
  nd : (ds.map (·.i)).Nodup
  iz : ∀ d ∈ ds, d.i ≠ z
  iTI : ∀ d ∈ ds, d.i ≠ TI
  iTO : ∀ d ∈ ds, d.i ≠ TO
  lz : ∀ d ∈ ds, d.l ≠ z
  lTO : ∀ d ∈ ds, d.l ≠ TO
  li : ∀ d ∈ ds, ∀ e ∈ ds, d.l ≠ e.i

theorem zipN_item {z TI TO : Addr} {ds : List Zd} {k : Nat} {old : List Value} {vals : List Value} {Q : Value → Shared → Prop} (D : Zap z TI TO ds)
    (hz : IsZip s.heap z TI TO .none) (hTI : IsTp s.heap TI (ds.map fun d => .ref d.i)) (hTO : IsTp s.heap TO old) (ho : old.length = ds.length) (hd : ∀ d ∈ ds, d.At s.heap k)
    (hv : vals.length = ds.length) (hsm : ds.length ≤ 900) (hx : ∀ (j : Nat) (d : Zd), ds[j]? = some d → d.xs[k]? = vals[j]?)
    (hQ : ∀ h', IsZip h' z TI TO (rawInt s.heap.objs.size) → IsTp h' TI (ds.map fun d => .ref d.i) → IsTp h' TO vals → (∀ d ∈ ds, d.At h' (k + 1)) → IsTp h' s.heap.objs.size vals → h'.objs.size = s.heap.objs.size + 1 →
      (∀ c o, c ≠ z → c ≠ TO → c ∉ ds.map (·.i) → s.heap.get? c = some o → h'.get? c = some o) → Q (.ref s.heap.objs.size) { s with heap := h' }) :
    wpAny (model prog w) A (Builtin.«zip.__next__» ⟨[.ref z], []⟩) (fun fin s' => ∃ v, fin = .done (.ret v) ∧ Q v s') E s := by
  show wpAny _ _ (field (.ref z) 2 >>= _) _ _ _
  refine wpAny_bind (wpAny_field hz rfl (x := .bool false) rfl ?_)
  show wpAny _ _ (field (.ref z) 3 >>= _) _ _ _
  refine wpAny_bind (wpAny_field hz rfl (x := .ref TI) rfl ?_)
  refine wpAny_bind (wpAny_seqItems hTI rfl ?_)
  dsimp only
  rw [if_neg (by have := D.ne; cases ds <;> simp_all)]
  show wpAny _ _ (Builtin.SmallTypes.ownedTupleIsFree (.ref z) >>= _) _ _ _
  refine wpAny_bind ?_
  unfold Builtin.SmallTypes.ownedTupleIsFree
  refine wpAny_bind (wpAny_field hz rfl (x := .none) rfl (wpAny_pure ?_))
  simp only [if_true]
  refine wpAny_bind (wpAny_rule ?_)
  refine wpAny_bind (wpAny_field hz rfl (x := .ref TO) rfl ?_)
  refine wpAny_bind (wpAny_setField_rec hz (by simp) fun h₁ hz₁ hs₁ => ?_)
  replace hz₁ : IsZip h₁ z TI TO .ellipsis := hz₁
  refine wpAny_bind ?_
  refine wpAny_forIn_list _ (fun rest b s' => b = ⟨none, PUnit.unit⟩ ∧ ∃ pre suf vs olds h', ds = pre ++ suf ∧ rest = (suf.map fun d => Value.ref d.i).zipIdx pre.length ∧ vals.take pre.length = vs ∧ olds.length = suf.length ∧ s' = { s with heap := h' } ∧
    IsZip h' z TI TO .ellipsis ∧ IsTp h' TI (ds.map fun d => .ref d.i) ∧ IsTp h' TO (vs ++ olds) ∧ (∀ d ∈ pre, d.At h' (k + 1)) ∧ (∀ d ∈ suf, d.At h' k) ∧ h'.objs.size = s.heap.objs.size ∧
    (∀ c o, c ≠ z → c ≠ TO → c ∉ ds.map (·.i) → s.heap.get? c = some o → h'.get? c = some o)) _ ?_ ?_ _ _ ?_
  · rintro ⟨xv, j⟩ rest b s' ⟨rfl, pre, suf, vs, olds, h', hds, hrest, hvs, hol, rfl, hz', hTI', hTO', hpre, hsuf, hsz, hk⟩
    cases suf with
    | nil => cases hrest
    | cons d suf =>
      cases olds with
      | nil => cases hol
      | cons o olds =>
        rw [List.map_cons, List.zipIdx_cons] at hrest
        obtain ⟨e1, e2⟩ := List.cons.inj hrest
        obtain ⟨e3, e4⟩ := Prod.mk.inj e1
        subst e3; subst e4
        have hdm : d ∈ ds := by rw [hds]; simp
        have hj : ds[pre.length]? = some d := by rw [hds]; simp
        have hxx := hx _ _ hj
        have hlt : pre.length < vals.length := by rw [hv, hds]; simp
        rw [List.getElem?_eq_getElem hlt] at hxx
        have vl : vs.length = pre.length := by rw [← hvs, List.length_take]; omega
        refine wpAny_bind (wpAny_onRaise ?_)
        show wpAny _ _ (Builtin.SmallTypes.nextOf (.ref d.i) >>= _) _ _ _
        refine wpAny_bind (Zd.next (hsuf d (.head _)) (D.li d hdm d hdm) hxx fun h₂ hd₂ hs₂ => wpAny_pure ?_)
        have hTO₂ : IsTp h₂ TO (vs ++ o :: olds) := hs₂.extBut _ _ (Ne.symm (D.iTO d hdm)) hTO'
        refine wpAny_bind (wpAny_seqItems hTO₂ rfl ?_)
        refine wpAny_bind (updateSeq_tp (us := (vs ++ [vals[pre.length]]) ++ olds) hTO₂ (by show (vs ++ o :: olds).set pre.length _ = _; rw [List.set_append_right _ _ (by omega), vl, Nat.sub_self]; simp) (by rw [hds] at hsm; simp at hsm hol ⊢; omega) fun h₃ hTO₃ hs₃ => ?_)
        refine wpAny_bind (wpAny_letGo (wpAny_pure ⟨rfl, pre ++ [d], suf, _, olds, h₃, by rw [hds]; simp, by rw [e2]; simp, ?_, by simpa using hol, rfl, ?_, ?_, hTO₃, ?_, ?_, ?_, ?_⟩))
        · rw [List.length_append, List.length_singleton, List.take_add_one, hvs, List.getElem?_eq_getElem hlt]; rfl
        · exact hs₃.extBut _ _ D.TOz.symm (hs₂.extBut _ _ (D.iz d hdm).symm hz')
        · exact hs₃.extBut _ _ D.TITO (hs₂.extBut _ _ (D.iTI d hdm).symm hTI')
        · have nd := D.nd
          rw [hds, List.map_append, List.map_cons] at nd
          obtain ⟨n1, n2, n3⟩ := List.nodup_append.mp nd
          intro e he
          have hem : ∀ e ∈ pre, e ∈ ds := fun e he => by rw [hds]; exact List.mem_append_left _ he
          rcases List.mem_append.mp he with he | he
          · exact (hpre e he).ext (fun o x => hs₃.extBut _ _ (D.iTO e (hem e he)) (hs₂.extBut _ _ (n3 e.i (List.mem_map_of_mem he) d.i (.head _)) x)) fun o x => hs₃.extBut _ _ (D.lTO e (hem e he)) (hs₂.extBut _ _ (D.li e (hem e he) d hdm) x)
          · rw [List.mem_singleton.mp he]
            exact hd₂.ext (fun o x => hs₃.extBut _ _ (D.iTO d hdm) x) fun o x => hs₃.extBut _ _ (D.lTO d hdm) x
        · have nd := D.nd
          rw [hds, List.map_append, List.map_cons] at nd
          obtain ⟨n1, n2, n3⟩ := List.nodup_append.mp nd
          intro e he
          have hem : e ∈ ds := by rw [hds]; exact List.mem_append_right _ (.tail _ he)
          exact (hsuf e (.tail _ he)).ext (fun o x => hs₃.extBut _ _ (D.iTO e hem) (hs₂.extBut _ _ (fun q => (List.nodup_cons.mp n2).1 (by rw [← q]; exact List.mem_map_of_mem (f := (·.i)) he)) x)) fun o x => hs₃.extBut _ _ (D.lTO e hem) (hs₂.extBut _ _ (D.li e hem d hdm) x)
        · rw [hs₃.1, hs₂.1]; exact hsz
        · exact fun c o c1 c2 c3 x => hs₃.extBut _ _ c2 (hs₂.extBut _ _ (fun q => c3 (by rw [q]; exact List.mem_map_of_mem (f := (·.i)) hdm)) (hk c o c1 c2 c3 x))
  · rintro b s' ⟨rfl, pre, suf, vs, olds, h₅, hds, hrest, hvs, hol, rfl, hz₅, hTI₅, hTO₅, hpre, hsuf, hsz, hk⟩
    have hs0 : suf = [] := by cases suf with | nil => rfl | cons => cases hrest
    subst hs0
    have ho0 : olds = [] := List.eq_nil_of_length_eq_zero (by simpa using hol)
    subst ho0
    rw [List.append_nil] at hds hTO₅
    subst hds
    rw [List.take_of_length_le (by omega)] at hvs
    subst hvs
    dsimp only
    refine wpAny_bind (wpAny_seqItems hTO₅ rfl ?_)
    refine wpAny_bind (wpAny_newTuple ?_ (by have := sizeLine_eq; simp; omega))
    have hzlt : z < h₅.objs.size := Heap.lt_size hz₅
    show wpAny _ _ (Builtin.SmallTypes.ownedTupleHandOut (.ref z) (.ref h₅.objs.size) >>= _) _ _ _
    refine wpAny_bind ?_
    unfold Builtin.SmallTypes.ownedTupleHandOut
    have hz₆ : IsZip (h₅.push { cls := .type "tuple", data := .seq vals.toArray }) z TI TO .ellipsis := Heap.get?_push_of_some _ hz₅
    refine wpAny_bind (wpAny_setField_rec hz₆ (by simp) fun h₇ hz₇ hs₇ => ?_)
    replace hz₇ : IsZip h₇ z TI TO (rawInt h₅.objs.size) := hz₇
    refine wpAny_setField_rec hz₇ (by simp) fun h₈ hz₈ hs₈ => ?_
    replace hz₈ : IsZip h₈ z TI TO (rawInt h₅.objs.size) := hz₈
    have up : ∀ c o, c ≠ z → h₅.get? c = some o → h₈.get? c = some o := fun c o c1 e => hs₈.extBut _ _ c1 (hs₇.extBut _ _ c1 (Heap.get?_push_of_some _ e))
    have hT₈ : IsTp h₈ h₅.objs.size vals := hs₈.extBut _ _ (Nat.ne_of_gt hzlt) (hs₇.extBut _ _ (Nat.ne_of_gt hzlt) (Heap.get?_push_size _ rfl))
    have hz8 : h₈.objs.size = h₅.objs.size + 1 := by rw [hs₈.1, hs₇.1, Heap.size_push]
    rw [hsz] at hz₈ hT₈ hz8
    refine wpAny_pure ⟨_, rfl, ?_⟩
    show Q (.ref h₅.objs.size) _
    rw [hsz]
    exact hQ h₈ hz₈ (up _ _ D.TIz hTI₅) (up _ _ D.TOz hTO₅) (fun d hd => (hpre d hd).ext (fun o e => up _ o (D.iz d (by simpa using hd)) e) fun o e => up _ o (D.lz d (by simpa using hd)) e) hT₈ hz8 fun c o c1 c2 c3 e => up c o c1 (hk c o c1 c2 c3 e)
  · exact ⟨rfl, [], ds, [], old, h₁, rfl, by simp, rfl, ho, rfl, hz₁, hs₁.extBut _ _ D.TIz hTI, by simpa using hs₁.extBut _ _ D.TOz hTO, (fun d hd => nomatch hd), fun d hdm => (hd d hdm).ext (fun o e => hs₁.extBut _ _ (D.iz d hdm) e) fun o e => hs₁.extBut _ _ (D.lz d hdm) e, hs₁.1,
      fun c o c1 c2 c3 e => hs₁.extBut _ _ c1 e⟩

theorem zipN_end {z TI TO : Addr} {d₀ : Zd} {ds : List Zd} {k : Nat} {Q : Fin → Shared → Prop} (hh : A.handled = none) (D : Zap z TI TO (d₀ :: ds))
    (hz : IsZip s.heap z TI TO .none) (hTI : IsTp s.heap TI ((d₀ :: ds).map fun d => .ref d.i)) (hd : d₀.At s.heap k) (hx : d₀.xs[k]? = none)
    (hE : ∀ h' e, (∀ c o, c ≠ z → c ∉ (d₀ :: ds).map (·.i) → s.heap.get? c = some o → h'.get? c = some o) → (∃ o, h'.get? e = some o ∧ o.cls = .type "StopIteration") → E (.ref e) { s with heap := h' }) :
    wpAny (model prog w) A (Builtin.«zip.__next__» ⟨[.ref z], []⟩) Q E s := by
  show wpAny _ _ (field (.ref z) 2 >>= _) _ _ _
  refine wpAny_bind (wpAny_field hz rfl (x := .bool false) rfl ?_)
  show wpAny _ _ (field (.ref z) 3 >>= _) _ _ _
  refine wpAny_bind (wpAny_field hz rfl (x := .ref TI) rfl ?_)
  refine wpAny_bind (wpAny_seqItems hTI rfl ?_)
  dsimp only
  rw [if_neg (by simp)]
  show wpAny _ _ (Builtin.SmallTypes.ownedTupleIsFree (.ref z) >>= _) _ _ _
  refine wpAny_bind ?_
  unfold Builtin.SmallTypes.ownedTupleIsFree
  refine wpAny_bind (wpAny_field hz rfl (x := .none) rfl (wpAny_pure ?_))
  simp only [if_true]
  refine wpAny_bind (wpAny_rule ?_)
  refine wpAny_bind (wpAny_field hz rfl (x := .ref TO) rfl ?_)
  refine wpAny_bind (wpAny_setField_rec hz (by simp) fun h₁ hz₁ hs₁ => ?_)
  replace hz₁ : IsZip h₁ z TI TO .ellipsis := hz₁
  refine wpAny_bind ?_
  simp only [List.map_cons, List.zipIdx_cons, List.forIn_cons]
  refine wpAny_bind (wpAny_bind (wpAny_onRaise ?_))
  show wpAny _ _ (Builtin.SmallTypes.nextOf (.ref d₀.i) >>= _) _ _ _
  have m0 := List.mem_cons_self (a := d₀) (l := ds)
  refine wpAny_bind (Zd.end hh (hd.ext (fun o e => hs₁.extBut _ _ (D.iz d₀ m0) e) fun o e => hs₁.extBut _ _ (D.lz d₀ m0) e) hx fun h₂ e hs₂ he => ?_)
  obtain ⟨oe, hoe, hce⟩ := he
  have hz₂ : IsZip h₂ z TI TO .ellipsis := hs₂ _ _ (D.iz d₀ m0).symm hz₁
  have hez : e ≠ z := fun x => by subst x; rw [hz₂] at hoe; cases hoe; simp at hce
  refine wpAny_setField_rec hz₂ (by simp) fun h₃ _ hs₃ => hE h₃ e (fun c o c1 c3 x => hs₃.extBut _ _ c1 (hs₂ _ _ (fun q => c3 (by rw [q]; exact .head _)) (hs₁.extBut _ _ c1 x))) ⟨oe, hs₃.extBut _ _ hez hoe, hce⟩

-- the walk
theorem zvals {i : Nat} : ∀ dd : List Zd, (∀ e ∈ dd, i < e.xs.length) → ∃ vals : List Value, vals.map some = dd.map (fun d => d.xs[i]?)
  | [], _ => ⟨[], rfl⟩
  | e :: r, lt => by
    obtain ⟨vs, hvs⟩ := zvals r fun e he => lt e (.tail _ he)
    exact ⟨e.xs[i]'(lt e (.head _)) :: vs, by rw [List.map_cons, List.map_cons, hvs, List.getElem?_eq_getElem (lt e (.head _))]⟩
theorem Itr.zip {elts : List Expr} {kk : Nat} {pt : Pos} {z TI TO : Addr} {d₀ : Zd} {ds : List Zd} {m : Nat} (hh : A.handled = none) (D : Zap z TI TO (d₀ :: ds)) (hsm : (d₀ :: ds).length ≤ 900) (hm : ∀ d ∈ d₀ :: ds, d.xs.length = m) :
    Itr prog w A (.Tuple elts kk pt) z (z :: TI :: TO :: ((d₀ :: ds).map (·.i) ++ (d₀ :: ds).map (·.l))) (z :: TO :: (d₀ :: ds).map (·.i)) m
      (fun i v h => ∃ (T : Addr) (vals : List Value), v = .ref T ∧ vals.map some = (d₀ :: ds).map (fun d => d.xs[i]?) ∧ h.IsTuple T vals.toArray)
      (fun i h => IsZip h z TI TO .none ∧ IsTp h TI ((d₀ :: ds).map fun d => .ref d.i) ∧ (∃ old, old.length = (d₀ :: ds).length ∧ IsTp h TO old) ∧ ∀ d ∈ d₀ :: ds, d.At h i) where
  sub := fun b hb => by
    simp only [List.mem_cons, List.mem_append] at hb ⊢
    rcases hb with hb | hb | hb
    · exact .inl hb
    · exact .inr (.inr (.inl hb))
    · exact .inr (.inr (.inr (.inl (by simpa using hb))))
  frame := fun i h h' ⟨a, b, ⟨old, c1, c2⟩, d⟩ hk => ⟨hk z (.head _) _ a, hk TI (.tail _ (.head _)) _ b, ⟨old, c1, hk TO (.tail _ (.tail _ (.head _))) _ c2⟩, fun e he => (d e he).ext
    (fun o x => hk _ (.tail _ (.tail _ (.tail _ (List.mem_append_left _ (List.mem_map_of_mem he))))) o x) fun o x => hk _ (.tail _ (.tail _ (.tail _ (List.mem_append_right _ (List.mem_map_of_mem he))))) o x⟩
  live := fun i h ⟨a, b, ⟨old, c1, c2⟩, d⟩ x hx => by
    rcases List.mem_cons.mp hx with rfl | hx
    · exact ⟨_, a⟩
    · rcases List.mem_cons.mp hx with rfl | hx
      · exact ⟨_, b⟩
      · rcases List.mem_cons.mp hx with rfl | hx
        · exact ⟨_, c2⟩
        · rcases List.mem_append.mp hx with hx | hx <;> (obtain ⟨e, he, rfl⟩ := List.mem_map.mp hx)
          · exact (d e he).live.1
          · exact (d e he).live.2
  turn := fun i s hi ⟨a, b, ⟨old, c1, c2⟩, d⟩ => by
    have hT : s.TypeIs (.ref z) "zip" := ⟨_, a, rfl⟩
    have lt : ∀ e ∈ d₀ :: ds, i < e.xs.length := fun e he => by rw [hm e he]; exact hi
    obtain ⟨vals, hv⟩ : ∃ vals : List Value, vals.map some = (d₀ :: ds).map (fun d => d.xs[i]?) := by
      have : ∀ dd : List Zd, (∀ e ∈ dd, i < e.xs.length) → ∃ vals : List Value, vals.map some = dd.map (fun d => d.xs[i]?) := zvals
      exact this _ lt
    have hlen : vals.length = (d₀ :: ds).length := by have := congrArg List.length hv; simpa using this
    have hx : ∀ (j : Nat) (e : Zd), (d₀ :: ds)[j]? = some e → e.xs[i]? = vals[j]? := fun j e he => by
      have := congrArg (fun l => l[j]?) hv
      simp only [List.getElem?_map, he, Option.map_some] at this
      cases q : vals[j]? with
      | none => rw [q] at this; cases this
      | some x => rw [q] at this; exact (Option.some.inj this).symm
    unfold pyNext
    refine wpAny_bind (wpAny_attempt (wpAny_callSpecial?_slot (name := Str.ofString "__next__") hT F.slot_zip_next
      (wpAny_call_entry F.slot_zip_next hT F.entry_zip_next
        (zipN_item D a b c2 c1 d hlen hsm hx fun h' a1 a2 a3 a4 a5 a6 a7 => wpAny_pure ⟨_, rfl, ?_⟩) (F.args_zip_next_1 _))))
    refine wpAny_letOwnedTupleGo_zip a1 fun h2 z2 s2 => ?_
    have nT : ∀ x o, s.heap.get? x = some o → s.heap.objs.size ≠ x := fun x o e => Nat.ne_of_gt (Heap.lt_size e)
    refine ⟨⟨z2, s2.extBut _ _ D.TIz a2, ⟨vals, hlen, s2.extBut _ _ D.TOz a3⟩, fun e he => (a4 e he).ext (fun o x => s2.extBut _ _ (D.iz e he) x) fun o x => s2.extBut _ _ (D.lz e he) x⟩, ⟨rfl, rfl, rfl⟩, fun x o hx e => ?_, fun h3 hn => ⟨_, vals, rfl, hv, ?_⟩⟩
    · simp only [List.mem_cons, not_or] at hx
      exact s2.extBut _ _ hx.1 (a7 x o hx.1 hx.2.1 (by simpa using hx.2.2) e)
    · exact ⟨_, hn _ _ (heap_new s.heap) (s2.extBut _ _ (nT z _ a) a5), rfl, 0, rfl⟩
  done := fun s ⟨a, b, ⟨old, c1, c2⟩, d⟩ => by
    have hT : s.TypeIs (.ref z) "zip" := ⟨_, a, rfl⟩
    unfold pyNext
    refine wpAny_bind (wpAny_attempt (wpAny_callSpecial?_slot (name := Str.ofString "__next__") hT F.slot_zip_next
      (wpAny_call_entry F.slot_zip_next hT F.entry_zip_next (zipN_end hh D a b (d d₀ (.head _)) (List.getElem?_eq_none (by rw [hm d₀ (.head _)]; exact Nat.le_refl _)) fun h' e hk he => ?_) (F.args_zip_next_1 _))))
    obtain ⟨o, ho, hc⟩ := he
    refine wpAny_bind (wpAny_isInstance (T := "StopIteration") (b := true) ⟨o, ho, hc⟩ isSubtype_stop ?_)
    refine wpAny_pure ⟨rfl, ⟨rfl, rfl, rfl⟩, fun x o hx e => ?_⟩
    simp only [List.mem_cons, not_or] at hx
    exact hk x o hx.1 (by simpa using hx.2.2) e
  self := fun i s ⟨a, b, _, d⟩ => wpAny_pyIter_zip a ⟨rfl, rfl⟩
end
end Mine

namespace Mine

def tupO (vs : List Value) : Obj := { cls := .type "tuple", data := .seq vs.toArray }
def zipO (TI TO : Addr) : Obj := { cls := .type "zip", data := .fields #[.none, .bool false, .bool false, .ref TI, .ref TO] }
def itTy : Bool → String | true => "tuple_iterator" | false => "list_iterator"
def zmem (zs : List (Zd × Bool)) : Mem := zs.map fun d => (d.1.i, .raw (iterO (itTy d.2) d.1.l))
def ZipM (z TI TO : Addr) (zs : List (Zd × Bool)) : Mem := (z, .raw (zipO TI TO)) :: (TO, .raw (tupO (zs.map fun _ => .none))) :: (TI, .raw (tupO (zs.map fun d => .ref d.1.i))) :: zmem zs
def isSeq (g : G) (tup : Bool) (a : Addr) (xs : List Value) : Prop := match tup with | true => Tup g a xs | false => Lst g a xs

theorem typeCall_zip_3 (a b c : Value) : checkTypeCall "zip" ⟨[a, b, c], []⟩ = pure () := by kernel_rfl
theorem newCall_zip_3 (a b c : Value) : checkBuiltinCall "zip.__new__" ⟨[.type "zip", a, b, c], []⟩ = pure () := by kernel_rfl
theorem args_object_init_4 (a b c d : Value) : argsOk "object.__init__" ⟨[a, b, c, d], []⟩ := by
  unfold argsOk; rw [signature?_of (id := "object.__init__") (n := ['_', '_', 't', 'i', 'n', 'i', '_', '_']) (o := ['t', 'c', 'e', 'j', 'b', 'o']) (by kernel_rfl) F.owner_object]; kernel_rfl

abbrev zH1 (h : Heap) (t1 : Bool) (l1 : Addr) : Heap := h.push (iterO (itTy t1) l1)
theorem Heap.IsList.pushed {h : Heap} {a : Addr} {xs : Array Value} (x : h.IsList a xs) (o : Obj) : (h.push o).IsList a xs := x.push o

theorem meets_zip_TT (l1 l2 : Addr) (xs ys : Array Value) :
    Meets (Builtin.«zip.__new__» ⟨[.type "zip", .ref l1, .ref l2], []⟩) (fun _ R s => s.heap.IsTuple l1 xs ∧ s.heap.IsTuple l2 ys ∧
      R (.ok (.ret (.ref (s.heap.objs.size + 4)))) { s with heap := ((((s.heap.push (iterO "tuple_iterator" l1)).push (iterO "tuple_iterator" l2)).push (tupO [.ref s.heap.objs.size, .ref (s.heap.objs.size + 1)])).push (tupO [.none, .none])).push (zipO (s.heap.objs.size + 2) (s.heap.objs.size + 3)) }) :=
  .of_wp fun prog w A R s h => by
    obtain ⟨hp, g, d, tk, os⟩ := s; obtain ⟨hl1, hl2, h⟩ := h
    have hsub := sub_zip
    have hL1 : Heap.IsTuple (Shared.heap ⟨hp, g, d, tk, os⟩) l1 xs := hl1
    have hL2 : Heap.IsTuple (Shared.heap ⟨hp.push { cls := .type "tuple_iterator", data := .fields #[.ref l1, .int 0 0] }, g, d, tk, os⟩) l2 ys := Heap.IsTuple.push hl2 _
    have z1 : (hp.push { cls := .type "tuple_iterator", data := .fields #[.ref l1, .int 0 0] }).objs.size = hp.objs.size + 1 := Heap.size_push ..
    wp_walk using wpAny_pyIter_tuple hL1, wpAny_pyIter_tuple hL2
    refine ⟨_, rfl, ?_⟩
    simp only [Heap.size_push] at h ⊢
    exact h
set_option maxHeartbeats 4000000 in
theorem meets_zip_TTL (l1 l2 l3 : Addr) (xs ys us : Array Value) :
    Meets (Builtin.«zip.__new__» ⟨[.type "zip", .ref l1, .ref l2, .ref l3], []⟩) (fun _ R s => s.heap.IsTuple l1 xs ∧ s.heap.IsTuple l2 ys ∧ s.heap.IsList l3 us ∧
      R (.ok (.ret (.ref (s.heap.objs.size + 5)))) { s with heap := (((((s.heap.push (iterO "tuple_iterator" l1)).push (iterO "tuple_iterator" l2)).push (iterO "list_iterator" l3)).push (tupO [.ref s.heap.objs.size, .ref (s.heap.objs.size + 1), .ref (s.heap.objs.size + 2)])).push (tupO [.none, .none, .none])).push (zipO (s.heap.objs.size + 3) (s.heap.objs.size + 4)) }) :=
  .of_wp fun prog w A R s h => by
    obtain ⟨hp, g, d, tk, os⟩ := s; obtain ⟨hl1, hl2, hl3, h⟩ := h
    have hsub := sub_zip
    have hL1 : Heap.IsTuple (Shared.heap ⟨hp, g, d, tk, os⟩) l1 xs := hl1
    have hL2 : Heap.IsTuple (Shared.heap ⟨hp.push { cls := .type "tuple_iterator", data := .fields #[.ref l1, .int 0 0] }, g, d, tk, os⟩) l2 ys := Heap.IsTuple.push hl2 _
    have hL3 : Heap.IsList (Shared.heap ⟨(hp.push { cls := .type "tuple_iterator", data := .fields #[.ref l1, .int 0 0] }).push { cls := .type "tuple_iterator", data := .fields #[.ref l2, .int 0 0] }, g, d, tk, os⟩) l3 us := Heap.IsList.push (Heap.IsList.push hl3 _) _
    wp_walk using wpAny_pyIter_tuple hL1, wpAny_pyIter_tuple hL2, wpAny_pyIter_list hL3
    refine ⟨_, rfl, ?_⟩
    simp only [Heap.size_push] at h ⊢
    exact h
end Mine

namespace Mine
section
variable {prog : Program} {w : World} {α β : Type} {c : Cx} {g g' : G} {ρ ρ' : Str → Option Value} {M M' : Mem} {K : Frag} {n : Nat} {pos apos : Pos} {P : Params} {h h' : Heap} {l : List (Str × NameKind)}

theorem Itr.imp {A : Around} {target : Expr} {I : Addr} {fp wr : List Addr} {m : Nat} {P P' : Nat → Value → Heap → Prop} {St : Nat → Heap → Prop} (W : Itr prog w A target I fp wr m P St) (h : ∀ i v h, P i v h → P' i v h) : Itr prog w A target I fp wr m P' St where
  sub := W.sub
  frame := W.frame
  live := W.live
  turn := fun i s hi st => wpAny_mono (W.turn i s hi st) (fun r s₁ ⟨v, e, q⟩ => ⟨v, e, wpAny_mono q (fun _ s₂ ⟨a, b, c, d⟩ => ⟨a, b, c, fun h' x => h _ _ _ (d h' x)⟩) fun _ _ e => e⟩) fun _ _ e => e
  done := W.done
  self := W.self
theorem Act.adopts (A : Act P c g ρ M h) (x : Ext h h') : ∀ (news : Mem), (∀ p ∈ news, ∃ o, h'.get? p.1 = some o ∧ p.2.rep P o) → (∀ p ∈ news, h.get? p.1 = none) → (news.map (·.1)).Nodup → Act P c g ρ (news ++ M) h'
  | [], _, _, _ => A.ext x
  | p :: r, h1, h2, h3 => by
    have ih := Act.adopts A x r (fun q hq => h1 q (.tail _ hq)) (fun q hq => h2 q (.tail _ hq)) (List.nodup_cons.mp h3).2
    have f := fresh_new A (h2 p (.head _))
    refine ih.adopt (h1 p (.head _)) ⟨f.1, f.2.1, fun q => ?_⟩
    rcases List.mem_append.mp q with q | q
    · exact f.2.2 (List.mem_append_left _ q)
    · rw [List.map_append] at q
      rcases List.mem_append.mp q with q | q
      · exact (List.nodup_cons.mp h3).1 q
      · exact f.2.2 (List.mem_append_right _ q)
theorem Act.drops : ∀ (news : Mem), Act P c g ρ (news ++ M) h → Act P c g ρ M h
  | [], A => A
  | _ :: r, A => Act.drops r A.drop
theorem above_none {h : Heap} {a : Addr} (e : h.objs.size ≤ a) : h.get? a = none := by
  cases q : h.get? a with
  | none => rfl
  | some o => exact absurd (Heap.lt_size q) (Nat.not_lt.mpr e)
theorem push_at {h : Heap} {o : Obj} {a : Addr} (e : a = h.objs.size) (hf : o.isFreed = false) : (h.push o).get? a = some o := by rw [e]; exact Heap.get?_push_size _ hf

theorem T.zipTT {l1 l2 : Addr} {xs ys : List Value} {Q : Post Value} (S1 : Tup g l1 xs) (S2 : Tup g l2 ys) (h : ∀ z TI TO i1 i2, Q (.ref z) g ρ (ZipM z TI TO [(⟨i1, l1, xs⟩, true), (⟨i2, l2, ys⟩, true)] ++ M)) :
    T prog w c (call (.type "zip") [.ref l1, .ref l2]) Q g ρ M := fun s hA => by
  have t1 : s.heap.IsTuple l1 xs.toArray := ⟨_, Tup.at S1 hA, rfl, 0, rfl⟩
  have t2 : s.heap.IsTuple l2 ys.toArray := ⟨_, Tup.at S2 hA, rfl, 0, rfl⟩
  refine callType_new F.called_zip (by decide) (F.typeCall_zip_2 _ _) (F.newCall_zip_2 _ _) (fun obj => F.args_object_init_3 obj _ _) F.entry_zip_new (meets_zip_TT l1 l2 xs.toArray ys.toArray) ⟨t1, t2, ?_⟩
  have x : Ext s.heap (((((s.heap.push (iterO "tuple_iterator" l1)).push (iterO "tuple_iterator" l2)).push (tupO [.ref s.heap.objs.size, .ref (s.heap.objs.size + 1)])).push (tupO [.none, .none])).push (zipO (s.heap.objs.size + 2) (s.heap.objs.size + 3))) :=
    fun b o e => Heap.get?_push_of_some _ (Heap.get?_push_of_some _ (Heap.get?_push_of_some _ (Heap.get?_push_of_some _ (Heap.get?_push_of_some _ e))))
  have g5 := push_at (h := ((((s.heap.push (iterO "tuple_iterator" l1)).push (iterO "tuple_iterator" l2)).push (tupO [.ref s.heap.objs.size, .ref (s.heap.objs.size + 1)])).push (tupO [.none, .none]))) (o := zipO (s.heap.objs.size + 2) (s.heap.objs.size + 3)) (a := s.heap.objs.size + 4) (by simp [Heap.size_push]) rfl
  refine ⟨⟨_, g5, rfl⟩, g, ρ, _, hA.adopts x (ZipM (s.heap.objs.size + 4) (s.heap.objs.size + 2) (s.heap.objs.size + 3) [(⟨s.heap.objs.size, l1, xs⟩, true), (⟨s.heap.objs.size + 1, l2, ys⟩, true)]) ?_ ?_ ?_, ⟨rfl, rfl, rfl⟩, .refl g, h _ _ _ _ _⟩
  · intro p hp
    simp only [ZipM, zmem, List.map_cons, List.map_nil, List.mem_cons, List.not_mem_nil, or_false] at hp
    rcases hp with rfl | rfl | rfl | rfl | rfl
    · exact ⟨_, g5, rfl⟩
    · exact ⟨_, Heap.get?_push_of_some _ (push_at (by simp [Heap.size_push]) rfl), rfl⟩
    · exact ⟨_, Heap.get?_push_of_some _ (Heap.get?_push_of_some _ (push_at (by simp [Heap.size_push]) rfl)), rfl⟩
    · exact ⟨_, Heap.get?_push_of_some _ (Heap.get?_push_of_some _ (Heap.get?_push_of_some _ (Heap.get?_push_of_some _ (push_at rfl rfl)))), rfl⟩
    · exact ⟨_, Heap.get?_push_of_some _ (Heap.get?_push_of_some _ (Heap.get?_push_of_some _ (push_at (by simp [Heap.size_push]) rfl))), rfl⟩
  · intro p hp
    simp only [ZipM, zmem, List.map_cons, List.map_nil, List.mem_cons, List.not_mem_nil, or_false] at hp
    rcases hp with rfl | rfl | rfl | rfl | rfl <;> exact above_none (by simp)
  · simp [ZipM, zmem]
theorem T.zipTTL {l1 l2 l3 : Addr} {xs ys us : List Value} {Q : Post Value} (S1 : Tup g l1 xs) (S2 : Tup g l2 ys) (S3 : Lst g l3 us) (h : ∀ z TI TO i1 i2 i3, Q (.ref z) g ρ (ZipM z TI TO [(⟨i1, l1, xs⟩, true), (⟨i2, l2, ys⟩, true), (⟨i3, l3, us⟩, false)] ++ M)) :
    T prog w c (call (.type "zip") [.ref l1, .ref l2, .ref l3]) Q g ρ M := fun s hA => by
  have t1 : s.heap.IsTuple l1 xs.toArray := ⟨_, Tup.at S1 hA, rfl, 0, rfl⟩
  have t2 : s.heap.IsTuple l2 ys.toArray := ⟨_, Tup.at S2 hA, rfl, 0, rfl⟩
  obtain ⟨_, t3⟩ := SrcL.at (M := M) (Or.inl S3) hA
  refine callType_new F.called_zip (by decide) (typeCall_zip_3 _ _ _) (newCall_zip_3 _ _ _) (fun obj => args_object_init_4 obj _ _ _) F.entry_zip_new (meets_zip_TTL l1 l2 l3 xs.toArray ys.toArray us.toArray) ⟨t1, t2, t3.isList, ?_⟩
  have x : Ext s.heap ((((((s.heap.push (iterO "tuple_iterator" l1)).push (iterO "tuple_iterator" l2)).push (iterO "list_iterator" l3)).push (tupO [.ref s.heap.objs.size, .ref (s.heap.objs.size + 1), .ref (s.heap.objs.size + 2)])).push (tupO [.none, .none, .none])).push (zipO (s.heap.objs.size + 3) (s.heap.objs.size + 4))) :=
    fun b o e => Heap.get?_push_of_some _ (Heap.get?_push_of_some _ (Heap.get?_push_of_some _ (Heap.get?_push_of_some _ (Heap.get?_push_of_some _ (Heap.get?_push_of_some _ e)))))
  have g5 := push_at (h := (((((s.heap.push (iterO "tuple_iterator" l1)).push (iterO "tuple_iterator" l2)).push (iterO "list_iterator" l3)).push (tupO [.ref s.heap.objs.size, .ref (s.heap.objs.size + 1), .ref (s.heap.objs.size + 2)])).push (tupO [.none, .none, .none]))) (o := zipO (s.heap.objs.size + 3) (s.heap.objs.size + 4)) (a := s.heap.objs.size + 5) (by simp [Heap.size_push]) rfl
  refine ⟨⟨_, g5, rfl⟩, g, ρ, _, hA.adopts x (ZipM (s.heap.objs.size + 5) (s.heap.objs.size + 3) (s.heap.objs.size + 4) [(⟨s.heap.objs.size, l1, xs⟩, true), (⟨s.heap.objs.size + 1, l2, ys⟩, true), (⟨s.heap.objs.size + 2, l3, us⟩, false)]) ?_ ?_ ?_, ⟨rfl, rfl, rfl⟩, .refl g, h _ _ _ _ _ _⟩
  · intro p hp
    simp only [ZipM, zmem, List.map_cons, List.map_nil, List.mem_cons, List.not_mem_nil, or_false] at hp
    rcases hp with rfl | rfl | rfl | rfl | rfl | rfl
    · exact ⟨_, g5, rfl⟩
    · exact ⟨_, Heap.get?_push_of_some _ (push_at (by simp [Heap.size_push]) rfl), rfl⟩
    · exact ⟨_, Heap.get?_push_of_some _ (Heap.get?_push_of_some _ (push_at (by simp [Heap.size_push]) rfl)), rfl⟩
    · exact ⟨_, Heap.get?_push_of_some _ (Heap.get?_push_of_some _ (Heap.get?_push_of_some _ (Heap.get?_push_of_some _ (Heap.get?_push_of_some _ (push_at rfl rfl))))), rfl⟩
    · exact ⟨_, Heap.get?_push_of_some _ (Heap.get?_push_of_some _ (Heap.get?_push_of_some _ (Heap.get?_push_of_some _ (push_at (by simp [Heap.size_push]) rfl)))), rfl⟩
    · exact ⟨_, Heap.get?_push_of_some _ (Heap.get?_push_of_some _ (Heap.get?_push_of_some _ (push_at (by simp [Heap.size_push]) rfl))), rfl⟩
  · intro p hp
    simp only [ZipM, zmem, List.map_cons, List.map_nil, List.mem_cons, List.not_mem_nil, or_false] at hp
    rcases hp with rfl | rfl | rfl | rfl | rfl | rfl <;> exact above_none (by simp)
  · simp [ZipM, zmem]
theorem T.zipLL {l1 l2 : Addr} {xs ys : List Value} {Q : Post Value} (S1 : Lst g l1 xs) (S2 : Lst g l2 ys) (h : ∀ z TI TO i1 i2, Q (.ref z) g ρ (ZipM z TI TO [(⟨i1, l1, xs⟩, false), (⟨i2, l2, ys⟩, false)] ++ M)) :
    T prog w c (call (.type "zip") [.ref l1, .ref l2]) Q g ρ M := fun s hA => by
  obtain ⟨_, t1⟩ := SrcL.at (M := M) (Or.inl S1) hA
  obtain ⟨_, t2⟩ := SrcL.at (M := M) (Or.inl S2) hA
  refine callType_new F.called_zip (by decide) (F.typeCall_zip_2 _ _) (F.newCall_zip_2 _ _) (fun obj => F.args_object_init_3 obj _ _) F.entry_zip_new (meets_zip_new l1 l2 xs.toArray ys.toArray) ⟨t1.isList, t2.isList, ?_⟩
  have e : zipH5 s.heap l1 l2 = (((((s.heap.push (iterO "list_iterator" l1)).push (iterO "list_iterator" l2)).push (tupO [.ref s.heap.objs.size, .ref (s.heap.objs.size + 1)])).push (tupO [.none, .none])).push (zipO (s.heap.objs.size + 2) (s.heap.objs.size + 3))) := by
    simp only [zipH5, zipH4, zipH3, zipH2, zipH1, Heap.size_push]; rfl
  have e' : (zipH4 s.heap l1 l2).objs.size = s.heap.objs.size + 4 := by simp only [zipH4, zipH3, zipH2, zipH1, Heap.size_push]
  show _ ∧ _
  rw [e, e']
  have x : Ext s.heap (((((s.heap.push (iterO "list_iterator" l1)).push (iterO "list_iterator" l2)).push (tupO [.ref s.heap.objs.size, .ref (s.heap.objs.size + 1)])).push (tupO [.none, .none])).push (zipO (s.heap.objs.size + 2) (s.heap.objs.size + 3))) :=
    fun b o e => Heap.get?_push_of_some _ (Heap.get?_push_of_some _ (Heap.get?_push_of_some _ (Heap.get?_push_of_some _ (Heap.get?_push_of_some _ e))))
  have g5 := push_at (h := ((((s.heap.push (iterO "list_iterator" l1)).push (iterO "list_iterator" l2)).push (tupO [.ref s.heap.objs.size, .ref (s.heap.objs.size + 1)])).push (tupO [.none, .none]))) (o := zipO (s.heap.objs.size + 2) (s.heap.objs.size + 3)) (a := s.heap.objs.size + 4) (by simp [Heap.size_push]) rfl
  refine ⟨⟨_, g5, rfl⟩, g, ρ, _, hA.adopts x (ZipM (s.heap.objs.size + 4) (s.heap.objs.size + 2) (s.heap.objs.size + 3) [(⟨s.heap.objs.size, l1, xs⟩, false), (⟨s.heap.objs.size + 1, l2, ys⟩, false)]) ?_ ?_ ?_, ⟨rfl, rfl, rfl⟩, .refl g, h _ _ _ _ _⟩
  · intro p hp
    simp only [ZipM, zmem, List.map_cons, List.map_nil, List.mem_cons, List.not_mem_nil, or_false] at hp
    rcases hp with rfl | rfl | rfl | rfl | rfl
    · exact ⟨_, g5, rfl⟩
    · exact ⟨_, Heap.get?_push_of_some _ (push_at (by simp [Heap.size_push]) rfl), rfl⟩
    · exact ⟨_, Heap.get?_push_of_some _ (Heap.get?_push_of_some _ (push_at (by simp [Heap.size_push]) rfl)), rfl⟩
    · exact ⟨_, Heap.get?_push_of_some _ (Heap.get?_push_of_some _ (Heap.get?_push_of_some _ (Heap.get?_push_of_some _ (push_at rfl rfl)))), rfl⟩
    · exact ⟨_, Heap.get?_push_of_some _ (Heap.get?_push_of_some _ (Heap.get?_push_of_some _ (push_at (by simp [Heap.size_push]) rfl))), rfl⟩
  · intro p hp
    simp only [ZipM, zmem, List.map_cons, List.map_nil, List.mem_cons, List.not_mem_nil, or_false] at hp
    rcases hp with rfl | rfl | rfl | rfl | rfl <;> exact above_none (by simp)
  · simp [ZipM, zmem]

theorem Seqs.zip {elts : List Expr} {kk : Nat} {pt : Pos} {z TI TO : Addr} {z₀ : Zd × Bool} {zs : List (Zd × Bool)} {m : Nat} {k : Nat → (Nat → Value → Heap → Prop) → Mem → Prop} (O : c.Ok K n) (hs : ∀ d ∈ z₀ :: zs, isSeq g d.2 d.1.l d.1.xs)
    (hm : ∀ d ∈ z₀ :: zs, d.1.xs.length = m) (hsm : (z₀ :: zs).length ≤ 900)
    (hk : k m (fun i v h => ∃ (T : Addr) (vals : List Value), v = .ref T ∧ vals.map some = (z₀ :: zs).map (fun d => d.1.xs[i]?) ∧ h.IsTuple T vals.toArray) M) : Seqs prog w c (.Tuple elts kk pt) (.ref z) g ρ (ZipM z TI TO (z₀ :: zs) ++ M) k := by
  refine ⟨_, _, _, hk, fun s hA => ?_⟩
  have known : ∀ d ∈ z₀ :: zs, ∃ m, g d.1.l = some m := fun d hd => by
    have := hs d hd
    unfold isSeq at this
    split at this <;> exact ⟨_, this⟩
  have nd := (List.nodup_append.mp hA.nodup).2.1
  rw [List.map_append] at nd
  obtain ⟨nd1, nd2, nd3⟩ := List.nodup_append.mp nd
  have ei : (zmem (z₀ :: zs)).map (·.1) = (z₀ :: zs).map fun d => d.1.i := by unfold zmem; rw [List.map_map]; rfl
  have nd1' : (z :: TO :: TI :: (z₀ :: zs).map fun d => d.1.i).Nodup := by rw [← ei]; exact nd1
  have inM : ∀ d ∈ z₀ :: zs, (d.1.i, MO.raw (iterO (itTy d.2) d.1.l)) ∈ ZipM z TI TO (z₀ :: zs) ++ M := fun d hd => List.mem_append_left _ (.tail _ (.tail _ (.tail _ (List.mem_map_of_mem (f := fun d : Zd × Bool => (d.1.i, MO.raw (iterO (itTy d.2) d.1.l))) hd))))
  obtain ⟨n1, n1'⟩ := List.nodup_cons.mp nd1'
  obtain ⟨n2, n2'⟩ := List.nodup_cons.mp n1'
  obtain ⟨n3, n3'⟩ := List.nodup_cons.mp n2'
  simp only [List.mem_cons, not_or] at n1 n2
  have imem : ∀ d ∈ z₀ :: zs, d.1.i ∈ (z₀ :: zs).map fun d => d.1.i := fun d hd => List.mem_map_of_mem (f := fun d : Zd × Bool => d.1.i) hd
  have kout : ∀ d ∈ z₀ :: zs, d.1.l ∉ c.own ++ (ZipM z TI TO (z₀ :: zs) ++ M).map (·.1) := fun d hd => let ⟨_, e⟩ := known d hd; hA.known_out e
  have inA : ∀ a ∈ (z :: TO :: TI :: (z₀ :: zs).map fun d => d.1.i), a ∈ c.own ++ (ZipM z TI TO (z₀ :: zs) ++ M).map (·.1) := fun a ha => List.mem_append_right _ (by rw [List.map_append]; exact List.mem_append_left _ (by rw [← ei] at ha; exact ha))
  have apart : ∀ a ∈ (z :: TO :: TI :: (z₀ :: zs).map fun d => d.1.i), a ∉ c.own ++ M.map (·.1) := fun a ha q => by
    rw [← ei] at ha
    rcases List.mem_append.mp q with q | q
    · exact (List.nodup_append.mp hA.nodup).2.2 a q a (by rw [List.map_append]; exact List.mem_append_left _ ha) rfl
    · exact nd3 a ha a q rfl
  have D : Zap z TI TO ((z₀ :: zs).map (·.1)) := by
    refine ⟨(fun q => nomatch q), (fun q => n1.2.1 q.symm), (fun q => n1.1 q.symm), (fun q => n2.1 q.symm), ?_, ?_, ?_, ?_, ?_, ?_, ?_⟩
    · rw [List.map_map]; exact n3'
    all_goals intro d hd; obtain ⟨e, he, rfl⟩ := List.mem_map.mp hd
    · intro q; exact n1.2.2 (by rw [← q]; simpa using imem e he)
    · intro q; exact n3 (by rw [← q]; exact imem e he)
    · intro q; exact n2.2 (by rw [← q]; simpa using imem e he)
    · intro q; exact kout e he (by rw [q]; exact inA _ (.head _))
    · intro q; exact kout e he (by rw [q]; exact inA _ (.tail _ (.head _)))
    · intro f hf q
      obtain ⟨f', hf', rfl⟩ := List.mem_map.mp hf
      exact kout e he (by rw [q]; exact inA _ (.tail _ (.tail _ (.tail _ (imem f' hf')))))
  obtain ⟨_, hz, rfl⟩ := hA.mem (z, .raw (zipO TI TO)) (.head _)
  obtain ⟨_, hTO, rfl⟩ := hA.mem (TO, .raw (tupO ((z₀ :: zs).map fun _ => .none))) (.tail _ (.head _))
  obtain ⟨_, hTI, rfl⟩ := hA.mem (TI, .raw (tupO ((z₀ :: zs).map fun d => .ref d.1.i))) (.tail _ (.tail _ (.head _)))
  have W := Itr.zip (prog := prog) (w := w) (elts := elts) (kk := kk) (pt := pt) (m := m) O.room.handled D (by simpa using hsm) (by
    intro d hd
    obtain ⟨e, he, rfl⟩ := List.mem_map.mp (show d ∈ (z₀ :: zs).map (·.1) from hd)
    exact hm e he)
  have hdrop := Act.drops (ZipM z TI TO (z₀ :: zs)) hA
  have W' := W.imp (P' := fun i v h => ∃ (T : Addr) (vals : List Value), v = .ref T ∧ vals.map some = (z₀ :: zs).map (fun d => d.1.xs[i]?) ∧ Heap.IsTuple h T vals.toArray) fun i v h ⟨T, vals, a, b, cc⟩ => ⟨T, vals, a, by rw [b]; simp, cc⟩
  refine wpAny_pyIter_zip hz ⟨z, _, _, _, rfl, W', ?_, hdrop, ⟨rfl, rfl, rfl⟩, ?_, ?_⟩
  · have e1 : ((z₀ :: zs).map (·.1)).map (fun d => Value.ref d.i) = (z₀ :: zs).map fun d => Value.ref d.1.i := by rw [List.map_map]; rfl
    refine ⟨hz, ?_, ⟨_, ?_, hTO⟩, ?_⟩
    · exact (congrArg (fun l => IsTp s.heap TI l) e1).mpr hTI
    · simp
    · intro d hd
      obtain ⟨e, he, rfl⟩ := List.mem_map.mp (show d ∈ (z₀ :: zs).map (·.1) from hd)
      obtain ⟨_, hi, rfl⟩ := hA.mem _ (inM e he)
      have sq := hs e he
      unfold isSeq at sq
      split at sq
      · rename_i q
        rw [q] at hi
        exact .inr ⟨⟨_, hi, rfl, rfl⟩, ⟨_, Tup.at sq hA, rfl, 0, rfl⟩⟩
      · rename_i q
        rw [q] at hi
        obtain ⟨_, hl⟩ := SrcL.at (M := ZipM z TI TO (z₀ :: zs) ++ M) (Or.inl sq) hA
        exact .inl ⟨⟨_, hi, rfl, rfl⟩, hl.isList⟩
  · intro b hb
    have hb' : b ∈ z :: TO :: TI :: (z₀ :: zs).map fun d => d.1.i := by
      simp only [List.mem_cons, List.map_map, List.map_cons] at hb ⊢
      rcases hb with hb | hb | hb
      · exact .inl hb
      · exact .inr (.inl hb)
      · exact .inr (.inr (.inr hb))
    have := hA.fresh b (inA b hb')
    exact this
  · intro b hb
    rcases List.mem_cons.mp hb with rfl | hb
    · exact apart _ (.head _)
    · rcases List.mem_cons.mp hb with rfl | hb
      · exact apart _ (.tail _ (.tail _ (.head _)))
      · rcases List.mem_cons.mp hb with rfl | hb
        · exact apart _ (.tail _ (.head _))
        · rcases List.mem_append.mp hb with hb | hb <;> (obtain ⟨d, hd, rfl⟩ := List.mem_map.mp hb; obtain ⟨e, he, rfl⟩ := List.mem_map.mp (show d ∈ (z₀ :: zs).map (·.1) from hd))
          · exact apart _ (.tail _ (.tail _ (.tail _ (imem e he))))
          · obtain ⟨_, q⟩ := known e he
            exact hdrop.known_out q
end
end Mine

namespace Mine
open AutoSeq1 (wpAny_loadPart')
section
variable {prog : Program} {w : World} {α β : Type} {c : Cx} {g g' : G} {ρ ρ' : Str → Option Value} {M M' : Mem} {K : Frag} {n : Nat} {pos apos : Pos}

theorem Pu.eqBoolRef {x y : Addr} {b : Bool} (hxy : x = y → b = true) (h : Pu prog w K n (compareOp .Eq (.ref x) (.ref y)) (fun r g' => r = .bool b ∧ g' = g) g) : Pu prog w K n (eqBool (.ref x) (.ref y)) (fun r g' => r = b ∧ g' = g) g := fun A s r wd sb => by
  unfold eqBool
  refine wpAny_holding ?_
  refine wpAny_ite_split (fun hab => ?_) (fun hab => ?_)
  · have e : x = y := by have := eq_of_beq hab; injection this
    exact wpAny_bind (wpAny_rule (wpAny_pure ⟨Ext.refl _, .refl s, g, .refl g, sb, fun _ _ e => .inl e, (hxy e).symm, rfl⟩))
  · refine wpAny_bind (wpAny_mono (h A s r wd sb) (fun v s' ⟨a, b, g', c, d, e, q⟩ => ?_) fun _ _ e => e)
    obtain ⟨q1, q2⟩ := q
    subst q1
    exact wpAny_truthy_bool ⟨a, b, g', c, d, e, rfl, q2⟩

/-- tuple == tuple: the pairs in turn -/
theorem Pu.eqTup {a b : Addr} {xs ys : List Value} {e : Nat → Bool} (S : Tup g a xs) (S' : Tup g b ys)
    (he : ∀ j x y, xs[j]? = some x → ys[j]? = some y → Pu prog w K n (eqBool x y) (fun r g' => r = e j ∧ g' = g) g) :
    Pu prog w K (n + 1) (compareOp .Eq (.ref a) (.ref b)) (fun r g' => r = .bool ((List.range (min xs.length ys.length)).all e && xs.length == ys.length) ∧ g' = g) g := fun A s r wd sb => by
  obtain ⟨_, hl, rfl⟩ := sb _ _ S
  obtain ⟨_, hb, rfl⟩ := sb _ _ S'
  show wpAny _ _ (richCompare .Eq (.ref a) (.ref b)) _ _ _
  refine wpAny_richCompare_same_room (id := "tuple.__eq__") (T := "tuple") (op := .Eq) ⟨_, hl, rfl⟩ ⟨_, hb, rfl⟩ F.slot_tuple_eq (wpAny_call_entry F.slot_tuple_eq ⟨_, hl, rfl⟩ F.entry_tuple_eq ?_ (F.args_tuple_eq_2 _ _)) (by have := r.units; omega)
  have r1 : Room A.in1 n := r.in1
  obtain ⟨hp, gg, d, tk, os⟩ := s
  have f2 := AutoSeq1.sub_tuple_tuple
  have hZ : (xs.zip ys).length = min xs.length ys.length := by simp
  wp_walk using wpAny_loadPart' hl, wpAny_loadPart' hb, wpAny_forIn_list _ (fun rest b s' => b.1 = none ∧ Ext hp s'.heap ∧ Rest ⟨hp, gg, d, tk, os⟩ s' ∧ ∃ i, rest = (xs.zip ys).drop i ∧ (List.range (min xs.length ys.length)).all e = ((List.range (min xs.length ys.length)).drop i).all e) _
  case turn =>
    rintro ⟨y, x⟩ rest b s' ⟨hb', hx, hr, i, hz, hR⟩
    have hlt : i < (xs.zip ys).length := by
      rcases Nat.lt_or_ge i (xs.zip ys).length with h' | h'
      · exact h'
      · rw [List.drop_of_length_le h'] at hz; cases hz
    have hm : i < min xs.length ys.length := hZ ▸ hlt
    have h1 : i < xs.length := Nat.lt_of_lt_of_le hm (Nat.min_le_left _ _)
    have h2 : i < ys.length := Nat.lt_of_lt_of_le hm (Nat.min_le_right _ _)
    rw [List.drop_eq_getElem_cons hlt] at hz
    injection hz with hyx hrest
    have hy : y = xs[i] := by have := congrArg Prod.fst hyx; simpa using this
    have hxx : x = ys[i] := by have := congrArg Prod.snd hyx; simpa using this
    subst hy hxx
    have hd : (List.range (min xs.length ys.length)).drop i = i :: (List.range (min xs.length ys.length)).drop (i + 1) := by simp [List.drop_eq_getElem_cons, hm]
    rw [hd, List.all_cons] at hR
    refine wpAny_bind (wpAny_mono (he i _ _ (List.getElem?_eq_getElem h1) (List.getElem?_eq_getElem h2) A.in1 s' r1 (wd.ext hx) (sb.ext hx)) (fun r s₂ ⟨x₂, rs₂, g₂, _, _, _, q1, q2⟩ => ?_) fun _ _ e => e.elim)
    subst q1
    cases hy : e i with
    | true =>
      rw [hy, Bool.true_and] at hR
      wp_walk
      exact ⟨rfl, hx.trans x₂, hr.trans rs₂, i + 1, hrest, hR⟩
    | false =>
      rw [hy, Bool.false_and] at hR
      wp_walk
      refine ⟨_, rfl, (fun q => nomatch q), hx.trans x₂, hr.trans rs₂, g, .refl g, sb.ext (hx.trans x₂), (fun _ _ e => .inl e), ?_, rfl⟩
      rw [hR]; rfl
  case fin =>
    rintro ⟨b1, b2⟩ s' ⟨hb', hx, hr, i, hz, hR⟩
    simp only at hb'
    subst hb'
    have hge : min xs.length ys.length ≤ i := by
      rcases Nat.lt_or_ge i (xs.zip ys).length with h' | h'
      · rw [List.drop_eq_getElem_cons h'] at hz; cases hz
      · exact hZ ▸ h'
    rw [List.drop_of_length_le (by simpa using hge)] at hR
    wp_walk
    refine ⟨_, rfl, (fun q => nomatch q), hx, hr, g, .refl g, sb.ext hx, (fun _ _ e => .inl e), ?_, rfl⟩
    rw [hR]
    simp [Builtin.Tuple.tupleCompareSizes]
  case h =>
    exact ⟨rfl, Ext.refl _, .refl _, 0, rfl, rfl⟩
end
end Mine

namespace Mine
section
variable {prog : Program} {w : World} {α β : Type} {c : Cx} {g g' : G} {ρ ρ' : Str → Option Value} {M M' : Mem} {K : Frag} {n : Nat} {pos apos : Pos}

-- dicts of strs
theorem isStrOf_eq (k : Str) (v : Value) : Value.isStrOf k v = v.isStr k := by cases v <;> rfl
theorem isStrOf_self (x : Str) (t : Tok) : Value.isStrOf x (.str x t) = true := by simp [Value.isStrOf]
theorem lookup_valueAt (kv : List (Str × Value)) (x : Str) : valueAt kv x = kv.lookup x := by
  unfold valueAt
  induction kv with
  | nil => rfl
  | cons p r ih =>
    obtain ⟨k, v⟩ := p
    rw [List.find?_cons, List.lookup_cons]
    by_cases q : k = x
    · subst q; simp
    · have e : (x == k) = false := beq_eq_false_iff_ne.mpr (Ne.symm q)
      rw [e, decide_eq_false q]; exact ih
theorem lookup_stored (kv : List (Str × Value)) (x y : Str) (v : Value) : (stored kv x v).lookup y = if y = x then some v else kv.lookup y := by
  unfold stored
  split
  · rename_i h
    induction kv with
    | nil => simp at h
    | cons p r ih =>
      obtain ⟨k, u⟩ := p
      by_cases q : k = x
      · subst q
        rw [List.map_cons, if_pos rfl, List.lookup_cons, List.lookup_cons]
        by_cases z : y = k
        · subst z; simp
        · have e : (y == k) = false := beq_eq_false_iff_ne.mpr z
          rw [e, if_neg z]
          by_cases hr : (r.any fun kv => decide (kv.1 = k)) = true
          · have := ih hr; rw [if_neg z] at this; exact this
          · have : r.map (fun kv => if kv.1 = k then (kv.1, v) else kv) = r := by
              refine (List.map_congr_left fun p hp => ?_).trans (List.map_id r)
              rw [if_neg]
              · rfl
              · intro q; exact hr (List.any_eq_true.mpr ⟨p, hp, by simpa using q⟩)
            rw [this]
      · have hr : (r.any fun kv => decide (kv.1 = x)) = true := by simpa [q] using h
        rw [List.map_cons, if_neg q, List.lookup_cons, List.lookup_cons]
        by_cases z : y = k
        · subst z
          simp [q]
        · have e : (y == k) = false := beq_eq_false_iff_ne.mpr z
          rw [e]; exact ih hr
  · rename_i h
    rw [List.lookup_append]
    by_cases z : y = x
    · subst z
      have : kv.lookup y = none := by
        cases q : kv.lookup y with
        | none => rfl
        | some u => exact absurd (List.any_eq_true.mpr ⟨(y, u), mem_of_lookup q, by simp⟩) h
      rw [this]; simp
    · have e : (y == x) = false := beq_eq_false_iff_ne.mpr z
      simp [List.lookup_cons, e, z]
theorem SdEs.pairs {es : List DictEntry} {kv : List (Str × Value)} (h : SdEs w.params es kv) : Pairs (strKind prog w) es kv := by
  induction h with
  | nil => exact .nil
  | @cons k t v es kv _ ih => exact .cons (isStrOf_self k t) rfl ih
theorem SdEs.keys {es : List DictEntry} {kv : List (Str × Value)} (h : SdEs w.params es kv) : ∀ e ∈ es, ∃ k, (strKind prog w).is k e.key = true ∧ e.hash = (strKind prog w).hash k := by
  induction h with
  | nil => intro e he; cases he
  | @cons k t v es kv _ ih =>
    intro e he
    rcases List.mem_cons.mp he with rfl | he
    · exact ⟨k, isStrOf_self k t, rfl⟩
    · exact ih e he
theorem sdEs_of {es : List DictEntry} {kv : List (Str × Value)} (p : Pairs (strKind prog w) es kv) (hk : ∀ e ∈ es, ∃ k, (strKind prog w).is k e.key = true ∧ e.hash = (strKind prog w).hash k) : SdEs w.params es kv := by
  induction p with
  | nil => exact .nil
  | @cons e kv es kvs h1 h2 _ ih =>
    obtain ⟨t, q⟩ := Value.isStrOf_shape h1
    obtain ⟨k, a, b⟩ := hk e (.head _)
    have hk' : k = kv.1 := Value.isStrOf_inj _ _ _ a h1
    obtain ⟨hash, key, val⟩ := e
    obtain ⟨k1, v1⟩ := kv
    simp only at q h2 b hk'
    subst q; subst h2; subst hk'; subst b
    exact .cons (ih fun e he => hk e (.tail _ he))
theorem map_of {h : Heap} {d : Addr} {f : Str → Option Value} {m : Nat} {o : Obj} (e : h.get? d = some o) (r : (MO.map f m).rep w.params o) : ∃ kv, h.DictOf (strKind prog w) d kv ∧ (∀ k, kv.lookup k = f k) ∧ kv.length ≤ m := by
  obtain ⟨es, kv, ep, rfl, h1, h2, h3, h4⟩ := r
  exact ⟨kv, ⟨_, es.toArray, ep, e, ⟨rfl, rfl, rfl⟩, rfl, fun x hx => h1.keys x (by simpa using hx), by simpa using h1.pairs, h2⟩, h3, h4⟩
theorem of_map {h : Heap} {d : Addr} {kv : List (Str × Value)} {f : Str → Option Value} {m : Nat} (x : h.DictOf (strKind prog w) d kv) (hf : ∀ k, kv.lookup k = f k) (hm : kv.length ≤ m) : ∃ o, h.get? d = some o ∧ (MO.map f m).rep w.params o := by
  obtain ⟨o, es, ep, e, ⟨c1, c2, c3⟩, hd, hk, hp, hn⟩ := x
  refine ⟨o, e, es.toList, kv, ep, ?_, sdEs_of hp (fun e he => hk e (by simpa using he)), hn, hf, hm⟩
  obtain ⟨cls, dict, data, slots⟩ := o
  simp only at c1 c2 c3 hd
  subst c1; subst c2; subst c3; subst hd; simp
def SrcM (g : G) (M : Mem) (d : Addr) (f : Str → Option Value) : Prop := ∃ m, g d = some (.map f m) ∨ (d, .map f m) ∈ M
theorem SrcM.at {h : Heap} {d : Addr} {f : Str → Option Value} (S : SrcM g M d f) (A : Act w.params c g ρ M h) : h.MapOf (strKind prog w) d f := by
  have key : ∀ o m, h.get? d = some o → (MO.map f m).rep w.params o → h.MapOf (strKind prog w) d f := fun o m e r => by
    obtain ⟨kv, hd, hf, _⟩ := map_of (prog := prog) e r
    have := hd.mapOf
    rwa [show valueAt kv = f from funext fun k => (lookup_valueAt kv k).trans (hf k)] at this
  obtain ⟨m, S | S⟩ := S
  · obtain ⟨o, e, r⟩ := A.know _ _ S; exact key o m e r
  · obtain ⟨o, e, r⟩ := A.mem _ S; exact key o m e r
theorem T.itemD {value slice : Expr} {d : Addr} {f : Str → Option Value} {x : Str} {t : Tok} {v : Value} {Q : Post Value} (S : SrcM g M d f) (hx : f x = some v)
    (hs : subscripted slice false (.ref d) (.str x t) = PySem.operate [.ref d, .str x t] (getItem (.ref d) (.str x t))) (h : Q v g ρ M) : T prog w c (subscriptTail value slice (.ref d) (.str x t)) Q g ρ M := T.tok fun s hA R k => by
  have hm := SrcM.at (prog := prog) S hA
  exact tail_any (T := "dict") hm.typeIs slot_dict_getitem.lookup (wpAny_getItem_of (k := x) (isStrOf_self x t) hm hx (k _ _ h)) hs
theorem Act.mapTurn {pre post : Mem} {d : Addr} {m₀ m₁ : MO} {h h' : Heap} (A : Act w.params c g ρ (pre ++ (d, m₀) :: post) h) (O : c.Ok K n) (hs : Heap.SameBut d h h') (hr : ∃ o, h'.get? d = some o ∧ m₁.rep w.params o) : Act w.params c g ρ (pre ++ (d, m₁) :: post) h' := by
  refine A.turn O (fun a o ha _ e => hs.extBut a o ha e) ?_ hr
  obtain ⟨m, hm, e⟩ := A.ns
  exact ⟨m, hm.sameBut hs fun q => (List.nodup_append.mp A.nodup).2.2 _ O.loc d (by simp) q, e⟩
theorem T.setItemD {d : Addr} {pre post : Mem} {f : Str → Option Value} {m : Nat} {x : Str} {t : Tok} {v : Value} {Q : Post Unit} (O : c.Ok K n) (hz : m ≤ 900) (h : Q () g ρ (pre ++ (d, .map (fun y => if y = x then some v else f y) (m + 1)) :: post)) :
    T prog w c (PySem.setItem (.ref d) (.str x t) v) Q g ρ (pre ++ (d, .map f m) :: post) := fun s hA => by
  obtain ⟨o, e, r⟩ := hA.mem (d, .map f m) (by simp)
  obtain ⟨kv, hd, hf, hl⟩ := map_of (prog := prog) e r
  refine wpAny_setItem_pairs (hsz := by rw [sizeLine_eq]; omega) (k := x) (isStrOf_self x t) hd fun h' hd' hs' => ?_
  exact ⟨g, ρ, _, hA.mapTurn O hs' (of_map hd' (fun k => by rw [lookup_stored, hf]) (by have := stored_length_le kv x v; omega)), ⟨rfl, rfl, rfl⟩, .refl g, h⟩
theorem T.dictSetD {d : Addr} {pre post : Mem} {f : Str → Option Value} {m : Nat} {x : Str} {t : Tok} {v : Value} {Q : Post Unit} (O : c.Ok K n) (hz : m ≤ 900) (h : Q () g ρ (pre ++ (d, .map (fun y => if y = x then some v else f y) (m + 1)) :: post)) :
    T prog w c (PySem.dictSet d (.str x t) v) Q g ρ (pre ++ (d, .map f m) :: post) := fun s hA => by
  obtain ⟨o, e, r⟩ := hA.mem (d, .map f m) (by simp)
  obtain ⟨kv, hd, hf, hl⟩ := map_of (prog := prog) e r
  refine wpAny_dictSet_pairs (hsz := by rw [sizeLine_eq]; omega) (k := x) (isStrOf_self x t) hd fun h' hd' hs' => ?_
  exact ⟨g, ρ, _, hA.mapTurn O hs' (of_map hd' (fun k => by rw [lookup_stored, hf]) (by have := stored_length_le kv x v; omega)), ⟨rfl, rfl, rfl⟩, .refl g, h⟩
theorem T.notSys {t : Sem α} {d : Addr} {m : MO} {Q : Post α} (O : c.Ok K n) (hK : (K.lookup sysModules).isSome = true) (h : (d == sysModules) = false → T prog w c t Q g ρ ((d, m) :: M)) : T prog w c t Q g ρ ((d, m) :: M) := fun s hA => by
  refine h ?_ s hA
  obtain ⟨o, ho⟩ := Option.isSome_iff_exists.mp hK
  have := O.wd.X _ _ ho
  refine beq_eq_false_iff_ne.mpr fun q => ?_
  rw [← q, (hA.head_out).1] at this; cases this
theorem T.newDictM {Q : Post Value} (h : ∀ d, Q (.ref d) g ρ ((d, .map (fun _ => none) 0) :: M)) : T prog w c (PySem.newDict) Q g ρ M :=
  T.pushM (m := .map (fun _ => none) 0) (o := { cls := .type "dict", data := .dict #[] }) (f := .ref) ⟨[], [], 0, rfl, .nil, List.nodup_nil, fun _ => rfl, Nat.le_refl _⟩ rfl (fun s _ R k => wpAny_newObj_type (k s.heap s.toks (Ext.refl _)) (by first | trivial | (show (0:Nat) ≤ _; omega) | decide | simp [sizeOk, sizeLine_eq])) h
theorem T.methodGet {d : Addr} {f : Str → Option Value} {pl : Sem Bool} {Q : Post (Value × List Value)} (S : SrcM g M d f) (h : Q (.builtin "dict.get", [.ref d]) g ρ M) : T prog w c (getMethod (.ref d) "get" pl) Q g ρ M := T.tok fun s hA R k => by
  have hm := SrcM.at (prog := prog) S hA
  exact getMethod_builtin hm.typeIs F.plainAttrs_dict F.slot_dict_get F.type_dict_get (fun b e => by cases e; exact hm.noDict _ rfl) (k _ s.toks h)
theorem T.getD {d : Addr} {f : Str → Option Value} {x : Str} {t : Tok} {v : Value} {Q : Post Value} (S : SrcM g M d f) (hd : (d == sysModules) = false) (h : Q ((f x).getD v) g ρ M) : T prog w c (call (.builtin "dict.get") [.ref d, .str x t, v]) Q g ρ M := T.tok fun s hA R k => by
  have hm := SrcM.at (prog := prog) S hA
  exact wpAny_call_entry F.slot_dict_get hm.typeIs F.entry_dict_get (by
    show wpAny _ _ (dictGet d (.str x t) >>= _) _ _ s
    refine wpAny_bind (wpAny_dictGet_of (isStrOf_self x t) hm ?_)
    have := k _ (s.toks + 1) h
    cases hf : f x with
    | some u =>
      rw [hf] at this
      exact wpAny_pure ⟨u, rfl, this⟩
    | none =>
      rw [hf] at this
      show wpAny _ _ (Builtin.Dict.missed d (.str x t) >>= _) _ _ _
      exact wpAny_bind (wpAny_missed_other hd (wpAny_pure ⟨v, rfl, this⟩))) (F.args_dict_get_3 _ _ _)
end
end Mine

namespace Mine
section
variable {prog : Program} {w : World} {α β : Type} {c : Cx} {g g' : G} {ρ ρ' : Str → Option Value} {M M' : Mem} {K : Frag} {n : Nat} {pos apos : Pos}

theorem ifBoundU_K {Md : Model} {A : Around} {E : Value → Shared → Prop} {s : Shared} {x C f : Addr} {ox : Obj} {od : Option Obj} {name : Str} {refuse : Sem Value} {Q : Option Value → Shared → Prop} (X : K.In s.heap) (I : InstAt s.heap x ox C od) (hs : findIn K (.ref C) name = some (some (.ref f))) (hf : isFn K (.ref f) = true)
    (h : wpAny Md A (call (.ref f) [.ref x]) (fun v => Q (some v)) E s) : wpAny Md A (callSpecialIfBoundUnlessNone? (.ref x) name refuse) Q E s := by
  simp only [callSpecialIfBoundUnlessNone?, bindSpecialIfBound?]
  refine wpAny_holding (wpAny_bind (wpAny_bind (wpAny_bind (I.type.here ((looks_findIn X hs).here ?_)))))
  refine wpAny_bind (wpAny_askSetting (wpAny_ite ?_))
  have fin : wpAny Md A (call (.ref f) [.ref x] >>= fun v => pure (some v)) Q E s := wpAny_bind (wpAny_mono h (fun v s' h' => wpAny_pure h') fun _ _ h' => h')
  split
  · exact wpAny_bind ((bind_fn X _ (beq_iff_eq.mp hf)).here (wpAny_pure (by exact fin)))
  · exact wpAny_tryCatch (wpAny_bind ((bind_fn X _ (beq_iff_eq.mp hf)).here (wpAny_pure (by exact fin))))

theorem Pu.hash {x C f : Addr} {kv : List (Str × Value)} {i : Int} (I : Inst g x C kv) (hs : findIn K (.ref C) "__hash__" = some (some (.ref f))) (hf : isFn K (.ref f) = true) (hi : 0 ≤ i) (hi2 : i < 1000000)
    (h : Pu prog w K n (call (.ref f) [.ref x]) (fun r g' => (∃ t, r = .int i t) ∧ g' = g) g) : Pu prog w K n (pyHash (.ref x)) (fun r g' => r = i ∧ g' = g) g := fun A s r wd sb => by
  obtain ⟨d, es, j, he, hd, IA⟩ := I.at sb
  show wpAny _ _ (pyHashByItsType (.ref x)) _ _ _
  unfold pyHashByItsType
  refine wpAny_bind (wpAny_cRoomFor (by have := r.units; omega) ?_)
  have sp : ∀ {Q : Option Value → Shared → Prop} {E : Value → Shared → Prop}, Q (some (.ref f)) s → wpAny (model prog w) A (specialOf (.ref x) "__hash__") Q E s := fun q => by
    unfold specialOf
    exact wpAny_bind (IA.type.here ((looks_findIn wd.X hs).here q))
  refine wpAny_bind (sp ?_)
  rw [if_neg (by simp)]
  refine wpAny_bind (sp ?_)
  rw [if_neg (by simp)]
  refine wpAny_bind (ifBoundU_K wd.X IA hs hf (wpAny_mono (h A s r wd sb) (fun v s' ⟨a, b, g', c, d, e, ⟨t, q1⟩, q2⟩ => ?_) fun _ _ e => e))
  subst q1
  show wpAny _ _ (pyHashByItsType.reduced i) _ _ _
  unfold pyHashByItsType.reduced
  have e1 : (decide (-(2 ^ 63 : Int) ≤ i) && decide (i < 2 ^ 63)) = true := by simp; omega
  rw [if_pos e1]
  have e2 : (i == -1) = false := by simp; omega
  rw [e2]
  exact wpAny_pure ⟨a, b, g', c, d, e, rfl, q2⟩

def vEnt (xs : List (Addr × Int × Value)) : List DictEntry := xs.map fun x => ⟨x.2.1, .ref x.1, x.2.2⟩
theorem places_none {xs : List (Addr × Int × Value)} {i : Int} (hn : ∀ x ∈ xs, x.2.1 ≠ i) : placesWithHash (vEnt xs).toArray.size (fun j => (vEnt xs).toArray[j]?.map (·.hash)) i = [] := by
  unfold placesWithHash
  refine List.filter_eq_nil_iff.mpr fun j hj => ?_
  have hlt : j < xs.length := by have := List.mem_range.mp hj; simpa [vEnt] using this
  have : (vEnt xs).toArray[j]? = some ⟨xs[j].2.1, .ref xs[j].1, xs[j].2.2⟩ := by simp [vEnt, hlt]
  dsimp only
  rw [this]
  have q := hn _ (List.getElem_mem hlt)
  simpa using q
theorem places_one {xs : List (Addr × Int × Value)} {i : Int} {j : Nat} {a : Addr} {v : Value} (hx : xs[j]? = some (a, i, v)) (hn : (xs.map (·.2.1)).Nodup) : placesWithHash (vEnt xs).toArray.size (fun j => (vEnt xs).toArray[j]?.map (·.hash)) i = [j] := by
  unfold placesWithHash
  have hlt : j < xs.length := (List.getElem?_eq_some_iff.mp hx).1
  have e0 : (vEnt xs).toArray.size = xs.length := by simp [vEnt]
  rw [e0]
  have at_ : ∀ m, m < xs.length → ((fun j => (vEnt xs).toArray[j]?.map (·.hash)) m == some i) = decide (m = j) := fun m hm => by
    have e1 : (vEnt xs).toArray[m]? = some ⟨xs[m].2.1, .ref xs[m].1, xs[m].2.2⟩ := by simp [vEnt, hm]
    simp only [e1, Option.map_some]
    by_cases q : m = j
    · subst q
      have := (List.getElem?_eq_some_iff.mp hx).2
      simp [this]
    · rw [decide_eq_false q]
      refine beq_eq_false_iff_ne.mpr fun z => q ?_
      have z' : xs[m].2.1 = i := by simpa using z
      have h1 : (xs.map (·.2.1))[m]? = some i := by rw [List.getElem?_map, List.getElem?_eq_getElem hm]; simp [z']
      have h2 : (xs.map (·.2.1))[j]? = some i := by rw [List.getElem?_map, hx]; rfl
      exact (List.getElem?_inj (by simpa using hm) hn).mp (h1.trans h2.symm)
  have key : ∀ m, m ≤ xs.length → (List.range m).filter (fun j => (fun j => (vEnt xs).toArray[j]?.map (·.hash)) j == some i) = if j < m then [j] else [] := by
    intro m
    induction m with
    | zero => intro _; simp
    | succ m ih =>
      intro hm
      rw [List.range_succ, List.filter_append, ih (by omega), List.filter_cons, at_ m (by omega), List.filter_nil]
      by_cases q : m = j
      · subst q; simp
      · by_cases z : j < m
        · have z' : j < m + 1 := by omega
          simp [z, q, z']
        · have z' : ¬ j < m + 1 := by omega
          simp [z, q, z']
  rw [key _ (Nat.le_refl _), if_pos hlt]

theorem find_none {A : Around} {E : Value → Shared → Prop} {s : Shared} {d a : Addr} {xs : List (Addr × Int × Value)} {ep : Nat} {i : Int} {Q : Option Nat → Shared → Prop}
    (ho : s.heap.get? d = some { cls := .type "dict", data := .dict (vEnt xs).toArray ep }) (hn : ∀ x ∈ xs, x.2.1 ≠ i ∧ x.1 ≠ a) (h : Q none s) : wpAny (model prog w) A (dictFind d (.ref a) i) Q E s := by
  unfold dictFind
  refine wpAny_holding ?_
  refine wpAny_bind (wpAny_dictEntries ho rfl ?_)
  dsimp only
  have hp := places_none (xs := xs) (i := i) fun x hx => (hn x hx).1
  rw [hp]
  rw [if_neg (by simp [carriedByValue])]
  have hany : ¬ ((vEnt xs).toArray.any fun e => e.key == Value.ref a && e.hash != i) = true := by
    rw [← Array.any_toList, List.any_eq_true]
    rintro ⟨e, he, q⟩
    obtain ⟨x, hx, rfl⟩ := List.mem_map.mp (show e ∈ vEnt xs by simpa using he)
    simp only [Bool.and_eq_true, beq_iff_eq, Value.ref.injEq] at q
    exact (hn x hx).2 q.1
  rw [if_neg hany]
  rw [if_neg (show ¬ ((([] : List Nat).filterMap fun i => Option.map (fun x => x.key) (vEnt xs).toArray[i]?) == [Value.ref a]) = true by simp)]
  simp only [List.filterMap_nil]
  unfold tableMayTell
  simp only [List.isEmpty_nil, if_true]
  refine wpAny_bind (wpAny_pure ?_)
  simp only [Bool.false_and, Bool.false_eq_true, if_false, List.forIn_nil]
  exact wpAny_bind (wpAny_pure (wpAny_pure h))
theorem find_one {A : Around} {E : Value → Shared → Prop} {s : Shared} {d a : Addr} {xs : List (Addr × Int × Value)} {ep : Nat} {i : Int} {j : Nat} {v : Value} {Q : Option Nat → Shared → Prop}
    (ho : s.heap.get? d = some { cls := .type "dict", data := .dict (vEnt xs).toArray ep }) (hx : xs[j]? = some (a, i, v)) (hn : (xs.map (·.2.1)).Nodup) (ha : ∀ x ∈ xs, x.1 = a → x.2.1 = i) (h : Q (some j) s) : wpAny (model prog w) A (dictFind d (.ref a) i) Q E s := by
  unfold dictFind
  refine wpAny_holding ?_
  refine wpAny_bind (wpAny_dictEntries ho rfl ?_)
  dsimp only
  have hp := places_one hx hn
  have hlt : j < xs.length := (List.getElem?_eq_some_iff.mp hx).1
  have hj : (vEnt xs).toArray[j]? = some ⟨i, .ref a, v⟩ := by
    have := (List.getElem?_eq_some_iff.mp hx).2
    simp [vEnt, hlt, this]
  rw [hp]
  rw [if_neg (by simp [carriedByValue])]
  have hany : ¬ ((vEnt xs).toArray.any fun e => e.key == Value.ref a && e.hash != i) = true := by
    rw [← Array.any_toList, List.any_eq_true]
    rintro ⟨e, he, q⟩
    obtain ⟨x, hx, rfl⟩ := List.mem_map.mp (show e ∈ vEnt xs by simpa using he)
    simp only [Bool.and_eq_true, beq_iff_eq, Value.ref.injEq, bne_iff_ne, ne_eq] at q
    exact q.2 (ha x hx q.1)
  rw [if_neg hany]
  rw [if_pos (show ((([j] : List Nat).filterMap fun i => Option.map (fun x => x.key) (vEnt xs).toArray[i]?) == [Value.ref a]) = true by rw [List.filterMap_cons, hj]; simp)]
  simp only [List.filterMap_cons, hj, Option.map_some, List.filterMap_nil]
  refine wpAny_bind (wpAny_pure ?_)
  simp only [Bool.false_and, Bool.false_eq_true, if_false, List.forIn_cons, List.forIn_nil, hj]
  rw [if_pos (by simp)]
  refine wpAny_bind (wpAny_bind ?_)
  refine wpAny_bind (wpAny_dictEpoch ho rfl ?_)
  refine wpAny_bind ?_
  unfold eqBool
  refine wpAny_holding ?_
  rw [if_pos (by simp)]
  refine wpAny_bind (wpAny_rule (wpAny_pure ?_))
  refine wpAny_bind (wpAny_dictEpoch ho rfl ?_)
  rw [if_neg (by simp)]
  simp only [if_true, Option.isSome_none, Bool.false_eq_true, if_false]
  refine wpAny_bind (wpAny_rule ?_)
  rw [if_pos (by simp)]
  exact wpAny_pure (wpAny_pure (wpAny_pure h))

def SrcV (g : G) (M : Mem) (d : Addr) (xs : List (Addr × Int × Value)) : Prop := g d = some (.vd xs) ∨ (d, .vd xs) ∈ M
theorem SrcV.at {P : Params} {h : Heap} {d : Addr} {xs : List (Addr × Int × Value)} (S : SrcV g M d xs) (A : Act P c g ρ M h) : ∃ ep, h.get? d = some { cls := .type "dict", data := .dict (vEnt xs).toArray ep } := by
  rcases S with S | S
  · obtain ⟨o, e, ep, rfl⟩ := A.know _ _ S; exact ⟨ep, e⟩
  · obtain ⟨o, e, ep, rfl⟩ := A.mem _ S; exact ⟨ep, e⟩
theorem T.newDictV {Q : Post Value} (h : ∀ d, Q (.ref d) g ρ ((d, .vd []) :: M)) : T prog w c (PySem.newDict) Q g ρ M :=
  T.pushM (m := .vd []) (o := { cls := .type "dict", data := .dict #[] }) (f := .ref) ⟨0, rfl⟩ rfl (fun s _ R k => wpAny_newObj_type (k s.heap s.toks (Ext.refl _)) (by first | trivial | (show (0:Nat) ≤ _; omega) | decide | simp [sizeOk, sizeLine_eq])) h
theorem T.methodGetV {d : Addr} {xs : List (Addr × Int × Value)} {pl : Sem Bool} {Q : Post (Value × List Value)} (S : SrcV g M d xs) (h : Q (.builtin "dict.get", [.ref d]) g ρ M) : T prog w c (getMethod (.ref d) "get" pl) Q g ρ M := T.tok fun s hA R k => by
  obtain ⟨ep, e⟩ := S.at hA
  exact getMethod_builtin ⟨_, e, rfl⟩ F.plainAttrs_dict F.slot_dict_get F.type_dict_get (fun b q => by cases q; exact ⟨_, e, rfl⟩) (k _ s.toks h)
/-- a key that stands there -/
theorem T.getV {d a : Addr} {xs : List (Addr × Int × Value)} {i : Int} {j : Nat} {v dflt : Value} {Q : Post Value} (O : c.Ok K (n + 1)) (S : SrcV g M d xs) (hx : xs[j]? = some (a, i, v)) (hn : (xs.map (·.2.1)).Nodup) (ha : ∀ x ∈ xs, x.1 = a → x.2.1 = i)
    (hp : Pu prog w K n (pyHash (.ref a)) (fun r g' => r = i ∧ g' = g) g) (h : Q v g ρ M) : T prog w c (call (.builtin "dict.get") [.ref d, .ref a, dflt]) Q g ρ M := fun s hA => by
  obtain ⟨ep, e⟩ := S.at hA
  refine wpAny_call_entry F.slot_dict_get ⟨_, e, rfl⟩ F.entry_dict_get ?_ (F.args_dict_get_3 _ _ _)
  show wpAny _ _ (dictGet d (.ref a) >>= _) _ _ s
  refine wpAny_bind ?_
  unfold dictGet
  refine wpAny_holding (wpAny_bind (wpAny_mono (hp c.A.in1 s O.room.in1 (hA.wd O) hA.know) (fun r s' ⟨x, rs, g', _, _, _, q1, q2⟩ => ?_) fun _ _ e => e.elim))
  subst q1; subst q2
  have e' := x _ _ e
  have hlt : j < xs.length := (List.getElem?_eq_some_iff.mp hx).1
  have hj : (vEnt xs).toArray[j]? = some ⟨r, .ref a, v⟩ := by
    have := (List.getElem?_eq_some_iff.mp hx).2
    simp [vEnt, hlt, this]
  refine wpAny_bind (find_one e' hx hn ha ?_)
  refine wpAny_bind (wpAny_dictEntries e' rfl (wpAny_pure ?_))
  rw [hj]
  exact wpAny_pure ⟨v, rfl, _, ρ, M, hA.ext x, rs, .refl _, h⟩
/-- a new key -/
theorem T.setItemV {d a : Addr} {post : Mem} {xs : List (Addr × Int × Value)} {i : Int} {v : Value} {Q : Post Unit} (O : c.Ok K (n + 1)) (hz : xs.length ≤ 900) (hn : ∀ x ∈ xs, x.2.1 ≠ i ∧ x.1 ≠ a)
    (hp : Pu prog w K n (pyHash (.ref a)) (fun r g' => r = i ∧ g' = g) g) (h : Q () g ρ ((d, .vd (xs ++ [(a, i, v)])) :: post)) : T prog w c (PySem.setItem (.ref d) (.ref a) v) Q g ρ ((d, .vd xs) :: post) := fun s hA => by
  obtain ⟨_, e, ep, rfl⟩ := hA.mem (d, .vd xs) (.head _)
  unfold setItem
  try with_reducible refine wpAny_holding ?_
  refine wpAny_bind (wpAny_sequenceKey ⟨_, e, rfl⟩ (by decide) ?_)
  refine wpAny_bind (wpAny_callSpecial?_slot (name := Str.ofString "__setitem__") ⟨_, e, rfl⟩ slot_dict_setitem
    (wpAny_call_entry slot_dict_setitem ⟨_, e, rfl⟩ entry_dict_setitem ?_ (args_dict_setitem _ _ _)))
  show wpAny _ _ (Builtin.Dict.notOrdered "__setitem__" ⟨[.ref d, .ref a, v], []⟩ >>= _) _ _ s
  refine wpAny_bind (wpAny_notOrdered_dict ⟨_, e, rfl⟩ ?_)
  show wpAny _ _ (dictSet d (.ref a) v >>= _) _ _ s
  refine wpAny_bind ?_
  unfold dictSet
  refine wpAny_holding (wpAny_bind (wpAny_mono (hp c.A.in1 s O.room.in1 (hA.wd O) hA.know) (fun r s' ⟨x, rs, g', _, _, _, q1, q2⟩ => ?_) fun _ _ e => e.elim))
  subst q1; subst q2
  have e' := x _ _ e
  unfold dictSetHashed
  refine wpAny_holding (wpAny_bind (find_none e' hn ?_))
  refine wpAny_bind (wpAny_rule ?_)
  refine wpAny_updateDictKeys e' rfl ?_ (by have := sizeLine_eq; simp only [vEnt, List.size_toArray, List.length_map]; omega)
  refine wpAny_pure ⟨.none, rfl, wpAny_pure ?_⟩
  have rr : (MO.vd (xs ++ [(a, r, v)])).rep w.params (Obj.mapDictKeys (·.push ⟨r, .ref a, v⟩) { cls := .type "dict", data := .dict (vEnt xs).toArray ep }) := ⟨ep + 1, by simp [Obj.mapDictKeys, vEnt]⟩
  exact ⟨_, ρ, _, (hA.ext x).mapTurn (pre := []) O (Heap.SameBut.update _ _ _) ⟨_, Heap.get?_update_self _ e' rfl, rr⟩, rs, .refl _, h⟩
end
end Mine

namespace Mine
section
variable {prog : Program} {w : World} {α β : Type} {c : Cx} {g g' : G} {ρ ρ' : Str → Option Value} {M M' : Mem} {K : Frag} {n : Nat} {pos apos : Pos} {l : List (Str × NameKind)}

/-- a comprehension that maps each item, and leaves what may be turned alone -/
theorem LcK.map {x : Str} {px : Pos} {elt : Expr} {sc : Scope} {m : Nat} {P : Nat → Value → Heap → Prop} {fin : Addr → List Value → G → Mem → Prop} (R : Nat → Value → G → Prop) (hR : ∀ i v g g', Le g g' → R i v g → R i v g')
    (hx : ((relab l sc.names).lookup x == some .local) = true) (hm : m ≤ 1000)
    (step : ∀ (D : Addr) (c' : Cx), c'.Ok K n → c'.env.scope.names = relab l sc.names → ∀ i v g' ρ' acc, i < m → P i v c'.h₀ → Le g g' → (∀ x, ((relab l sc.names).lookup x == some .local) = false → ρ' x = ρ x) →
      T prog w c' (eval elt c'.env) (fun y g'' _ M'' => M'' = (D, .list acc) :: M ∧ R i y g'') g' (put ρ' x v) ((D, .list acc) :: M))
    (hfin : ∀ D ys g', Le g g' → ys.length = m → (∀ i y, ys[i]? = some y → R i y g') → fin D ys g' M) : LcK prog w K n l sc (.Name x px) elt [] g ρ m P M fin := by
  refine ⟨hm, fun D => ⟨fun i acc g' M' => M' = M ∧ acc.length = i ∧ ∀ j y, acc[j]? = some y → R j y g', ⟨rfl, rfl, fun j y e => by cases j <;> cases e⟩, ?_, ?_⟩⟩
  · rintro c' O' hS' i v g' ρ' acc M' hi hP hl ha ⟨rfl, hlen, hacc⟩
    refine T.assign_stored (T.stLocal O' (kind_of hS' (by simpa using hx)) (T.tests_nil (IfK.t ?_)))
    intro s hA
    refine wpAny_mono (step D c' O' hS' i v g' ρ' acc hi hP hl ha s hA) (fun y s' ⟨g'', ρ'', M'', a, b, l', e, r⟩ => ⟨g'', ρ'', M'', a, b, l', M', e, rfl, by simp [hlen], fun j z hz => ?_⟩) fun _ _ e => e
    rcases Nat.lt_or_ge j acc.length with q | q
    · rw [List.getElem?_append_left q] at hz
      exact hR _ _ _ _ l' (hacc j z hz)
    · rw [List.getElem?_append_right q] at hz
      have : j = acc.length := by
        have := (List.getElem?_eq_some_iff.mp hz).1
        simp at this; omega
      subst this
      simp at hz
      subst hz
      rw [hlen]; exact r
  · rintro acc g' M' hl ⟨rfl, hlen, hacc⟩
    exact hfin D acc g' hl hlen hacc

-- keyword calls
theorem T.evalArgs_kw1 {f : Value} {x : Sem Value} {name : Str} {Q : Post Args} (h : T prog w c x (fun v g ρ M => Q ⟨[], [(name, v)]⟩ g ρ M) g ρ M) : T prog w c (evalArgs f true [] [(some name, x)]) Q g ρ M := by
  unfold evalArgs
  show T prog w c (spliced [] >>= _) Q g ρ M
  refine T.bind (T.pure (T.bind (T.pure (T.holding ?_))))
  exact T.bind (T.bind (T.mono h fun v g ρ M q => T.bind (T.holding (T.pure (T.pure (T.bind (T.pure (T.pure q))))))))
/-- a method of a class of the text's is called by one keyword alone -/
theorem T.cw1Kkw {f x : Value} {name : Str} {e : Expr} {kws : List Keyword} {Q : Post Value} (O : c.Ok K n) (hk : keepIn K f = true) (he : keywordEach kws c.env = [(some name, eval e c.env)])
    (h : T prog w c (eval e c.env) (fun v g ρ M => T prog w c (call f [x] [(name, v)]) Q g ρ M) g ρ M) :
    T prog w c (callWith pos f [x] (backTo pos (starEach [] c.env)) (backToKw pos (keywordEach kws c.env))) Q g ρ M := by
  rw [he]
  exact T.callWith_K O hk rfl (T.evalArgs_kw1 (T.bind (T.mono h fun v g ρ M q => T.bind (T.standAt (T.pure q)))))
theorem T.callAttr {o : Expr} {name : Str} {args : List Expr} {kws : List Keyword} {Q : Post Value}
    (he : eval (.Call (.Attribute o name apos) args kws pos) c.env = (do
      let ov ← eval o c.env
      PySem.standAt apos.atName
      let (f, first) ← PySem.holding [ov] (getMethod ov name (do return (← importBound o c.env).getD true))
      callWith pos f first (backTo pos (starEach args c.env)) (backToKw pos (keywordEach kws c.env))))
    (h : T prog w c (eval o c.env) (fun ov g ρ M => T prog w c (getMethod ov name (do return (← importBound o c.env).getD true)) (fun fx g ρ M => T prog w c (callWith pos fx.1 fx.2 (backTo pos (starEach args c.env)) (backToKw pos (keywordEach kws c.env))) Q g ρ M) g ρ M) g ρ M) :
    T prog w c (eval (.Call (.Attribute o name apos) args kws pos) c.env) Q g ρ M := T.call_attr he h
theorem memA : ∀ {MM : Mem} {a : Addr} {m : MO}, MM.lookup a = some m → (a, m) ∈ MM
  | [], _, _, e => by cases e
  | (b, m') :: r, a, m, e => by
    rw [List.lookup_cons] at e
    cases q : a == b with
    | true => rw [q] at e; cases e; rw [beq_iff_eq.mp q]; exact .head _
    | false => rw [q] at e; exact .tail _ (memA e)
/-- a def whose own mutable objects are laid aside at its end -/
theorem Fn.defM {f : Addr} {fd : FuncData} {body : List Stmt} {oc : Value} {od : Option Addr} {osl : Array (Option Value)} {args : List Value} {kw : List (Str × Value)} {binds : List (Str × Value)} {Q : Value → G → Prop}
    (hK : K.lookup f = some ⟨oc, od, .func fd, osl⟩) (D : DefOk K fd) (hb : fd.body = .stmts body) (hbind : ∀ s, K.In s.heap → BindsTo s fd ⟨args, kw⟩ binds)
    (hkind : (binds.all fun y => fd.scope.names.lookup y.1 == some .local || fd.scope.names.lookup y.1 == some .cell) = true)
    (h : ∀ c : Cx, c.Ok K n → c.Own → c.env.scope.names = fd.scope.names → T prog w c (execs body c.env) (fun fl g' _ M' => ∀ g'', Le g' g'' → (∀ p ∈ M', g'' p.1 = some p.2) → Q (retOf fl) g'') g (ofBinds binds) []) :
    Pu prog w K (n + 1) (call (.ref f) args kw) Q g := fun A s r wd sb => by
  refine wpAny_call (codeAny_mono (enter (R := fun v g' M' => ∀ g'', Le g' g'' → (∀ p ∈ M', g'' p.1 = some p.2) → Q v g'') (ge := g) (h₀ := s.heap) (M₀ := []) r wd (Ext.refl _) sb (fun a m e => .inl e) (fun _ hp => nomatch hp) (fun _ hp => nomatch hp) List.nodup_nil hK D hb (hbind s wd.X) hkind fun c O W e _ _ => h c O W e) fun r s' hr => ?_)
  obtain ⟨v, g', M', rfl, o, q⟩ := hr
  have key : ∀ a m, M'.lookup a = some m → (a, m) ∈ M' := fun a m e => memA e
  have lk : ∀ (MM : Mem), (MM.map (·.1)).Nodup → ∀ p ∈ MM, MM.lookup p.1 = some p.2 := by
    intro MM
    induction MM with
    | nil => intro _ p hp; cases hp
    | cons x r ih =>
      intro hn p hp
      have hn' := List.nodup_cons.mp hn
      rw [List.lookup_cons]
      rcases List.mem_cons.mp hp with rfl | hp
      · simp
      · have : (p.1 == x.1) = false := beq_eq_false_iff_ne.mpr fun e => hn'.1 (by show x.1 ∈ _; rw [← e]; exact List.mem_map_of_mem (f := (·.1)) hp)
        rw [this]; exact ih hn'.2 p hp
  let g'' : G := fun a => match M'.lookup a with | some m => some m | none => g' a
  have l : Le g' g'' := fun a m e => by
    show (match M'.lookup a with | some m => some m | none => g' a) = _
    cases z : M'.lookup a with
    | none => exact e
    | some m' =>
      have := (o.fresh a (List.mem_map_of_mem (f := (·.1)) (key a m' z))).2
      rw [this] at e; cases e
  have inv : ∀ a m, g'' a = some m → (a, m) ∈ M' ∨ g' a = some m := fun a m e => by
    have e' : (match M'.lookup a with | some m => some m | none => g' a) = some m := e
    cases z : M'.lookup a with
    | none => rw [z] at e'; exact .inr e'
    | some m' => rw [z] at e'; cases e'; exact .inl (key a m z)
  refine ⟨o.ext, o.rest, g'', o.le.trans l, fun a m e => ?_, fun a m e => ?_, q g'' l fun p hp => ?_⟩
  · rcases inv a m e with e | e
    · exact o.mem _ e
    · exact o.know a m e
  · rcases inv a m e with e | e
    · exact .inr (o.fresh a (List.mem_map_of_mem (f := (·.1)) e)).1
    · exact o.old a m e
  · show (match M'.lookup p.1 with | some m => some m | none => g' p.1) = _
    rw [lk M' o.nodup p hp]
end
end Mine

namespace Mine
section
variable {prog : Program} {w : World} {α β : Type} {c : Cx} {g g' : G} {ρ ρ' : Str → Option Value} {M M' : Mem} {K : Frag} {n : Nat} {pos apos : Pos} {P : Params}

-- plain data
mutual
inductive Rd (g : G) : Value → PyData → Prop
  | str (x : Str) (t : Tok) : Rd g (.str x t) (.str x)
  | list {a : Addr} {vs : List Value} {xs : List PyData} : g a = some (.list vs) → RdAll g vs xs → Rd g (.ref a) (.list xs)
  | tup {a : Addr} {vs : List Value} {xs : List PyData} : g a = some (.tup vs) → RdAll g vs xs → Rd g (.ref a) (.tuple xs)
inductive RdAll (g : G) : List Value → List PyData → Prop
  | nil : RdAll g [] []
  | cons {v : Value} {vs : List Value} {x : PyData} {xs : List PyData} : Rd g v x → RdAll g vs xs → RdAll g (v :: vs) (x :: xs)
end
mutual
theorem Rd.mono (l : Le g g') : ∀ {v : Value} {x : PyData}, Rd g v x → Rd g' v x
  | _, _, .str x t => .str x t
  | _, _, .list e r => .list (l _ _ e) (r.mono l)
  | _, _, .tup e r => .tup (l _ _ e) (r.mono l)
theorem RdAll.mono (l : Le g g') : ∀ {v : List Value} {x : List PyData}, RdAll g v x → RdAll g' v x
  | _, _, .nil => .nil
  | _, _, .cons h t => .cons (h.mono l) (t.mono l)
end
mutual
theorem Rd.reads {h : Heap} (sb : Sub P g h) : ∀ {v : Value} {x : PyData}, Rd g v x → ∃ as, Reads h v x as
  | _, _, .str x t => ⟨_, .str x t⟩
  | _, _, .list e r => by
    obtain ⟨as, ha⟩ := r.reads sb
    obtain ⟨_, ho, k, rfl⟩ := sb _ _ e
    exact ⟨_, reads_list_at ho rfl rfl (by simpa using ha)⟩
  | _, _, .tup e r => by
    obtain ⟨as, ha⟩ := r.reads sb
    obtain ⟨_, ho, rfl⟩ := sb _ _ e
    exact ⟨_, reads_tuple_at ho rfl rfl (by simpa using ha)⟩
theorem RdAll.reads {h : Heap} (sb : Sub P g h) : ∀ {v : List Value} {x : List PyData}, RdAll g v x → ∃ as, ReadsAll h v x as
  | _, _, .nil => ⟨_, .nil⟩
  | _, _, .cons a r => by
    obtain ⟨as, ha⟩ := a.reads sb
    obtain ⟨bs, hb⟩ := r.reads sb
    exact ⟨_, .cons ha hb⟩
end
theorem T.neData {a b : Value} {da db : PyData} {Q : Post Value} (O : c.Ok K (n + 8)) (ra : Rd g a da) (rb : Rd g b db) (sa : SeqAt.shaped da = true) (sb : SeqAt.shaped db = true) (h : Q (.bool (!PyData.eqv da db)) g ρ M) :
    T prog w c (compareOp .NotEq a b) Q g ρ M := T.tok fun s hA R k => by
  obtain ⟨as, ha⟩ := ra.reads hA.know
  obtain ⟨bs, hb⟩ := rb.reads hA.know
  exact ne_dataH ha hb sa sb (by have := O.room.units; omega) (k _ s.toks h)

theorem fold_app (vs : List Value) (m : Nat) : (List.foldl (fun x1 x2 => x1 ++ x2) #[] (List.replicate m vs.toArray)) = ((List.replicate m vs).flatten).toArray := by
  have : ∀ (m : Nat) (acc : List Value), List.foldl (fun x1 x2 => x1 ++ x2) acc.toArray (List.replicate m vs.toArray) = (acc ++ (List.replicate m vs).flatten).toArray := by
    intro m
    induction m with
    | zero => intro acc; simp
    | succ m ih => intro acc; rw [List.replicate_succ, List.foldl_cons, List.append_toArray, ih]; simp [List.replicate_succ]
  simpa using this m []
/-- [..] * k -/
theorem T.mulL' {a : Addr} {vs : List Value} {x : Int} {u : Tok} {Q : Post Value} (S : SrcL g M a vs) (hz : vs.length * x.toNat ≤ 1000) (h1 : 0 ≤ x) (h2 : x ≤ 1000) (hne : vs ≠ []) (h : ∀ b, g b = none → Q (.ref b) (setG g b (.list ((List.replicate x.toNat vs).flatten))) ρ M) :
    T prog w c (binaryOp .Mult (.ref a) (.int x u)) Q g ρ M := by
  have z : vs.toArray.size * x.toNat ≤ 1000 := by rw [List.size_toArray]; exact hz
  have z1 : ¬ (!Builtin.List.listFitsIndex x) = true := by simp [Builtin.List.listFitsIndex]; omega
  have z2 : ¬ Builtin.List.listTooLong (vs.toArray.size * x.toNat) = true := by
    generalize vs.toArray.size * x.toNat = q at z
    simp [Builtin.List.listTooLong, sizeLine]; omega
  have z3 : ¬ vs.toArray.size * x.toNat > (2 ^ 63 - 1) / 8 := Nat.not_lt.mpr (Nat.le_trans z (by decide +kernel))
  refine T.push (m := .list ((List.replicate x.toNat vs).flatten)) (o := { cls := .type "list", data := .seq (List.foldl (fun x1 x2 => x1 ++ x2) #[] (List.replicate (if vs.toArray.isEmpty = true then 0 else x.toNat) vs.toArray)) }) (f := .ref) ⟨0, ?_⟩ rfl (fun s hA R kk => ?_) h
  · rw [fold_app]
    cases vs with
    | nil => exact absurd rfl hne
    | cons => simp
  · obtain ⟨kk', hl⟩ := S.at hA
    have mm := AutoListH.list___mul___list_int_3 a vs.toArray kk' x u z1 z3 z2
    exact wpAny_binaryOp_repeat_ref (T := "list") (U := "int") (by decide) ⟨_, hl, rfl⟩ (fun s' => typeIs_int s' x u) noFill_list_mul F.fills_int_mul F.slot_int_rmul repeat_list F.slot_int_index.lookup
      (call_meets F.slot_int_rmul (typeIs_int s x u) F.entry_int_rmul (F.args_int_rmul_2 _ _) (int___rmul___int_list x u a vs.toArray kk')
        ⟨hl, rfl, ⟨_, hl, rfl⟩, call_meets F.slot_list_mul ⟨_, hl, rfl⟩ F.entry_list_mul (F.args_list_mul_2 _ _) mm ⟨hl, kk s.heap s.toks (Ext.refl _)⟩⟩)

/-- something made on the way is let go -/
theorem T.postDrop {p : Addr × MO} {t : Sem α} {Q : Post α} (h : T prog w c t (fun r g ρ M' => ∃ M₁, M' = p :: M₁ ∧ Q r g ρ M₁) g ρ M) : T prog w c t Q g ρ M := fun s hA =>
  wpAny_mono (h s hA) (fun _ _ ⟨g', ρ', M', a, b, l, M₁, e, q⟩ => ⟨g', ρ', M₁, by subst e; exact a.drop, b, l, q⟩) fun _ _ e => e

-- slices
def sliceO (i : Int) (u : Tok) : Obj := { cls := .type "slice", data := .fields #[.int i u, .none, .none] }
theorem T.slice {e : Expr} {Q : Post Value} (h : T prog w c (eval e c.env) (fun v g ρ M => ∃ i u, v = .int i u ∧ ∀ sl, Q (.ref sl) g ρ ((sl, .raw (sliceO i u)) :: M)) g ρ M) :
    T prog w c (eval (.Slice (some e) none none pos) c.env) Q g ρ M := by
  rw [arm_eval_Slice]
  refine T.bind (T.mono h fun v g ρ M ⟨i, u, e, q⟩ => T.bind (T.holding (T.pure (T.bind (T.holding (T.pure ?_))))))
  subst e
  exact T.pushM (m := .raw (sliceO i u)) (o := sliceO i u) (f := .ref) rfl rfl (fun s _ R k => wpAny_newObj_type (k s.heap s.toks (Ext.refl _))) q
theorem T.sliceL {value slice : Expr} {a sl : Addr} {vs : List Value} {i : Nat} {u : Tok} {Q : Post Value} (S : SrcL g M a vs) (hz : vs.length ≤ 1000)
    (hs : subscripted slice false (.ref a) (.ref sl) = PySem.operate [.ref sl, .ref a] (getItem (.ref a) (.ref sl))) (hg : ∀ r, letTemporaryGo value (.ref a) r = Pure.pure ())
    (h : ∀ b, g b = none → Q (.ref b) (setG g b (.list (vs.drop i))) ρ M) : T prog w c (subscriptTail value slice (.ref a) (.ref sl)) Q g ρ ((sl, .raw (sliceO i u)) :: M) := by
  refine T.postDrop (p := (sl, .raw (sliceO i u))) (T.push (m := .list (vs.drop i)) (o := { cls := .type "list", data := .seq (slicePick vs.toArray (some i) none none) }) (f := .ref) ⟨0, by rw [slicePick_from']⟩ rfl (fun s hA R kk => ?_) fun b hb => ⟨M, rfl, h b hb⟩)
  have S' : SrcL g ((sl, .raw (sliceO i u)) :: M) a vs := S.elim .inl fun e => .inr (.tail _ e)
  obtain ⟨kk', hl⟩ := S'.at hA
  obtain ⟨_, hsl, rfl⟩ := hA.mem _ (.head _)
  exact subscriptTail_ops hl.isList.typeIs list_getitem_lookup (wpAny_getItem_list_slice hl.isList ⟨_, hsl, rfl, rfl⟩ (.int i u) .none .none (by simp) (kk s.heap s.toks (Ext.refl _)) (by rw [List.size_toArray, sizeLine_eq]; omega)) hs hg
theorem T.sliceT {value slice : Expr} {a sl : Addr} {vs : List Value} {i : Nat} {u : Tok} {Q : Post Value} (S : Tup g a vs) (hz : vs.length ≤ 1000) (h1 : 1 ≤ i) (hi : i ≤ vs.length)
    (hs : subscripted slice false (.ref a) (.ref sl) = PySem.operate [.ref sl, .ref a] (getItem (.ref a) (.ref sl))) (hg : ∀ r, letTemporaryGo value (.ref a) r = Pure.pure ())
    (h : ∀ b, g b = none → Q (.ref b) (setG g b (.tup (vs.drop i))) ρ M) : T prog w c (subscriptTail value slice (.ref a) (.ref sl)) Q g ρ ((sl, .raw (sliceO i u)) :: M) := by
  refine T.postDrop (p := (sl, .raw (sliceO i u))) (T.push (m := .tup (vs.drop i)) (o := { cls := .type "tuple", data := .seq (vs.drop i).toArray }) (f := .ref) rfl rfl (fun s hA R kk => ?_) fun b hb => ⟨M, rfl, h b hb⟩)
  obtain ⟨_, hsl, rfl⟩ := hA.mem _ (.head _)
  have hT : IsTup s.heap a vs.toArray := ⟨_, S.at hA, rfl, 0, rfl⟩
  exact subscriptTail_ops hT.typeIs PyProof.Rows.slot_tuple_getitem.lookup (getItem_tuple_from hT ⟨_, hsl, rfl, rfl⟩ h1 (by simpa using hi) (by simpa using kk s.heap s.toks (Ext.refl _)) (by rw [List.size_toArray, sizeLine_eq]; omega)) hs hg
end
end Mine

namespace Mine
section
variable {prog : Program} {w : World} {α β : Type} {c : Cx} {g g' : G} {ρ ρ' : Str → Option Value} {M M' : Mem} {K : Frag} {n : Nat} {pos apos : Pos} {P : Params} {l : List (Str × NameKind)}

theorem T.listOfT {a : Addr} {vs : List Value} {Q : Post Value} (S : Tup g a vs) (hz : vs.length ≤ 1000) (h : ∀ b, g b = none → Q (.ref b) (setG g b (.list vs)) ρ M) : T prog w c (call (.type "list") [.ref a]) Q g ρ M := fun s hA => by
  refine call_list_seq a (.inr rfl) (S.at hA) rfl rfl (fun h' c' x e => ?_) (by rw [List.size_toArray, sizeLine_eq]; omega)
  have hn : s.heap.get? s.heap.objs.size = none := by
    cases q : s.heap.get? s.heap.objs.size with
    | none => rfl
    | some o => exact absurd (Heap.lt_size q) (Nat.lt_irrefl _)
  have A2 := hA.new (m := .list vs) x hn ⟨_, e, c', rfl⟩
  have hg := (A2.fresh s.heap.objs.size (List.mem_append_right _ (.head _))).2
  exact ⟨_, _, _, Act.freeze (pre := []) A2, ⟨rfl, rfl, rfl⟩, Le.setG hg, h _ hg⟩

-- list(reversed(..))
theorem T.revIter {a : Addr} {vs : List Value} {Q : Post Value} (S : Lst g a vs) (h : ∀ I, Q (.ref I) g ρ ((I, .raw (revObj a ((vs.length : Int) - 1))) :: M)) : T prog w c (call (.type "reversed") [.ref a]) Q g ρ M :=
  T.pushM (m := .raw (revObj a ((vs.length : Int) - 1))) (o := revObj a ((vs.length : Int) - 1)) (f := .ref) rfl rfl (fun s hA R k => by
    obtain ⟨_, hl⟩ := SrcL.at (.inl S) hA
    refine call_reversed_list hl.isList ?_
    have e : ((vs.toArray.size : Nat) : Int) - 1 = (vs.length : Int) - 1 := by simp
    rw [e]
    exact k s.heap s.toks (Ext.refl _)) h
theorem lri_no_len : typeLookup (.type "list_reverseiterator") "__len__" = pure none := by rw [typeLookup_type, builtinLookup_eq_fast]; kernel_rfl
theorem lri_hint : typeLookup (.type "list_reverseiterator") "__length_hint__" = pure (some (.builtin "list_reverseiterator.__length_hint__")) := by rw [typeLookup_type, builtinLookup_eq_fast]; kernel_rfl
theorem hintRev {A : Around} {E : Value → Shared → Prop} {s : Shared} {r : Addr} {Q : Bool → Shared → Prop} (hT : s.TypeIs (.ref r) "list_reverseiterator") (h : Q false s) : wpAny (model prog w) A (Builtin.List.listLengthHint (.ref r)) Q E s := by
  unfold Builtin.List.listLengthHint
  refine wpAny_bind (wpAny_specialOf hT lri_no_len ?_)
  show wpAny _ _ (specialOf (Value.ref r) (Str.ofString "__length_hint__") >>= _) _ _ _
  refine wpAny_bind (wpAny_specialOf hT lri_hint ?_)
  generalize hid : ("list_reverseiterator.__length_hint__" : String) = id0
  wp_delta
  rw [show splitId id0 = some ("list_reverseiterator", "__length_hint__") from by subst hid; decide +kernel]
  subst hid
  refine wpAny_bind (wpAny_isInstance (T := "list_reverseiterator") (b := true) hT (by rw [isSubtype_type]; kernel_rfl) ?_)
  refine wpAny_ite_split (fun hab => absurd hab (by decide)) (fun _ => ?_)
  refine wpAny_ite_split (fun _ => ?_) (fun hab => absurd (by decide +kernel) hab)
  refine wpAny_ite_split (fun hab => absurd hab (by decide +kernel)) (fun _ => ?_)
  exact wpAny_pure h
theorem rev_extend {A : Around} {s : Shared} {I a : Addr} {items : Array Value} {R : Result → Shared → Prop} (hh : A.handled = none) (hne : a ≠ I) (hit : s.heap.IsRevIter I a ((items.size : Int) - 1)) (hl : s.heap.IsList a items) (S : Addr) (hSI : S ≠ I) (hSa : S ≠ a) (res : Value) (c₀ : Nat)
    (hS : s.heap.get? S = some { cls := .type "list", data := .seq #[] c₀ }) (hn : items.size ≤ sizeLine)
    (hR : ∀ h' tk acc' c', (∀ b o, b ≠ S → b ≠ I → s.heap.get? b = some o → h'.get? b = some o) → h'.get? S = some { cls := .type "list", dict := none, data := .seq acc' c', slots := #[] } → ItemsOf (fun i v => items[items.size - 1 - i]? = some v) acc' items.size → R (.ok (.ret res)) { s with heap := h', toks := tk }) :
    wpAny (model prog w) A.in1 (Builtin.List.listExtendWith (.ref S) (.ref I) res)
      (fun fin s' => match fin with | .done f => R (.ok f) s' | .again c' => c'.quiet = true ∧ codeAny (model prog w) A c' R s') (fun e s' => R (.error e) s') s := by
  have hh1 : A.in1.handled = none := hh
  have W := Walks.listRev (prog := prog) (w := w) (A := A.in1) hh1 I a hne items
  have hSf : S ∉ [I, a] := by simp only [List.mem_cons, List.not_mem_nil, or_false, not_or]; exact ⟨hSI, hSa⟩
  have key : ∀ (h : Heap) (c₁ tk : Nat), h.IsRevIter I a ((items.size : Int) - 1) → h.IsList a items → (∀ b o, b ≠ S → b ≠ I → s.heap.get? b = some o → h.get? b = some o) →
      h.get? S = some { cls := .type "list", data := .seq #[] c₁ } → codeAny (model prog w) A (.builtin "list.extend.loop" ⟨[.ref S, .ref I, res], []⟩) R { s with heap := h, toks := tk } := by
    intro h c₁ tk h1 h2 hk hS₁
    refine codeAny_extend_loopS W.toS hn S hSf res items.size 0 _ #[] c₁ rfl (Nat.zero_le _) ⟨Nat.zero_le _, by simpa using h1, h2⟩ hS₁ (ItemsOf.nil _) fun s' acc' c' hm hS' hacc => ?_
    rw [Moved.eq_with hm]
    refine hR s'.heap s'.toks acc' c' (fun b o hb hb2 e => hm.heap b o (fun hmem => ?_) (hk b o hb hb2 e)) hS' hacc
    rcases List.mem_cons.mp hmem with e' | hmem
    · exact hb e'
    · exact hb2 (List.mem_singleton.mp hmem)
  unfold Builtin.List.listExtendWith
  refine wpAny_bind (wpAny_typeOf (T := "list_reverseiterator") hit.typeIs ?_)
  have h1 : Builtin.List.listSameRef (.ref S) (.ref I) = false := by simp [Builtin.List.listSameRef, hSI]
  have h2 : (Value.type "list_reverseiterator" == Value.type "list") = false := by decide
  have h3 : (Value.type "list_reverseiterator" == Value.type "tuple") = false := by decide
  simp only [h1, h2, h3, Bool.or_false, Bool.false_eq_true, if_false]
  refine wpAny_bind (wpAny_pyIter_revIter hit ?_)
  refine wpAny_bind (wpAny_holding (hintRev hit.typeIs ?_))
  refine wpAny_ite_split (fun hab => absurd hab (by decide)) (fun _ => wpAny_pure ⟨plainId_quiet PySem.F.plain_extend_loop _, key _ c₀ _ hit hl (fun b o _ _ e => e) hS⟩)
theorem call_list_rev {A : Around} {E : Value → Shared → Prop} {s : Shared} {I a : Addr} {items : Array Value} {Q : Value → Shared → Prop} (hh : A.handled = none) (hne : a ≠ I) (hit : s.heap.IsRevIter I a ((items.size : Int) - 1)) (hl : s.heap.IsList a items) (hn : items.size ≤ sizeLine)
    (hQ : ∀ h' tk acc' c', (∀ b o, b ≠ I → s.heap.get? b = some o → h'.get? b = some o) → h'.get? s.heap.objs.size = some { cls := .type "list", dict := none, data := .seq acc' c', slots := #[] } → ItemsOf (fun i v => items[items.size - 1 - i]? = some v) acc' items.size → Q (.ref s.heap.objs.size) { s with heap := h', toks := tk }) :
    wpAny (model prog w) A (call (.type "list") [.ref I]) Q E s := by
  refine callType_codes (Q₁ := fun obj s₁ => obj = .ref s.heap.objs.size ∧ s₁ = { s with heap := s.heap.push { cls := .type "list", data := .seq #[] } }) PySem.F.called_list (PySem.F.typeCall_list_1 _) PySem.F.entry_list_init
    (code_list_new _ ⟨rfl, rfl⟩) fun obj s₁ h₁ => ?_
  obtain ⟨rfl, rfl⟩ := h₁
  have hS : (s.heap.push { cls := .type "list", data := .seq #[] }).get? s.heap.objs.size = some { cls := .type "list", data := .seq #[] } := Heap.get?_push_size _ rfl
  obtain ⟨oI, hoI, _⟩ := id hit
  obtain ⟨oa, hoa, _⟩ := id hl
  have n1 : s.heap.objs.size ≠ I := Nat.ne_of_gt (Heap.lt_size hoI)
  have n2 : s.heap.objs.size ≠ a := Nat.ne_of_gt (Heap.lt_size hoa)
  refine ⟨⟨_, hS, rfl⟩, PySem.F.args_list_init_2 _ _, ?_⟩
  show wpAny _ _ (do let old ← Builtin.List.listItems (.ref s.heap.objs.size); Builtin.List.listUpdate (.ref s.heap.objs.size) (fun _ => #[]); letGo old.toList.reverse; Builtin.List.listExtendWith (.ref s.heap.objs.size) (.ref I) .none) _ _ _
  refine wpAny_bind ?_
  unfold Builtin.List.listItems
  refine wpAny_bind (wpAny_seqItems hS rfl (wpAny_pure ?_))
  show wpAny _ _ (updateSeq s.heap.objs.size (fun _ => #[]) >>= fun _ => letGo (#[] : Array Value).toList.reverse >>= fun _ => Builtin.List.listExtendWith (.ref s.heap.objs.size) (.ref I) .none) _ _ _
  refine wpAny_bind (wpAny_updateSeq hS rfl ?_)
  have hS₂ := Heap.get?_update_self (Obj.mapSeq (fun _ => (#[] : Array Value))) hS rfl
  have oth : ∀ b o, b ≠ s.heap.objs.size → s.heap.get? b = some o → ((s.heap.push { cls := .type "list", data := .seq #[] }).update s.heap.objs.size (Obj.mapSeq (fun _ => (#[] : Array Value)))).get? b = some o :=
    fun b o hb e => (Heap.get?_update_other _ _ (Ne.symm hb)).trans (Heap.get?_push_of_some _ e)
  refine wpAny_bind (wpAny_letGo ?_)
  refine rev_extend (A := A.in1) hh hne (hit.at fun o e => oth _ _ n1.symm e) (hl.at fun o e => oth _ _ n2.symm e) _ n1 n2 .none _ hS₂ hn fun h' tk acc' c' hk hS' hacc => ?_
  exact ⟨rfl, hQ h' tk acc' c' (fun b o hb e => hk b o (Nat.ne_of_lt (Heap.lt_size e)) hb (oth b o (Nat.ne_of_lt (Heap.lt_size e)) e)) hS' hacc⟩
theorem T.listRev {I a : Addr} {vs : List Value} {Q : Post Value} (O : c.Ok K n) (S : Lst g a vs) (hz : vs.length ≤ 1000) (h : ∀ b, g b = none → Q (.ref b) (setG g b (.list vs.reverse)) ρ M) :
    T prog w c (call (.type "list") [.ref I]) Q g ρ ((I, .raw (revObj a ((vs.length : Int) - 1))) :: M) := fun s hA => by
  obtain ⟨_, hl⟩ := SrcL.at (M := (I, .raw (revObj a ((vs.length : Int) - 1))) :: M) (.inl S) hA
  obtain ⟨_, hI, rfl⟩ := hA.mem _ (.head _)
  have hne : a ≠ I := fun q => by
    have := hA.head_out.2.1
    rw [← q, S] at this; cases this
  refine call_list_rev (items := vs.toArray) O.room.handled hne ⟨_, hI, rfl, by simp [revObj]⟩ hl.isList (by rw [List.size_toArray, sizeLine_eq]; omega) fun h' tk acc' c' hk hS' hacc => ?_
  have hn : s.heap.get? s.heap.objs.size = none := by
    cases q : s.heap.get? s.heap.objs.size with
    | none => rfl
    | some o => exact absurd (Heap.lt_size q) (Nat.lt_irrefl _)
  have e : acc' = vs.reverse.toArray := by
    apply Array.ext'
    refine List.ext_getElem? fun j => ?_
    by_cases q : j < vs.length
    · have hj : j < acc'.size := by rw [hacc.1]; simpa using q
      have h2 := hacc.2 j acc'[j] (Array.getElem?_eq_getElem hj)
      simp only [List.size_toArray, List.getElem?_toArray] at h2
      rw [Array.getElem?_toList, Array.getElem?_eq_getElem hj, ← h2]
      simp [List.getElem?_reverse q]
    · have hj : ¬ j < acc'.size := by rw [hacc.1]; simpa using q
      rw [List.getElem?_eq_none (by simpa using hj), List.getElem?_eq_none (by simpa using q)]
  subst e
  have hout := hA.head_out
  have A1 := (hA.drop).outside (wr := [I]) (h' := h') O (fun b o hb e => hk b o (by simpa using hb) e) (fun b hb => by rw [List.mem_singleton.mp hb]; exact hout)
  have gn : g s.heap.objs.size = none := by
    cases q : g s.heap.objs.size with
    | none => rfl
    | some m => obtain ⟨o, ho, _⟩ := hA.know _ m q; rw [hn] at ho; cases ho
  have c0 : c.h₀.get? s.heap.objs.size = none := by
    cases q : c.h₀.get? s.heap.objs.size with
    | none => rfl
    | some o =>
      have := hA.keep _ o q
      rw [hn] at this
      cases this
  have nin : s.heap.objs.size ∉ c.own ++ M.map (·.1) := fun q => by
    rcases List.mem_append.mp q with q | q
    · obtain ⟨o, ho⟩ := hA.live _ q
      rw [hn] at ho
      cases ho
    · obtain ⟨p, hp, e⟩ := List.mem_map.mp q
      obtain ⟨o, ho, _⟩ := hA.mem p (.tail _ hp)
      rw [e, hn] at ho
      cases ho
  have A2 := A1.adopt (a := s.heap.objs.size) (m := .list vs.reverse) ⟨_, hS', c', rfl⟩ ⟨c0, gn, nin⟩
  exact ⟨_, _, _, Act.freeze (pre := []) A2, ⟨rfl, rfl, rfl⟩, Le.setG gn, h _ gn⟩

-- texts
theorem T.strI {k : Int} {t : Tok} {Q : Post Value} (h0 : 0 ≤ k) (h1 : k < 1000000) (h : ∀ t, Q (.str (Str.ofString (toString k)) t) g ρ M) : T prog w c (call (.type "str") [.int k t]) Q g ρ M := T.tok fun s hA R kk =>
  str_of_int_fit (N := 1000000) (by rw [if_neg (by omega)]; exact h1) (by decide) fun _ => kk _ _ (h _)
theorem T.addS {x y : Str} {t u : Tok} {Q : Post Value} (hz : x.length + y.length ≤ 1000) (h : ∀ t, Q (.str (x ++ y) t) g ρ M) : T prog w c (binaryOp .Add (.str x t) (.str y u)) Q g ρ M := T.tok fun s hA R kk =>
  PyProof.Rows.add_str (fun t' tk => kk _ tk (h t')) (by rw [sizeLine_eq]; omega)

-- a, b = e, f
theorem T.assign_sw {t e : Expr} {nms : List Str} {Q : Post Flow} (O : c.Ok K n) (hs : swapsWith e (some t) pos.line c.env = Pure.pure false) (hw : swappedStores [t] e c.env = Pure.pure (some nms))
    (h : T prog w c (eval e c.env) (fun v g ρ M => ∃ tt vals, v = .ref tt ∧ Tup g tt vals ∧ vals.length = nms.length ∧ T prog w c (assignInOrder (nms.reverse.map fun n => bindName c.env n) vals.reverse) (fun _ g ρ M => Q .next g ρ M) g ρ M) g ρ M) :
    T prog w c (exec (.Assign [t] e pos) c.env) Q g ρ M := by
  rw [exec_Assign1, hs]
  refine T.bind (T.standAt (T.bind (T.pure ?_)))
  rw [if_neg Bool.false_ne_true, hw]
  refine T.bind (T.mono h fun v g ρ M q => T.bind (T.pure ?_))
  obtain ⟨tt, vals, rfl, S, hl, q⟩ := q
  show T prog w c (do PySem.rule "assign.swapped-stores"; let items ← unpackItems (.ref tt) nms.length none; assignInOrder (nms.reverse.map fun n => bindName c.env n) items.reverse; Pure.pure .next) Q g ρ M
  refine T.bind (T.rule (T.bind fun s hA => ?_))
  have hT : s.heap.IsTuple tt vals.toArray := ⟨_, Tup.at S hA, rfl, 0, rfl⟩
  have e1 : nms.length = vals.toArray.size := by rw [List.size_toArray]; exact hl.symm
  rw [e1]
  refine wpAny_unpackItems_tuple O.room.handled hT fun h' x => ?_
  have x' : Ext s.heap h' := fun b o e => x b o (Nat.ne_of_lt (Heap.lt_size e)) e
  exact ⟨g, ρ, M, hA.ext x', ⟨rfl, rfl, rfl⟩, .refl g, T.bind (T.mono q fun _ g ρ M q => T.pure q)⟩
theorem T.bindName {x : Str} {v : Value} {Q : Post Unit} (h : T prog w c (storeName c.env x v) Q g ρ M) : T prog w c (PySem.bindName c.env x v) Q g ρ M := by
  unfold PySem.bindName
  exact T.bind (T.holding (T.point (T.bind (T.mono h fun _ g ρ M q => T.point q))))

-- a mutable object is lent to a call
theorem T.puW {t : Sem α} {Q' : α → G → Prop} {Q : Post α} {m : Nat} {pre post : Mem} {a : Addr} {mo : MO} (O : c.Ok K n) (hm : m ≤ n) (hp : g a = none → Pu prog w K m t Q' (setG g a mo))
    (h : ∀ r g', Le g g' → g' a = none → Q' r (setG g' a mo) → Q r g' ρ (pre ++ (a, mo) :: post)) : T prog w c t Q g ρ (pre ++ (a, mo) :: post) := fun s hA => by
  have ha := hA.fresh a (List.mem_append_right _ (by simp))
  have A1 := Act.freeze hA
  refine wpAny_mono (hp ha.2 c.A s (O.room.le hm) (hA.wd O) A1.know) (fun r s' ⟨x, rs, g₁, l, sb, nw, q⟩ => ?_) fun _ _ e => e
  let g' : G := fun b => if b = a then none else g₁ b
  have hga : g₁ a = some mo := l _ _ setG_self
  have e1 : setG g' a mo = g₁ := by
    funext b
    unfold setG
    by_cases q : b = a
    · rw [if_pos q, q, hga]
    · rw [if_neg q]; exact if_neg q
  have l' : Le g g' := fun b m' e => by
    have hb : b ≠ a := fun q => by rw [q, ha.2] at e; cases e
    show (if b = a then none else g₁ b) = _
    rw [if_neg hb]
    exact l b m' (by unfold setG; rw [if_neg hb]; exact e)
  have ga : g' a = none := if_pos rfl
  have of_g' : ∀ b m', g' b = some m' → b ≠ a ∧ g₁ b = some m' := fun b m' e => by
    by_cases q : b = a
    · rw [q, ga] at e; cases e
    · exact ⟨q, by rwa [show g' b = g₁ b from if_neg q] at e⟩
  have nw' : ∀ b m', g' b = some m' → g b = some m' ∨ s.heap.get? b = none := fun b m' e => by
    obtain ⟨hb, e⟩ := of_g' b m' e
    rcases nw b m' e with e | e
    · left
      unfold setG at e
      rwa [if_neg hb] at e
    · exact .inr e
  refine ⟨g', ρ, _, ⟨hA.keep.trans x, fun b m' e => sb b m' (of_g' b m' e).2, fun b m' e => ?_, ?_, fun y b e => (hA.cell y b e).keeps x, fun p hp => ?_, fun b hb => ⟨(hA.fresh b hb).1, ?_⟩, hA.nodup, fun b hb => ?_⟩, rs, l', h r g' l' ga (by rw [e1]; exact q)⟩
  · rcases nw' b m' e with e | e
    · exact hA.old b m' e
    · right
      cases q : c.h₀.get? b with
      | none => rfl
      | some o => rw [hA.keep b o q] at e; cases e
  · obtain ⟨m', hm', e⟩ := hA.ns
    exact ⟨m', hm'.keeps x, e⟩
  · obtain ⟨o, ho, hr⟩ := hA.mem p hp
    exact ⟨o, x _ _ ho, hr⟩
  · cases q : g' b with
    | none => rfl
    | some m' =>
      rcases nw' b m' q with e | e
      · rw [(hA.fresh b hb).2] at e; cases e
      · exfalso
        rcases List.mem_append.mp hb with hb | hb
        · obtain ⟨o, ho⟩ := hA.live b hb
          rw [ho] at e; cases e
        · obtain ⟨p, hp, rfl⟩ := List.mem_map.mp hb
          obtain ⟨o, ho, _⟩ := hA.mem p hp
          rw [ho] at e; cases e
  · obtain ⟨o, ho⟩ := hA.live b hb
    exact ⟨o, x _ _ ho⟩
end
end Mine

namespace Mine
section
variable {prog : Program} {w : World} {α β : Type} {c : Cx} {g g' : G} {ρ ρ' : Str → Option Value} {M M' : Mem} {K : Frag} {n : Nat} {pos apos : Pos} {P : Params} {l : List (Str × NameKind)}

theorem T.newDictN {b₀ : Addr} {Q : Post Value} (O : c.Ok K n) (hK : ((K.lookup b₀).isSome && decide (sysModules < b₀)) = true) (h : ∀ d, (d == sysModules) = false → Q (.ref d) g ρ ((d, .map (fun _ => none) 0) :: M)) : T prog w c (PySem.newDict) Q g ρ M := fun s hA => by
  obtain ⟨h1, h2⟩ := Bool.and_eq_true_iff.mp hK
  obtain ⟨o, ho⟩ := Option.isSome_iff_exists.mp h1
  have hlt := Heap.lt_size ((hA.wd O).X _ _ ho)
  have h2' := of_decide_eq_true h2
  refine wpAny_newObj_type ?_ (by first | trivial | (show (0:Nat) ≤ _; omega) | decide | simp [sizeOk, sizeLine_eq])
  have hn : s.heap.get? s.heap.objs.size = none := by
    cases q : s.heap.get? s.heap.objs.size with
    | none => rfl
    | some o => exact absurd (Heap.lt_size q) (Nat.lt_irrefl _)
  have A2 := hA.new (h' := s.heap.push { cls := .type "dict", data := .dict #[] }) (m := .map (fun _ => none) 0) (fun b o e => Heap.get?_push_of_some _ e) hn ⟨_, Heap.get?_push_size _ rfl, [], [], 0, rfl, .nil, List.nodup_nil, fun _ => rfl, Nat.le_refl _⟩
  exact ⟨_, _, _, A2, ⟨rfl, rfl, rfl⟩, .refl _, h _ (beq_eq_false_iff_ne.mpr (Nat.ne_of_gt (Nat.lt_trans h2' hlt)))⟩

/-- what a dict comprehension has to show: the keys are texts, no tests -/
def DcK (prog : Program) (w : World) (K : Frag) (n : Nat) (l : List (Str × NameKind)) (sc : Scope) (target kx vx : Expr) (g : G) (ρ : Str → Option Value) (m : Nat) (P : Nat → Value → Heap → Prop) (M' : Mem)
    (fin : Addr → (Str → Option Value) → G → Mem → Prop) : Prop := m ≤ 900 ∧ ∀ D, (D == sysModules) = false → ∃ Inv : Nat → (Str → Option Value) → G → Mem → Prop, Inv 0 (fun _ => none) g M' ∧
  (∀ c' : Cx, c'.Ok K n → c'.env.scope.names = relab l sc.names → ∀ i v g' ρ' f M, i < m → P i v c'.h₀ → Le g g' → (∀ x, ((relab l sc.names).lookup x == some .local) = false → ρ' x = ρ x) → Inv i f g' M →
    T prog w c' (assign target c'.env v) (fun _ g ρ M₁ => T prog w c' (eval kx c'.env) (fun kv g ρ M₁ => ∃ x t, kv = .str x t ∧ T prog w c' (eval vx c'.env) (fun vv g ρ M₁ => ∃ M', M₁ = (D, .map f i) :: M' ∧ Inv (i + 1) (fun y => if y = x then some vv else f y) g M') g ρ M₁) g ρ M₁) g' ρ' ((D, .map f i) :: M)) ∧
  ∀ f g' M, Le g g' → Inv m f g' M → fin D f g' M
theorem T.dc {kx vx target iter : Expr} {sc : Scope} {p : Pos} {Q : Post Value} {b₀ : Addr} (O : c.Ok K n) (hS : c.env.scope.names = l) (hK : ((K.lookup b₀).isSome && decide (sysModules < b₀)) = true)
    (hsc : compOk sc = true) (hfr : freeOk l sc.names = true) (hs : ∀ x, foldedSetIterable iter c.env x = Pure.pure x)
    (h : T prog w c (eval iter c.env) (fun xv g ρ M => Seqs prog w c target xv g ρ M fun m P M' => DcK prog w K n l sc target kx vx g ρ m P M' fun D f g' M => Q (.ref D) g' ρ ((D, .map f m) :: M)) g ρ M) :
    T prog w c (eval (.DictComp kx vx [⟨target, iter, [], 0⟩] sc p) c.env) Q g ρ M := by
  rw [arm_eval_DictComp]
  refine T.compU (use := none) (PD := fun D => (D == sysModules) = false) (m₀ := .map (fun _ => none) 0) (emit := fun a env => match a with
    | .ref D => eval kx env >>= fun k => PySem.holding [k] (eval vx env) >>= fun v => PySem.standAt { kx.pos with endLine := vx.pos.endLine, endCol := vx.pos.endCol } >>= fun _ => PySem.holding [k, v] (dictSet D k v)
    | _ => Pure.pure ()) O (fun e => nomatch e) hS rfl rfl (fun it D env => compTurn_D it D env) hsc hfr hs (fun c Q g ρ M O' hQ => ?_) ?_
  · exact T.newDictN O' hK hQ
  refine T.mono h fun xv g ρ M hq => hq.mono fun m P M' ⟨hm, hk⟩ D hD => ?_
  obtain ⟨Inv, h0, step, fin⟩ := hk D hD
  refine ⟨fun i g MM => ∃ f M, MM = (D, .map f i) :: M ∧ Inv i f g M, ⟨_, M', rfl, h0⟩, ?_, ?_⟩
  · rintro c' O' hS' i v g' ρ' MM hi hP hl ha ⟨f, M, rfl, inv⟩
    refine T.mono (step c' O' hS' i v g' ρ' f M hi hP hl ha inv) fun _ g ρ M₁ q => T.tests_nil ⟨fun _ => ?_, fun e => nomatch e⟩
    refine T.bind (T.mono q fun kv g ρ M₁ ⟨x, t, e, q⟩ => T.bind (T.holding (T.mono q fun vv g ρ M₁ ⟨M₂, e1, inv⟩ => T.bind (T.standAt (T.holding ?_)))))
    subst e e1
    exact T.dictSetD (pre := []) O' (by omega) ⟨_, M₂, rfl, inv⟩
  · rintro g' MM hl ⟨f, M, rfl, inv⟩
    exact fin f g' M hl inv

/-- a display of two pairs with texts as keys -/
theorem T.dict2 {k1 k2 v1 v2 : Expr} {Q : Post Value} (O : c.Ok K n)
    (h : ∀ d, T prog w c (eval k1 c.env) (fun kv1 g ρ M => T prog w c (eval v1 c.env) (fun vv1 g ρ M => T prog w c (eval k2 c.env) (fun kv2 g ρ M => T prog w c (eval v2 c.env) (fun vv2 g ρ M =>
      ∃ x y t u M', kv1 = .str x t ∧ kv2 = .str y u ∧ M = (d, .map (fun _ => none) 0) :: M' ∧ Q (.ref d) g ρ ((d, .map (fun z => if z = y then some vv2 else if z = x then some vv1 else none) 2) :: M')) g ρ M) g ρ M) g ρ M) g ρ ((d, .map (fun _ => none) 0) :: M)) :
    T prog w c (eval (.Dict [some k1, some k2] [v1, v2] pos) c.env) Q g ρ M := by
  rw [arm_eval_Dict]
  have e : (evalEachOpt [some k1, some k2] c.env).zip ((evalEach [v1, v2] c.env).map fun v => do let x ← v; PySem.standAt pos; Pure.pure x) = ([(eval k1 c.env, do let x ← eval v1 c.env; PySem.standAt pos; Pure.pure x), (eval k2 c.env, do let x ← eval v2 c.env; PySem.standAt pos; Pure.pure x)] : List (Sem Value × Sem Value)).map fun p => (some p.1, p.2) := rfl
  rw [e, dictDisplay_pairs _ (by simp) (by simp)]
  refine T.bind (T.standAt (T.bind ?_))
  unfold subDict
  refine T.bind (T.pushM (m := .map (fun _ => none) 0) (o := { cls := .type "dict", data := .dict #[] }) (f := id) ⟨[], [], 0, rfl, .nil, List.nodup_nil, fun _ => rfl, Nat.le_refl _⟩ rfl (fun s _ R k => wpAny_alloc (k s.heap s.toks (Ext.refl _))) fun d => ?_)
  show T prog w c (PySem.holding [.ref d] (if _ then _ else _) >>= fun _ => Pure.pure d) _ _ _ _
  refine T.bind (T.holding ?_)
  rw [if_pos (by simp)]
  have ev : ∀ {kx vx : Expr} {rest : List (Sem Value × Sem Value)} {g ρ M} {Q : Post (List (Value × Value))}, T prog w c (eval kx c.env) (fun kv g ρ M => T prog w c (eval vx c.env) (fun vv g ρ M => T prog w c (evalPairs rest) (fun r g ρ M => Q ((kv, vv) :: r) g ρ M) g ρ M) g ρ M) g ρ M →
      T prog w c (evalPairs ((eval kx c.env, do let x ← eval vx c.env; PySem.standAt pos; Pure.pure x) :: rest)) Q g ρ M := by
    intro kx vx rest g ρ M Q h
    rw [evalPairs]
    refine T.bind (T.mono h fun kv g ρ M q => T.bind (T.holding (T.bind (T.mono q fun vv g ρ M q => T.bind (T.standAt (T.pure ?_))))))
    exact T.bind (T.holding (T.mono q fun r g ρ M q => T.pure q))
  refine T.bind (ev (T.mono (h d) fun kv1 g ρ M q => T.mono q fun vv1 g ρ M q => ev (T.mono q fun kv2 g ρ M q => T.mono q fun vv2 g ρ M q => ?_)))
  obtain ⟨x, y, t, u, M', rfl, rfl, rfl, q⟩ := q
  rw [evalPairs]
  refine T.pure (T.holding ?_)
  simp only [List.forIn_cons, List.forIn_nil, bind_assoc, pure_bind]
  refine T.bind (T.dictSetD (pre := []) O (by omega) (T.bind (T.dictSetD (pre := []) O (by omega) (T.pure (T.pure (T.pure q))))))
end
end Mine

namespace Mine
section
variable {prog : Program} {w : World} {α β : Type} {c : Cx} {g g' : G} {ρ ρ' : Str → Option Value} {M M' : Mem} {K : Frag} {n : Nat} {pos apos : Pos} {P : Params} {l : List (Str × NameKind)}

/-- a mutable object stands still while a tree runs -/
theorem T.lend {t : Sem α} {Q : Post α} {pre post : Mem} {a : Addr} {m : MO}
    (h : g a = none → T prog w c t (fun r g' ρ' M' => ∀ g₀, Le g g₀ → g₀ a = none → setG g₀ a m = g' → Q r g₀ ρ' ((a, m) :: M')) (setG g a m) ρ (pre ++ post)) : T prog w c t Q g ρ (pre ++ (a, m) :: post) := fun s hA => by
  have ha := hA.fresh a (List.mem_append_right _ (by simp))
  refine wpAny_mono (h ha.2 s (Act.freeze hA)) (fun r s' ⟨g₁, ρ', M', A, rs, l, q⟩ => ?_) fun _ _ e => e
  let g₀ : G := fun b => if b = a then none else g₁ b
  have hga : g₁ a = some m := l _ _ setG_self
  have e1 : setG g₀ a m = g₁ := by
    funext b
    unfold setG
    by_cases q : b = a
    · rw [if_pos q, q, hga]
    · rw [if_neg q]; exact if_neg q
  have l' : Le g g₀ := fun b m' e => by
    have hb : b ≠ a := fun q => by rw [q, ha.2] at e; cases e
    show (if b = a then none else g₁ b) = _
    rw [if_neg hb]
    exact l b m' (by unfold setG; rw [if_neg hb]; exact e)
  have ga : g₀ a = none := if_pos rfl
  have of_g : ∀ b m', g₀ b = some m' → b ≠ a ∧ g₁ b = some m' := fun b m' e => by
    by_cases q : b = a
    · rw [q, ga] at e; cases e
    · exact ⟨q, by rwa [show g₀ b = g₁ b from if_neg q] at e⟩
  have nin : a ∉ c.own ++ M'.map (·.1) := fun q => by rw [(A.fresh a q).2] at hga; cases hga
  refine ⟨g₀, ρ', (a, m) :: M', ⟨A.keep, fun b m' e => A.know b m' (of_g b m' e).2, fun b m' e => A.old b m' (of_g b m' e).2, A.ns, A.cell, fun p hp => ?_, fun b hb => ?_, ?_, A.live⟩, rs, l', q g₀ l' ga e1⟩
  · rcases List.mem_cons.mp hp with rfl | hp
    · exact A.know _ _ hga
    · exact A.mem p hp
  · rcases List.mem_append.mp hb with hb | hb
    · refine ⟨(A.fresh b (List.mem_append_left _ hb)).1, ?_⟩
      have := (A.fresh b (List.mem_append_left _ hb)).2
      show (if b = a then none else g₁ b) = none
      rw [this]; simp
    · rcases List.mem_cons.mp hb with rfl | hb
      · exact ⟨ha.1, ga⟩
      · refine ⟨(A.fresh b (List.mem_append_right _ hb)).1, ?_⟩
        have := (A.fresh b (List.mem_append_right _ hb)).2
        show (if b = a then none else g₁ b) = none
        rw [this]; simp
  · obtain ⟨n1, n2, n3⟩ := List.nodup_append.mp A.nodup
    refine List.nodup_append.mpr ⟨n1, List.nodup_cons.mpr ⟨fun q => nin (List.mem_append_right _ q), n2⟩, fun x hx y hy e => ?_⟩
    rcases List.mem_cons.mp hy with rfl | hy
    · exact nin (List.mem_append_left _ (by rw [← e]; exact hx))
    · exact n3 x hx y hy e
end
end Mine

namespace Mine
section
variable {prog : Program} {w : World} {α β : Type} {c : Cx} {g g' : G} {ρ ρ' : Str → Option Value} {M M' : Mem} {K : Frag} {n : Nat} {pos apos : Pos} {P : Params} {l : List (Str × NameKind)}
/-- a comprehension that keeps those that pass a test -/
theorem LcK.filter {x : Str} {px : Pos} {elt test : Expr} {sc : Scope} {vs : List Value} {fin : Addr → List Value → G → Mem → Prop} (b : Value → Bool)
    (hx : ((relab l sc.names).lookup x == some .local) = true) (hm : vs.length ≤ 1000)
    (step : ∀ (D : Addr) (c' : Cx), c'.Ok K n → c'.env.scope.names = relab l sc.names → ∀ v g' ρ' acc, v ∈ vs → Le g g' → (∀ x, ((relab l sc.names).lookup x == some .local) = false → ρ' x = ρ x) →
      T prog w c' (isTrue test c'.env (eval test c'.env)) (fun r g'' ρ'' M'' => r = b v ∧ M'' = (D, .list acc) :: M ∧ (b v = true → T prog w c' (eval elt c'.env) (fun y _ _ M3 => y = v ∧ M3 = (D, .list acc) :: M) g'' ρ'' M'')) g' (put ρ' x v) ((D, .list acc) :: M))
    (hfin : ∀ D g', Le g g' → fin D (vs.filter b) g' M) : LcK prog w K n l sc (.Name x px) elt [test] g ρ vs.length (fun i v _ => vs[i]? = some v) M fin := by
  refine ⟨hm, fun D => ⟨fun i acc g' M' => M' = M ∧ acc = (vs.take i).filter b, ⟨rfl, rfl⟩, ?_, ?_⟩⟩
  · rintro c' O' hS' i v g' ρ' acc M' hi hv hl ha ⟨rfl, rfl⟩
    refine T.assign_stored (T.stLocal O' (kind_of hS' (by simpa using hx)) ?_)
    refine T.tests_one (T.mono (step D c' O' hS' v g' ρ' _ (List.mem_iff_getElem?.mpr ⟨i, hv⟩) hl ha) fun r g'' ρ'' M'' ⟨e1, e2, q⟩ => ?_)
    subst e1 e2
    have htake : (vs.take (i + 1)).filter b = (vs.take i).filter b ++ (if b v = true then [v] else []) := by
      rw [List.take_add_one, hv, List.filter_append]
      show _ ++ [v].filter b = _
      simp [List.filter_cons]
    refine ⟨fun e => T.mono (q e) fun y g3 ρ3 M3 ⟨e1, e2⟩ => ?_, fun e => ⟨_, rfl, rfl, ?_⟩⟩
    · subst e1 e2
      exact ⟨_, rfl, rfl, by rw [htake, if_pos e]⟩
    · rw [htake, if_neg (by rw [e]; exact Bool.false_ne_true), List.append_nil]
  · rintro acc g' M' hl ⟨rfl, rfl⟩
    rw [List.take_length]
    exact hfin D g' hl
theorem LcK.refs {x : Str} {px : Pos} {elt test : Expr} {sc : Scope} {as : List Addr} {fin : Addr → List Value → G → Mem → Prop} (b : Addr → Bool)
    (hx : ((relab l sc.names).lookup x == some .local) = true) (hm : as.length ≤ 1000)
    (step : ∀ (D : Addr) (c' : Cx), c'.Ok K n → c'.env.scope.names = relab l sc.names → ∀ a g' ρ' acc, a ∈ as → Le g g' → (∀ x, ((relab l sc.names).lookup x == some .local) = false → ρ' x = ρ x) →
      T prog w c' (isTrue test c'.env (eval test c'.env)) (fun r g'' ρ'' M'' => r = b a ∧ M'' = (D, .list acc) :: M ∧ (b a = true → T prog w c' (eval elt c'.env) (fun y _ _ M3 => y = .ref a ∧ M3 = (D, .list acc) :: M) g'' ρ'' M'')) g' (put ρ' x (.ref a)) ((D, .list acc) :: M))
    (hfin : ∀ D g', Le g g' → fin D ((as.filter b).map .ref) g' M) : LcK prog w K n l sc (.Name x px) elt [test] g ρ (as.map Value.ref).length (fun i v _ => (as.map Value.ref)[i]? = some v) M fin := by
  refine LcK.filter (fun v => match v with | .ref a => b a | _ => false) hx (by rw [List.length_map]; exact hm) (fun D c' O' hS' v g' ρ' acc hv hl ha => ?_) fun D g' hl => ?_
  · obtain ⟨a, hm, rfl⟩ := List.mem_map.mp hv
    exact step D c' O' hS' a g' ρ' acc hm hl ha
  · have e : (as.map Value.ref).filter (fun v => match v with | .ref a => b a | _ => false) = (as.filter b).map .ref := by
      rw [List.filter_map]; rfl
    rw [e]
    exact hfin D g' hl
end
end Mine

namespace Mine
section
variable {prog : Program} {w : World} {c : Cx} {K : Frag} {n : Nat} {l : List (Str × NameKind)}
theorem swap2 {x y : Str} {px py kp p2 q1 q2 : Pos} {k k2 : Nat} (O : c.Ok K n) (hS : c.env.scope.names = l) (hx : (l.lookup x == some .local) = true) (hy : (l.lookup y == some .local) = true) (hp : (py.line == px.line) = true) (hne : (y == x) = false) :
    swappedStores [.Tuple [.Name x px, .Name y py] k kp] (.Tuple [.List [] q1, .List [] q2] k2 p2) c.env = pure (some [x, y]) := by
  have b : (c.env.blockKind != .function) = false := by unfold Env.blockKind; rw [O.kind]; rfl
  have kx : (c.env.kindOf x == some .local) = true := by rw [Env.kindOf, hS]; exact hx
  have ky : (c.env.kindOf y == some .local) = true := by rw [Env.kindOf, hS]; exact hy
  have kx' : c.env.kindOf x = some .local := by simpa using kx
  have ky' : c.env.kindOf y = some .local := by simpa using ky
  have hp' : py.line = px.line := by simpa using hp
  have e2 : [x, y].eraseDups = [x, y] := by simp [List.eraseDups_cons, hne]
  unfold swappedStores
  show (if _ then _ else _) = _
  rw [if_neg (by simp [b])]
  show (if _ then _ else _) = _
  rw [if_neg (by simp)]
  simp only [List.head?_cons, Option.map_some, Option.getD_some, Expr.pos]
  simp only [List.filterMap_cons, List.filterMap_nil, kx', ky', hp', beq_self_eq_true, Bool.and_true, if_true, Bool.and_self]
  rw [e2]
  show (if _ then _ else _) = _
  rw [if_neg (by simp)]
  show (if _ then _ else _) = _
  rw [if_neg (by simp [foldedForSure])]
  show (if _ then _ else _) = _
  rw [if_neg (by simp [constantsAlone])]
end
end Mine

namespace Mine
open AutoSeq1 (wpAny_loadPart')
open PySem.MeetsSeq
section
variable {prog : Program} {w : World} {α β : Type} {c : Cx} {g g' : G} {ρ ρ' : Str → Option Value} {M M' : Mem} {K : Frag} {n : Nat} {pos apos : Pos} {P : Params}

/-- a call has turned one mutable object and made new ones -/
theorem Act.puTurn {h h' : Heap} {pre post : Mem} {R : Addr} {m₀ m₁ : MO} (A : Act P c g ρ (pre ++ (R, m₀) :: post) h) (O : c.Ok K n) (x : ∀ b o, b ≠ R → h.get? b = some o → h'.get? b = some o) (sb : Sub P g' h') (nw : ∀ a m, g' a = some m → g a = some m ∨ h.get? a = none) (l : Le g g')
    (gr : g' R = none) (hr : ∃ o, h'.get? R = some o ∧ m₁.rep P o) : Act P c g' ρ (pre ++ (R, m₁) :: post) h' := by
  obtain ⟨m, hm, e⟩ := A.ns
  have hown : ∀ a ∈ c.own, a ≠ R := fun a ha e => (List.nodup_append.mp A.nodup).2.2 a ha R (by simp) e
  have A1 := A.turn (h' := h') (m₁ := m₁) O (fun a o ha _ eo => x a o ha eo) ⟨m, hm.at' fun o ho => x _ o (hown _ O.loc) ho, e⟩ hr
  refine ⟨A1.keep, sb, fun a mm ea => ?_, A1.ns, A1.cell, A1.mem, fun a ha => ⟨(A1.fresh a ha).1, ?_⟩, A1.nodup, A1.live⟩
  · rcases nw a mm ea with q | q
    · exact A1.old a mm q
    · right
      cases z : c.h₀.get? a with
      | none => rfl
      | some o => rw [A.keep a o z] at q; cases q
  · cases z : g' a with
    | none => rfl
    | some mm =>
      rcases nw a mm z with q | q
      · rw [(A1.fresh a ha).2] at q; cases q
      · exfalso
        rcases List.mem_append.mp ha with ha | ha
        · obtain ⟨o, ho⟩ := A.live a ha
          rw [ho] at q; cases q
        · rw [show (pre ++ (R, m₁) :: post).map (·.1) = (pre ++ (R, m₀) :: post).map (·.1) by simp] at ha
          obtain ⟨p, hp, rfl⟩ := List.mem_map.mp ha
          obtain ⟨o, ho, _⟩ := A.mem p hp
          rw [ho] at q; cases q

-- all and any of truth values
theorem allBools {A : Around} {E : Value → Shared → Prop} {s : Shared} {l : Addr} {vs : List Value} {bs : List Bool} {Q : Value → Shared → Prop} (hh : A.handled = none) (hl : s.heap.IsList l vs.toArray) (hb : LSm.BoolsAre vs bs)
    (h : ∀ h' tk, Ext s.heap h' → Q (.bool (bs.all id)) { s with heap := h', toks := tk }) : wpAny (model prog w) A (call (.builtin "all") [.ref l]) Q E s := by
  have hlt : l < s.heap.objs.size := by obtain ⟨_, e, _⟩ := hl; exact Heap.lt_size e
  refine call_all_walk (wpAny_pyIter_list hl ?_)
  refine ⟨s.heap.objs.size, [s.heap.objs.size, l], [s.heap.objs.size], vs.toArray.size, _, _, fun i => (bs[i]?).getD true, rfl, Walks.list (A := A.in1) hh _ l (Nat.ne_of_lt hlt) vs.toArray,
    ⟨⟨_, Heap.get?_push_size _ rfl, rfl, rfl⟩, hl.push _⟩, fun i v s' Q' E' hP hQ => ?_, fun h' tk hk => ?_⟩
  · obtain ⟨b, e, rfl⟩ := hb.get i v (by simpa using hP)
    simp only [e, Option.getD_some] at hQ
    exact wpAny_truthy_bool hQ
  · have e : ((List.range vs.toArray.size).all fun i => (bs[i]?).getD true) = bs.all id := by
      rw [List.size_toArray, hb.length]; exact LSm.range_all bs
    rw [e]
    exact h h' tk (LSm.kept_iter hk)
theorem anyBools {A : Around} {E : Value → Shared → Prop} {s : Shared} {l : Addr} {vs : List Value} {bs : List Bool} {Q : Value → Shared → Prop} (hh : A.handled = none) (hl : s.heap.IsList l vs.toArray) (hb : LSm.BoolsAre vs bs)
    (h : ∀ h' tk, Ext s.heap h' → Q (.bool (bs.any id)) { s with heap := h', toks := tk }) : wpAny (model prog w) A (call (.builtin "any") [.ref l]) Q E s := by
  have hlt : l < s.heap.objs.size := by obtain ⟨_, e, _⟩ := hl; exact Heap.lt_size e
  refine call_any_walk (wpAny_pyIter_list hl ?_)
  refine ⟨s.heap.objs.size, [s.heap.objs.size, l], [s.heap.objs.size], vs.toArray.size, _, _, fun i => (bs[i]?).getD false, rfl, Walks.list (A := A.in1) hh _ l (Nat.ne_of_lt hlt) vs.toArray,
    ⟨⟨_, Heap.get?_push_size _ rfl, rfl, rfl⟩, hl.push _⟩, fun i v s' Q' E' hP hQ => ?_, fun h' tk hk => ?_⟩
  · obtain ⟨b, e, rfl⟩ := hb.get i v (by simpa using hP)
    simp only [e, Option.getD_some] at hQ
    exact wpAny_truthy_bool hQ
  · have e : ((List.range vs.toArray.size).any fun i => (bs[i]?).getD false) = bs.any id := by
      rw [List.size_toArray, hb.length]; exact LSm.range_any bs
    rw [e]
    exact h h' tk (LSm.kept_iter hk)
theorem T.allB {l : Addr} {bs : List Bool} {Q : Post Value} (O : c.Ok K n) (S : SrcL g M l (bs.map .bool)) (h : Q (.bool (bs.all id)) g ρ M) : T prog w c (call (.builtin "all") [.ref l]) Q g ρ M := fun s hA => by
  obtain ⟨_, hl⟩ := S.at hA
  have hb : ∀ bs : List Bool, LSm.BoolsAre (bs.map .bool) bs := fun bs => by
    induction bs with
    | nil => exact .nil
    | cons b bs ih => exact .cons b ih
  exact allBools O.room.handled hl.isList (hb bs) fun h' tk x => ⟨g, ρ, M, hA.ext x, ⟨rfl, rfl, rfl⟩, .refl g, h⟩
theorem T.anyB {l : Addr} {bs : List Bool} {Q : Post Value} (O : c.Ok K n) (S : SrcL g M l (bs.map .bool)) (h : Q (.bool (bs.any id)) g ρ M) : T prog w c (call (.builtin "any") [.ref l]) Q g ρ M := fun s hA => by
  obtain ⟨_, hl⟩ := S.at hA
  have hb : ∀ bs : List Bool, LSm.BoolsAre (bs.map .bool) bs := fun bs => by
    induction bs with
    | nil => exact .nil
    | cons b bs ih => exact .cons b ih
  exact anyBools O.room.handled hl.isList (hb bs) fun h' tk x => ⟨g, ρ, M, hA.ext x, ⟨rfl, rfl, rfl⟩, .refl g, h⟩

-- x in a list, by an == that calls
theorem contLoop {A : Around} {l : Addr} {x : Value} {items : List Value} {e : Value → Bool} (hr : Room A.in1 n) (S : Lst g l items) (he : ∀ y ∈ items, Pu prog w K n (eqBool y x) (fun r g' => r = e y ∧ g' = g) g) (k : Nat) :
    ∀ (i : Nat) (s : Shared) (R : Result → Shared → Prop), items.length - i = k → Wd K s.heap → Sub w.params g s.heap → (∀ s', Ext s.heap s'.heap → Rest s s' → R (.ok (.ret (.bool ((items.drop i).any e)))) s') →
      wpAny (model prog w) A.in1 (Builtin.«list.__contains__.loop» ⟨[.ref l, x, rawInt i], []⟩)
        (fun fin s' => match fin with | .done f => R (.ok f) s' | .again c' => c'.quiet = true ∧ codeAny (model prog w) A c' R s') (fun e s' => R (.error e) s') s := by
  induction k with
  | zero =>
    intro i s R hk wd sb h
    obtain ⟨_, hl, m, rfl⟩ := sb _ _ S
    obtain ⟨hp, g, d, tk, os⟩ := s
    have hi : items.toArray[((i : Nat) : Int).toNat]? = none := by simp; omega
    have hd : items.drop i = [] := by simp; omega
    rw [hd] at h
    wp_walk using wpAny_loadPart' hl
    rw [hi]
    wp_walk
    exact h _ (Ext.refl _) (.refl _)
  | succ k ih =>
    intro i s R hk wd sb h
    obtain ⟨_, hl, m, rfl⟩ := sb _ _ S
    obtain ⟨hp, g0, d, tk, os⟩ := s
    have hlt : i < items.length := by omega
    have hi : items.toArray[((i : Nat) : Int).toNat]? = some items[i] := by
      rw [Int.toNat_natCast, List.getElem?_toArray]
      exact List.getElem?_eq_getElem hlt
    have hd : items.drop i = items[i] :: items.drop (i + 1) := List.drop_eq_getElem_cons hlt
    rw [hd, List.any_cons] at h
    wp_walk using wpAny_loadPart' hl
    rw [hi]
    refine wpAny_bind (wpAny_mono (he _ (List.getElem_mem hlt) A.in1 _ hr wd sb) (fun r s' ⟨xx, rs, g', l', sb', nw, q1, q2⟩ => ?_) fun _ _ z => z.elim)
    subst q1 q2
    cases hb : e items[i] with
    | true =>
      rw [hb] at h
      wp_walk
      exact h _ xx rs
    | false =>
      rw [hb] at h
      have hc : ((i : Int) + 1) = ((i + 1 : Nat) : Int) := by push_cast; rfl
      wp_walk
      rw [hc]
      exact ⟨plainId_quiet plain_contains_loop _, codeAny_builtin entry_contains_loop (by
        rw [Around.under_plainId plain_contains_loop _]
        exact ih (i + 1) s' R (by omega) (wd.ext xx) sb' fun s2 x2 r2 => by simpa using h s2 (xx.trans x2) (rs.trans r2))⟩
theorem Pu.contains {l : Addr} {x : Value} {items : List Value} {e : Value → Bool} (S : Lst g l items) (he : ∀ y ∈ items, Pu prog w K n (eqBool y x) (fun r g' => r = e y ∧ g' = g) g) :
    Pu prog w K (n + 1) (contains (.ref l) x) (fun r g' => r = items.any e ∧ g' = g) g := fun A s r wd sb => by
  obtain ⟨_, hl, m, rfl⟩ := sb _ _ S
  refine wpAny_contains_slot ⟨_, hl, rfl⟩ F.slot_list_contains ?_
  refine wpAny_mono (Q := fun v s' => v = .bool (items.any e) ∧ Ext s.heap s'.heap ∧ Rest s s') (E := fun _ _ => False) ?_ (fun v s' ⟨q, x, rs⟩ => ?_) fun _ _ e => e
  · refine wpAny_call (codeAny_call_builtin F.slot_list_contains.plain F.entry_list_contains (F.slot_list_contains.check _ _ _ _ _ _ _ _ ⟨_, hl, rfl⟩ (F.args_list_contains_2 _ _) ?_))
    have r1 : Room A.in1 n := r.in1
    have hl0 := hl
    obtain ⟨hp, g0, d, tk, os⟩ := s
    wp_walk using wpAny_loadPart' hl
    refine ⟨plainId_quiet plain_contains_loop _, codeAny_builtin entry_contains_loop ?_⟩
    rw [Around.under_plainId plain_contains_loop _]
    exact contLoop r1 S he items.length 0 _ (wants (fun v s' => v = .bool (items.any e) ∧ Ext hp s'.heap ∧ Rest ⟨hp, g0, d, tk, os⟩ s') (fun _ _ => False)) (by simp) wd sb fun s' x rs => ⟨by rw [List.drop_zero], x, rs⟩
  · subst q
    exact wpAny_truthy_bool ⟨x, rs, g, .refl g, sb.ext x, fun _ _ e => .inl e, rfl, rfl⟩
theorem Pu.inL {l : Addr} {x : Value} {items : List Value} {e : Value → Bool} (S : Lst g l items) (he : ∀ y ∈ items, Pu prog w K n (eqBool y x) (fun r g' => r = e y ∧ g' = g) g) :
    Pu prog w K (n + 1) (compareOp .In x (.ref l)) (fun r g' => r = .bool (items.any e) ∧ g' = g) g := by
  show Pu prog w K (n + 1) (PySem.contains (.ref l) x >>= fun b => Pure.pure (Value.bool b)) _ g
  exact Pu.bind ((Pu.contains S he).mono (Nat.le_refl _) fun r g' _ q => Pu.pure ⟨by rw [q.1], q.2⟩)
theorem Pu.notInL {l : Addr} {x : Value} {items : List Value} {e : Value → Bool} (S : Lst g l items) (he : ∀ y ∈ items, Pu prog w K n (eqBool y x) (fun r g' => r = e y ∧ g' = g) g) :
    Pu prog w K (n + 1) (compareOp .NotIn x (.ref l)) (fun r g' => r = .bool (!items.any e) ∧ g' = g) g := by
  show Pu prog w K (n + 1) (PySem.contains (.ref l) x >>= fun b => Pure.pure (Value.bool (!b))) _ g
  exact Pu.bind ((Pu.contains S he).mono (Nat.le_refl _) fun r g' _ q => Pu.pure ⟨by rw [q.1], q.2⟩)

-- a list that a call may turn
def PuL (prog : Program) (w : World) (K : Frag) (n : Nat) {α : Type} (t : Sem α) (R : Addr) (xs : List Value) (Q : α → List Value → G → Prop) (g : G) : Prop :=
  ∀ A s, Room A n → Wd K (hide s.heap [R]) → Sub w.params g s.heap → g R = none → (∃ o, s.heap.get? R = some o ∧ (MO.list xs).rep w.params o) →
    wpAny (model prog w) A t (fun r s' => (∀ b o, b ≠ R → s.heap.get? b = some o → s'.heap.get? b = some o) ∧ Rest s s' ∧
      ∃ g' ys, Le g g' ∧ Sub w.params g' s'.heap ∧ (∀ a m, g' a = some m → g a = some m ∨ s.heap.get? a = none) ∧ (∃ o, s'.heap.get? R = some o ∧ (MO.list ys).rep w.params o) ∧ g' R = none ∧ Q r ys g') (fun _ _ => False) s
theorem PuL.mono {t : Sem α} {R : Addr} {xs : List Value} {Q Q' : α → List Value → G → Prop} {m : Nat} (h : PuL prog w K n t R xs Q g) (hm : n ≤ m) (k : ∀ r ys g', Le g g' → Q r ys g' → Q' r ys g') : PuL prog w K m t R xs Q' g :=
  fun A s r wd sb gr hr => wpAny_mono (h A s (r.le hm) wd sb gr hr) (fun _ _ ⟨a, b, g', ys, c, d, e, f, i, q⟩ => ⟨a, b, g', ys, c, d, e, f, i, k _ _ _ c q⟩) fun _ _ e => e
theorem get_hide1 {h : Heap} {R b : Addr} : (hide h [R]).get? b = if b = R then none else h.get? b := by
  rw [get_hide]; simp
theorem T.puL {t : Sem α} {R : Addr} {xs : List Value} {Q' : α → List Value → G → Prop} {Q : Post α} {m : Nat} {pre post : Mem} (O : c.Ok K n) (hp : PuL prog w K m t R xs Q' g) (hm : m ≤ n)
    (h : ∀ r ys g', Le g g' → Q' r ys g' → Q r g' ρ (pre ++ (R, .list ys) :: post)) : T prog w c t Q g ρ (pre ++ (R, .list xs) :: post) := fun s hA => by
  have hR := hA.fresh R (List.mem_append_right _ (by simp))
  have x0 : Ext c.h₀ (hide s.heap [R]) := hide_ext hA.keep fun a ha => by rw [List.mem_singleton.mp ha]; exact hR.1
  refine wpAny_mono (hp c.A s (O.room.le hm) (O.wd.ext x0) hA.know hR.2 (hA.mem (R, .list xs) (by simp))) (fun r s' ⟨x, rs, g', ys, l, sb, nw, hr, gr, q⟩ => ?_) fun _ _ e => e
  have hpL : ∀ a ∈ c.own, a ≠ R := fun a ha e => (List.nodup_append.mp hA.nodup).2.2 a ha R (by simp) e
  refine ⟨g', ρ, _, hA.puTurn O x sb nw l gr hr, rs, l, h r ys g' l q⟩
end
end Mine

namespace Mine
/-- the trees of the law: classes, boxes over one, variables, none, bottom, unions -/
inductive Tr where
  | cls (k : Nat)
  | app (v : Nat) (t : Tr)
  | var (v : Nat)
  | none
  | bot
  | uni (a b : Tr)
structure Wm where
  up : Nat → List Nat
  bnd : Nat → Nat
  refl : ∀ k, k ∈ up k
  zero : ∀ k, 0 ∈ up k
  only : ∀ k, k ∈ up 0 → k = 0
  trans : ∀ i j k, j ∈ up k → i ∈ up j → i ∈ up k
variable (W : Wm)
/-- the plain reading of 'below' -/
def B (s t : Tr) : Bool := match s with
  | .uni a b => B a t && B b t
  | .bot => true
  | .cls k => (match t with | .uni a b => B (.cls k) a || B (.cls k) b | .cls l => (W.up k).contains l | .app _ _ => false | .var _ => false | .none => false | .bot => false)
  | .var v => (match t with | .uni a b => B (.var v) a || B (.var v) b | .cls l => (W.up (W.bnd v)).contains l | .app _ _ => false | .var u => u == v | .none => false | .bot => false)
  | .none => (match t with | .uni a b => B .none a || B .none b | .cls l => l == 0 | .app _ _ => false | .var _ => false | .none => true | .bot => false)
  | .app v x => (match t with | .uni a b => B (.app v x) a || B (.app v x) b | .cls l => l == 0 | .app u y => u == v && (if v == 4 then B x y else if v == 5 then B y x else B x y && B y x) | .var _ => false | .none => false | .bot => false)
termination_by sizeOf s + sizeOf t
def Tr.leaves : Tr → List Tr | .uni a b => a.leaves ++ b.leaves | .cls k => [.cls k] | .app v t => [.app v t] | .var v => [.var v] | .none => [.none] | .bot => [.bot]
def Tr.isUni : Tr → Bool | .uni _ _ => true | _ => false
theorem leaves_notUni : ∀ (t : Tr), ∀ x ∈ t.leaves, x.isUni = false
  | .uni a b, x, h => by
    rw [Tr.leaves] at h
    rcases List.mem_append.mp h with h | h
    · exact leaves_notUni a x h
    · exact leaves_notUni b x h
  | .cls _, x, h => by rw [Tr.leaves, List.mem_singleton] at h; rw [h]; rfl
  | .app _ _, x, h => by rw [Tr.leaves, List.mem_singleton] at h; rw [h]; rfl
  | .var _, x, h => by rw [Tr.leaves, List.mem_singleton] at h; rw [h]; rfl
  | .none, x, h => by rw [Tr.leaves, List.mem_singleton] at h; rw [h]; rfl
  | .bot, x, h => by rw [Tr.leaves, List.mem_singleton] at h; rw [h]; rfl
variable {W}
theorem B_uniL {a b t : Tr} : B W (.uni a b) t = (B W a t && B W b t) := by rw [B]
theorem B_bot {t : Tr} : B W .bot t = true := by rw [B]
theorem B_uniR {s a b : Tr} (h : s.isUni = false) : B W s (.uni a b) = (B W s a || B W s b) := by
  cases s with
  | uni => cases h
  | bot => simp [B_bot]
  | cls k => rw [B]
  | app v x => rw [B]
  | var v => rw [B]
  | none => rw [B]
theorem B_leavesL : ∀ (s t : Tr), B W s t = s.leaves.all fun x => B W x t
  | .uni a b, t => by rw [B_uniL, B_leavesL a, B_leavesL b, Tr.leaves, List.all_append]
  | .cls _, t => by simp [Tr.leaves]
  | .app _ _, t => by simp [Tr.leaves]
  | .var _, t => by simp [Tr.leaves]
  | .none, t => by simp [Tr.leaves]
  | .bot, t => by simp [Tr.leaves]
theorem B_leavesR {s : Tr} (h : s.isUni = false) : ∀ (t : Tr), B W s t = t.leaves.any fun x => B W s x
  | .uni a b => by rw [B_uniR h, B_leavesR h a, B_leavesR h b, Tr.leaves, List.any_append]
  | .cls _ => by simp [Tr.leaves]
  | .app _ _ => by simp [Tr.leaves]
  | .var _ => by simp [Tr.leaves]
  | .none => by simp [Tr.leaves]
  | .bot => by simp [Tr.leaves]
theorem B_uniR1 {a b : Tr} : ∀ (s : Tr), B W s a = true → B W s (.uni a b) = true
  | .uni x y, h => by
    rw [B_uniL, Bool.and_eq_true] at h ⊢
    exact ⟨B_uniR1 x h.1, B_uniR1 y h.2⟩
  | .cls _, h => by rw [B_uniR rfl, h]; rfl
  | .app _ _, h => by rw [B_uniR rfl, h]; rfl
  | .var _, h => by rw [B_uniR rfl, h]; rfl
  | .none, h => by rw [B_uniR rfl, h]; rfl
  | .bot, h => by rw [B_uniR rfl, h]; rfl
theorem B_uniR2 {a b : Tr} : ∀ (s : Tr), B W s b = true → B W s (.uni a b) = true
  | .uni x y, h => by
    rw [B_uniL, Bool.and_eq_true] at h ⊢
    exact ⟨B_uniR2 x h.1, B_uniR2 y h.2⟩
  | .cls _, h => by rw [B_uniR rfl, h, Bool.or_true]
  | .app _ _, h => by rw [B_uniR rfl, h, Bool.or_true]
  | .var _, h => by rw [B_uniR rfl, h, Bool.or_true]
  | .none, h => by rw [B_uniR rfl, h, Bool.or_true]
  | .bot, h => by rw [B_uniR rfl, h, Bool.or_true]
theorem B_refl : ∀ t : Tr, B W t t = true
  | .uni a b => by rw [B_uniL, Bool.and_eq_true]; exact ⟨B_uniR1 a (B_refl a), B_uniR2 b (B_refl b)⟩
  | .cls k => by rw [B]; simpa using W.refl k
  | .var v => by rw [B]; simp
  | .none => by rw [B]
  | .bot => B_bot
  | .app v x => by
    rw [B]
    simp [B_refl x]
theorem B_top : ∀ s : Tr, B W s (.cls 0) = true
  | .uni a b => by rw [B_uniL, B_top a, B_top b]; rfl
  | .cls k => by rw [B]; simpa using W.zero k
  | .var v => by rw [B]; simpa using W.zero _
  | .none => by rw [B]; rfl
  | .bot => B_bot
  | .app v x => by rw [B]; rfl
/-- what is above the root is above all -/
theorem B_root (s : Tr) : ∀ t : Tr, B W (.cls 0) t = true → B W s t = true
  | .uni a b, h => by
    rw [B_uniR rfl, Bool.or_eq_true] at h
    rcases h with h | h
    · exact B_uniR1 s (B_root s a h)
    · exact B_uniR2 s (B_root s b h)
  | .cls l, h => by
    rw [B] at h
    have : l = 0 := W.only l (by simpa using h)
    rw [this]; exact B_top s
  | .var v, h => by rw [B] at h; cases h
  | .none, h => by rw [B] at h; cases h
  | .bot, h => by rw [B] at h; cases h
  | .app v x, h => by rw [B] at h; cases h
/-- the same for every question -/
def Eqv (W : Wm) (x y : Tr) : Prop := (∀ t, B W x t = B W y t) ∧ ∀ s, B W s x = B W s y
theorem Eqv.refl (x : Tr) : Eqv W x x := ⟨fun _ => rfl, fun _ => rfl⟩
theorem Eqv.symm {x y : Tr} (h : Eqv W x y) : Eqv W y x := ⟨fun t => (h.1 t).symm, fun s => (h.2 s).symm⟩
theorem Eqv.trans {x y z : Tr} (h : Eqv W x y) (k : Eqv W y z) : Eqv W x z := ⟨fun t => (h.1 t).trans (k.1 t), fun s => (h.2 s).trans (k.2 s)⟩
theorem Eqv.below {x y : Tr} (h : Eqv W x y) : B W x y = true := by rw [h.1]; exact B_refl y
theorem Eqv.app {x y : Tr} (h : Eqv W x y) (v : Nat) : Eqv W (.app v x) (.app v y) := by
  have key : ∀ (a b : Tr), Eqv W a b → ∀ t, B W (.app v a) t = B W (.app v b) t := by
    intro a b hab t
    induction t with
    | uni p q ip iq => rw [B_uniR rfl, B_uniR rfl, ip, iq]
    | cls l => rw [B, B]
    | app u z => rw [B, B]; simp only [hab.1 z, hab.2 z]
    | var u => rw [B, B]
    | none => rw [B, B]
    | bot => rw [B, B]
  refine ⟨key x y h, fun s => ?_⟩
  induction s with
  | uni p q ip iq => rw [B_uniL, B_uniL, ip, iq]
  | cls k => rw [B, B]
  | app u z => rw [B, B]; simp only [h.1 z, h.2 z]
  | var u => rw [B, B]
  | none => rw [B, B]
  | bot => rw [B_bot, B_bot]
/-- two lists of leaves are the same -/
def EqL (W : Wm) (xs ys : List Tr) : Prop := (∀ t, xs.all (fun x => B W x t) = ys.all (fun x => B W x t)) ∧ ∀ s, s.isUni = false → s ≠ .bot → xs.any (fun x => B W s x) = ys.any (fun x => B W s x)
theorem EqL.refl (x : List Tr) : EqL W x x := ⟨fun _ => rfl, fun _ _ _ => rfl⟩
theorem EqL.trans {x y z : List Tr} (h : EqL W x y) (k : EqL W y z) : EqL W x z := ⟨fun t => (h.1 t).trans (k.1 t), fun s a b => (h.2 s a b).trans (k.2 s a b)⟩
theorem EqL.app {x y z u : List Tr} (h : EqL W x y) (k : EqL W z u) : EqL W (x ++ z) (y ++ u) :=
  ⟨fun t => by rw [List.all_append, List.all_append, h.1, k.1], fun s a b => by rw [List.any_append, List.any_append, h.2 s a b, k.2 s a b]⟩
theorem EqL.tr {x y : Tr} (h : EqL W x.leaves y.leaves) (hx : x.leaves ≠ []) (hy : y.leaves ≠ []) : Eqv W x y := by
  refine ⟨fun t => by rw [B_leavesL x, B_leavesL y]; exact h.1 t, fun s => ?_⟩
  rw [B_leavesL s, B_leavesL s]
  rw [Bool.eq_iff_iff, List.all_eq_true, List.all_eq_true]
  refine forall_congr' fun l => forall_congr' fun hl => ?_
  have hu := leaves_notUni s l hl
  by_cases hb : l = .bot
  · subst hb; simp [B_bot]
  · rw [B_leavesR hu x, B_leavesR hu y, h.2 l hu hb]
theorem leaves_ne : ∀ t : Tr, t.leaves ≠ []
  | .uni a b => by rw [Tr.leaves]; intro h; exact leaves_ne a (List.append_eq_nil_iff.mp h).1
  | .cls _ => by simp [Tr.leaves]
  | .app _ _ => by simp [Tr.leaves]
  | .var _ => by simp [Tr.leaves]
  | .none => by simp [Tr.leaves]
  | .bot => by simp [Tr.leaves]
theorem Eqv.leaves {x y : Tr} (h : Eqv W x y) : EqL W x.leaves y.leaves :=
  ⟨fun t => by rw [← B_leavesL, ← B_leavesL]; exact h.1 t, fun s hu _ => by rw [← B_leavesR hu, ← B_leavesR hu]; exact h.2 s⟩
theorem Eqv.uni {x y z u : Tr} (h : Eqv W x y) (k : Eqv W z u) : Eqv W (.uni x z) (.uni y u) :=
  EqL.tr (h.leaves.app k.leaves) (leaves_ne _) (leaves_ne _)
theorem EqL.bot {xs : List Tr} : EqL W (.bot :: xs) xs := ⟨fun t => by rw [List.all_cons, B_bot]; rfl, fun s hu hb => by
  rw [List.any_cons]
  have : B W s .bot = false := by
    cases s with
    | uni => cases hu
    | bot => exact absurd rfl hb
    | cls k => rw [B]
    | app v x => rw [B]
    | var v => rw [B]
    | none => rw [B]
  rw [this]; rfl⟩
/-- one that is there already -/
theorem EqL.dup {xs : List Tr} {x y : Tr} (hy : y ∈ xs) (h : Eqv W y x) : EqL W (xs ++ [x]) xs := ⟨fun t => by
  rw [List.all_append, Bool.eq_iff_iff, Bool.and_eq_true]
  refine ⟨fun h => h.1, fun k => ⟨k, ?_⟩⟩
  have := List.all_eq_true.mp k y hy
  simp only [List.all_cons, List.all_nil, Bool.and_true]
  rw [← h.1]; exact this, fun s _ _ => by
  rw [List.any_append, Bool.eq_iff_iff, Bool.or_eq_true]
  refine ⟨fun k => k.elim id fun k => ?_, fun k => .inl k⟩
  simp only [List.any_cons, List.any_nil, Bool.or_false] at k
  exact List.any_eq_true.mpr ⟨y, hy, by rw [h.2]; exact k⟩⟩
/-- the root swallows the others -/
theorem EqL.root {xs : List Tr} (h : Tr.cls 0 ∈ xs) : EqL W xs [.cls 0] := ⟨fun t => by
  rw [Bool.eq_iff_iff, List.all_eq_true]
  simp only [List.all_cons, List.all_nil, Bool.and_true]
  exact ⟨fun k => k _ h, fun k x _ => B_root x t k⟩, fun s _ _ => by
  simp only [List.any_cons, List.any_nil, Bool.or_false, B_top]
  exact List.any_eq_true.mpr ⟨_, h, B_top s⟩⟩
theorem EqL.ofSub {xs ys : List Tr} (h1 : ∀ x ∈ xs, ∃ y ∈ ys, Eqv W y x) (h2 : ∀ y ∈ ys, ∃ x ∈ xs, Eqv W x y) : EqL W xs ys := ⟨fun t => by
  rw [Bool.eq_iff_iff, List.all_eq_true, List.all_eq_true]
  exact ⟨fun k y hy => let ⟨x, hx, e⟩ := h2 y hy; by rw [← e.1]; exact k x hx, fun k x hx => let ⟨y, hy, e⟩ := h1 x hx; by rw [← e.1]; exact k y hy⟩, fun s _ _ => by
  rw [Bool.eq_iff_iff, List.any_eq_true, List.any_eq_true]
  exact ⟨fun ⟨x, hx, k⟩ => let ⟨y, hy, e⟩ := h1 x hx; ⟨y, hy, by rw [e.2]; exact k⟩, fun ⟨y, hy, k⟩ => let ⟨x, hx, e⟩ := h2 y hy; ⟨x, hx, by rw [e.2]; exact k⟩⟩⟩
/-- == of two types; n: how deep it looks -/
def teq : Nat → Tr → Tr → Bool
  | 0, _, _ => false
  | n + 1, s, t => match s, t with
    | .cls k, .cls l => k == l
    | .app v x, .app u y => v == u && teq n x y
    | .var v, .var u => v == u
    | .none, .none => true
    | .bot, .bot => true
    | .uni a b, .uni p q => ((Tr.uni a b).leaves.all fun x => (Tr.uni p q).leaves.any fun y => teq n y x) && ((Tr.uni p q).leaves.all fun y => (Tr.uni a b).leaves.any fun x => teq n x y)
    | _, _ => false
theorem teq_eqv : ∀ (n : Nat) {s t : Tr}, teq n s t = true → Eqv W s t := by
  intro n
  induction n with
  | zero => intro s t h; cases h
  | succ n ih =>
    intro s t h
    cases s with
    | cls k => cases t with
      | cls l => have : k = l := by simpa [teq] using h
                 rw [this]; exact .refl _
      | _ => cases h
    | app v x => cases t with
      | app u y =>
        rw [teq, Bool.and_eq_true] at h
        have : v = u := by simpa using h.1
        rw [this]; exact (ih h.2).app u
      | _ => cases h
    | var v => cases t with
      | var u => have : v = u := by simpa [teq] using h
                 rw [this]; exact .refl _
      | _ => cases h
    | none => cases t with
      | none => exact .refl _
      | _ => cases h
    | bot => cases t with
      | bot => exact .refl _
      | _ => cases h
    | uni a b => cases t with
      | uni p q =>
        rw [teq, Bool.and_eq_true] at h
        refine EqL.tr (EqL.ofSub (fun x hx => ?_) fun y hy => ?_) (leaves_ne _) (leaves_ne _)
        · obtain ⟨y, hy, e⟩ := List.any_eq_true.mp (List.all_eq_true.mp h.1 x hx)
          exact ⟨y, hy, ih e⟩
        · obtain ⟨x, hx, e⟩ := List.any_eq_true.mp (List.all_eq_true.mp h.2 y hy)
          exact ⟨x, hx, ih e⟩
      | _ => cases h
-- putting types in the place of variables
def Tr.put (ch : Nat → Tr) : Tr → Tr | .var v => ch v | .app v t => .app v (t.put ch) | .uni a b => .uni (a.put ch) (b.put ch) | .cls k => .cls k | .none => .none | .bot => .bot
theorem B_put {ch : Nat → Tr} (hc : ∀ v l, l ∈ W.up (W.bnd v) → B W (ch v) (.cls l) = true) : ∀ (n : Nat) (s t : Tr), sizeOf s + sizeOf t ≤ n → B W s t = true → B W (s.put ch) (t.put ch) = true := by
  intro n
  induction n with
  | zero => intro s t hn; cases s <;> simp at hn
  | succ n ih =>
    intro s t hn h
    have right : ∀ {s : Tr} {a b : Tr}, s.isUni = false → sizeOf s + sizeOf (Tr.uni a b) ≤ n + 1 → B W s (.uni a b) = true → B W (s.put ch) ((Tr.uni a b).put ch) = true := by
      intro s a b hu hn h
      rw [B_uniR hu, Bool.or_eq_true] at h
      have : sizeOf (Tr.uni a b) = 1 + sizeOf a + sizeOf b := by simp
      rcases h with h | h
      · exact B_uniR1 _ (ih s a (by omega) h)
      · exact B_uniR2 _ (ih s b (by omega) h)
    cases s with
    | uni a b =>
      rw [B_uniL, Bool.and_eq_true] at h
      have : sizeOf (Tr.uni a b) = 1 + sizeOf a + sizeOf b := by simp
      show B W (.uni _ _) _ = true
      rw [B_uniL, ih a t (by omega) h.1, ih b t (by omega) h.2]; rfl
    | bot => exact B_bot
    | cls k =>
      cases t with
      | uni a b => exact right rfl hn h
      | cls l => exact h
      | _ => rw [B] at h; cases h
    | var v =>
      cases t with
      | uni a b => exact right rfl hn h
      | cls l => rw [B] at h; exact hc v l (by simpa using h)
      | var u => rw [B] at h; have : u = v := by simpa using h
                 rw [this]; exact B_refl _
      | _ => rw [B] at h; cases h
    | none =>
      cases t with
      | uni a b => exact right rfl hn h
      | cls l => exact h
      | none => exact h
      | _ => rw [B] at h; cases h
    | app v x =>
      cases t with
      | uni a b => exact right rfl hn h
      | cls l => rw [B] at h; have : l = 0 := by simpa using h
                 rw [this]; exact B_top _
      | app u y =>
        have e1 : sizeOf (Tr.app v x) = 1 + sizeOf v + sizeOf x := by simp
        have e2 : sizeOf (Tr.app u y) = 1 + sizeOf u + sizeOf y := by simp
        rw [B] at h
        show B W (.app v _) (.app u _) = true
        rw [B]
        simp only [Bool.and_eq_true] at h ⊢
        refine ⟨h.1, ?_⟩
        have h2 := h.2
        by_cases q4 : (v == 4) = true
        · rw [if_pos q4] at h2 ⊢
          exact ih x y (by omega) h2
        · rw [if_neg q4] at h2 ⊢
          by_cases q5 : (v == 5) = true
          · rw [if_pos q5] at h2 ⊢
            exact ih y x (by omega) h2
          · rw [if_neg q5] at h2 ⊢
            rw [Bool.and_eq_true] at h2 ⊢
            exact ⟨ih x y (by omega) h2.1, ih y x (by omega) h2.2⟩
      | _ => rw [B] at h; cases h
end Mine

namespace Mine
section
variable {prog : Program} {w : World} {α β : Type} {c : Cx} {g g' : G} {ρ ρ' : Str → Option Value} {M M' : Mem} {K : Frag} {n : Nat} {pos apos : Pos} {P : Params} {l : List (Str × NameKind)}
/-- an own class without an __init__ -/
theorem Pu.makeB {C : Addr} {Q : Value → G → Prop} (hm : makesIn K C = true) (hi : findIn K (.ref C) "__init__" = some (some (.builtin "object.__init__")))
    (h : ∀ (x : Addr) g', Le g g' → g x = none → Inst g' x C [] → Q (.ref x) g') : Pu prog w K (n + 2) (call (.ref C) [] []) Q g := fun A s r wd sb => by
  obtain ⟨hh, gens, dr, t, os⟩ := s
  dsimp only at wd sb
  have X : K.In hh := wd.X
  have e1 : Ext hh ((hh.push emptyDict).push (instObj C hh.objs.size)) := fun b o e => Heap.get?_push_of_some _ (Heap.get?_push_of_some _ e)
  have nd : hh.get? hh.objs.size = none := by
    cases q : hh.get? hh.objs.size with
    | none => rfl
    | some o => exact absurd (Heap.lt_size q) (Nat.lt_irrefl _)
  have nx : hh.get? (hh.objs.size + 1) = none := by
    cases q : hh.get? (hh.objs.size + 1) with
    | none => rfl
    | some o => exact absurd (Heap.lt_size q) (Nat.not_lt.mpr (Nat.le_succ _))
  have gn : ∀ a, hh.get? a = none → g a = none := fun a ha => by
    cases q : g a with
    | none => rfl
    | some m => obtain ⟨o, ho, _⟩ := sb a m q; rw [ha] at ho; cases ho
  have hx : ((hh.push emptyDict).push (instObj C hh.objs.size)).get? (hh.objs.size + 1) = some (instObj C hh.objs.size) := by heap_get
  have hd : ((hh.push emptyDict).push (instObj C hh.objs.size)).get? hh.objs.size = some (dictOf [] 0) := Heap.get?_push_of_some _ (Heap.get?_push_size _ rfl)
  have Y := makes_of (M := model prog w) X hm
  refine wpAny_call (make_core Y (looks_findIn X hi) (fun self => Looks.of_pure (oi_bind self)) (.inr ⟨rfl, rfl⟩) ?_)
  have t1 : Looks (model prog w) ((hh.push emptyDict).push (instObj C hh.objs.size)) (typeOf (.ref (hh.objs.size + 1))) (.ref C) := (Looks.ld hx).andThen .now
  have t2 : Looks (model prog w) ((hh.push emptyDict).push (instObj C hh.objs.size)) (isInstance (.ref (hh.objs.size + 1)) (.type "object")) true := t1.andThen (Y.top.keeps e1)
  refine codeAny_call_builtin oi_plain entry_oi (@check_slot (model prog w) _ _ _ "object.__init__" "object" "__init__" (.ref (hh.objs.size + 1)) [] [] _ oi_kind oi_split t2 (oi_args (.ref (hh.objs.size + 1))) ?_)
  rw [oi_run]
  have g1n : setG g (hh.objs.size + 1) (.inst C hh.objs.size) hh.objs.size = none := by
    unfold setG
    rw [if_neg (Nat.ne_of_lt (Nat.lt_succ_self _))]
    exact gn _ nd
  have l1 : Le g (setG g (hh.objs.size + 1) (.inst C hh.objs.size)) := Le.setG (gn _ nx)
  have l2 : Le (setG g (hh.objs.size + 1) (.inst C hh.objs.size)) (setG (setG g (hh.objs.size + 1) (.inst C hh.objs.size)) hh.objs.size (.sd [])) := Le.setG g1n
  refine wpAny_pure (And.intro rfl ?_)
  refine ⟨e1, ⟨rfl, rfl, rfl⟩, _, l1.trans l2, fun a m e => ?_, fun a m e => ?_, h _ _ (l1.trans l2) (gn _ nx) ⟨hh.objs.size, l2 _ _ setG_self, setG_self⟩⟩
  · unfold setG at e
    split at e
    · rename_i q; subst q; cases e; exact ⟨_, hd, [], 0, rfl, .nil⟩
    · split at e
      · rename_i q; subst q; cases e; exact ⟨_, hx, rfl⟩
      · obtain ⟨o, ho, hr⟩ := sb a m e; exact ⟨o, e1 _ _ ho, hr⟩
  · unfold setG at e
    split at e
    · rename_i q; subst q; exact .inr nd
    · split at e
      · rename_i q; subst q; exact .inr nx
      · exact .inl e


/-- a def that turns one of its arguments -/
theorem Fn.defL {f R : Addr} {xs : List Value} {fd : FuncData} {body : List Stmt} {oc : Value} {od : Option Addr} {osl : Array (Option Value)} {args : List Value} {kw : List (Str × Value)} {binds : List (Str × Value)} {Q : Value → List Value → G → Prop}
    (hK : K.lookup f = some ⟨oc, od, .func fd, osl⟩) (D : DefOk K fd) (hb : fd.body = .stmts body) (hbind : ∀ s, K.In s.heap → BindsTo s fd ⟨args, kw⟩ binds)
    (hkind : (binds.all fun y => fd.scope.names.lookup y.1 == some .local || fd.scope.names.lookup y.1 == some .cell) = true)
    (h : ∀ c : Cx, c.Ok K n → c.Own → c.env.scope.names = fd.scope.names → T prog w c (execs body c.env) (fun fl g' _ M' => ∃ ys, (R, .list ys) ∈ M' ∧ Q (retOf fl) ys g') g (ofBinds binds) [(R, .list xs)]) :
    PuL prog w K (n + 1) (call (.ref f) args kw) R xs Q g := fun A s r wd sb gr hr => by
  have x0 : Ext (hide s.heap [R]) s.heap := ext_hide
  have h0 : (hide s.heap [R]).get? R = none := by rw [get_hide1]; simp
  refine wpAny_call (codeAny_mono (enter (R := fun v g' M' => ∃ ys, (R, MO.list ys) ∈ M' ∧ Q v ys g') (ge := g) (h₀ := hide s.heap [R]) (M₀ := [(R, .list xs)]) r wd x0 sb (fun a m e => .inl e) (fun p hp => by rw [List.mem_singleton.mp hp]; exact hr) (fun a ha => by rw [List.mem_singleton.mp ha]; exact ⟨h0, gr⟩) (by simp) hK D hb (hbind s (wd.X.keeps x0)) hkind fun c O W e _ _ => h c O W e) fun r s' hr => ?_)
  obtain ⟨v, g', M', rfl, o, ys, hm, q⟩ := hr
  refine ⟨fun b o' hb eo => o.ext b o' (by rw [get_hide1, if_neg hb]; exact eo), o.rest, g', ys, o.le, o.know, fun a m e => ?_, o.mem _ hm, (o.fresh R (List.mem_map_of_mem hm)).2, q⟩
  rcases o.old a m e with q | q
  · exact .inl q
  · rw [get_hide1] at q
    by_cases z : a = R
    · right
      have := (o.fresh R (List.mem_map_of_mem hm)).2
      rw [← z, e] at this; cases this
    · rw [if_neg z] at q; exact .inr q
end
end Mine

namespace Mine
open AutoSeq1 (wpAny_loadPart')
open PySem.MeetsSeq
section
variable {prog : Program} {w : World} {α β : Type} {c : Cx} {g g' : G} {ρ ρ' : Str → Option Value} {M M' : Mem} {K : Frag} {n : Nat} {pos apos : Pos} {P : Params}
-- x in a list, by an == that calls
theorem contLoopI {A : Around} {l : Addr} {x : Value} {items : List Value} {e : Nat → Bool} (hr : Room A.in1 n) (S : Lst g l items) (he : ∀ (j : Nat) (y : Value), items[j]? = some y → Pu prog w K n (eqBool y x) (fun r g' => r = e j ∧ g' = g) g) (k : Nat) :
    ∀ (i : Nat) (s : Shared) (R : Result → Shared → Prop), items.length - i = k → Wd K s.heap → Sub w.params g s.heap → (∀ s', Ext s.heap s'.heap → Rest s s' → R (.ok (.ret (.bool (((List.range items.length).drop i).any e)))) s') →
      wpAny (model prog w) A.in1 (Builtin.«list.__contains__.loop» ⟨[.ref l, x, rawInt i], []⟩)
        (fun fin s' => match fin with | .done f => R (.ok f) s' | .again c' => c'.quiet = true ∧ codeAny (model prog w) A c' R s') (fun e s' => R (.error e) s') s := by
  induction k with
  | zero =>
    intro i s R hk wd sb h
    obtain ⟨_, hl, m, rfl⟩ := sb _ _ S
    obtain ⟨hp, g, d, tk, os⟩ := s
    have hi : items.toArray[((i : Nat) : Int).toNat]? = none := by simp; omega
    have hd : (List.range items.length).drop i = [] := by simp; omega
    rw [hd] at h
    wp_walk using wpAny_loadPart' hl
    rw [hi]
    wp_walk
    exact h _ (Ext.refl _) (.refl _)
  | succ k ih =>
    intro i s R hk wd sb h
    obtain ⟨_, hl, m, rfl⟩ := sb _ _ S
    obtain ⟨hp, g0, d, tk, os⟩ := s
    have hlt : i < items.length := by omega
    have hi : items.toArray[((i : Nat) : Int).toNat]? = some items[i] := by
      rw [Int.toNat_natCast, List.getElem?_toArray]
      exact List.getElem?_eq_getElem hlt
    have hd : (List.range items.length).drop i = i :: (List.range items.length).drop (i + 1) := by
      rw [List.drop_eq_getElem_cons (by simpa using hlt)]; simp
    rw [hd, List.any_cons] at h
    wp_walk using wpAny_loadPart' hl
    rw [hi]
    refine wpAny_bind (wpAny_mono (he i _ (List.getElem?_eq_getElem hlt) A.in1 _ hr wd sb) (fun r s' ⟨xx, rs, g', l', sb', nw, q1, q2⟩ => ?_) fun _ _ z => z.elim)
    subst q1 q2
    cases hb : e i with
    | true =>
      rw [hb] at h
      wp_walk
      exact h _ xx rs
    | false =>
      rw [hb] at h
      have hc : ((i : Int) + 1) = ((i + 1 : Nat) : Int) := by push_cast; rfl
      wp_walk
      rw [hc]
      exact ⟨plainId_quiet plain_contains_loop _, codeAny_builtin entry_contains_loop (by
        rw [Around.under_plainId plain_contains_loop _]
        exact ih (i + 1) s' R (by omega) (wd.ext xx) sb' fun s2 x2 r2 => by simpa using h s2 (xx.trans x2) (rs.trans r2))⟩
theorem Pu.containsI {l : Addr} {x : Value} {items : List Value} {e : Nat → Bool} (S : Lst g l items) (he : ∀ (j : Nat) (y : Value), items[j]? = some y → Pu prog w K n (eqBool y x) (fun r g' => r = e j ∧ g' = g) g) :
    Pu prog w K (n + 1) (PySem.contains (.ref l) x) (fun r g' => r = (List.range items.length).any e ∧ g' = g) g := fun A s r wd sb => by
  obtain ⟨_, hl, m, rfl⟩ := sb _ _ S
  refine wpAny_contains_slot ⟨_, hl, rfl⟩ F.slot_list_contains ?_
  refine wpAny_mono (Q := fun v s' => v = .bool ((List.range items.length).any e) ∧ Ext s.heap s'.heap ∧ Rest s s') (E := fun _ _ => False) ?_ (fun v s' ⟨q, x, rs⟩ => ?_) fun _ _ e => e
  · refine wpAny_call (codeAny_call_builtin F.slot_list_contains.plain F.entry_list_contains (F.slot_list_contains.check _ _ _ _ _ _ _ _ ⟨_, hl, rfl⟩ (F.args_list_contains_2 _ _) ?_))
    have r1 : Room A.in1 n := r.in1
    have hl0 := hl
    obtain ⟨hp, g0, d, tk, os⟩ := s
    wp_walk using wpAny_loadPart' hl
    refine ⟨plainId_quiet plain_contains_loop _, codeAny_builtin entry_contains_loop ?_⟩
    rw [Around.under_plainId plain_contains_loop _]
    exact contLoopI r1 S he items.length 0 _ (wants (fun v s' => v = .bool ((List.range items.length).any e) ∧ Ext hp s'.heap ∧ Rest ⟨hp, g0, d, tk, os⟩ s') (fun _ _ => False)) (by simp) wd sb fun s' x rs => ⟨by rw [List.drop_zero], x, rs⟩
  · subst q
    exact wpAny_truthy_bool ⟨x, rs, g, .refl g, sb.ext x, fun _ _ e => .inl e, rfl, rfl⟩
theorem Pu.inLI {l : Addr} {x : Value} {items : List Value} {e : Nat → Bool} (S : Lst g l items) (he : ∀ (j : Nat) (y : Value), items[j]? = some y → Pu prog w K n (eqBool y x) (fun r g' => r = e j ∧ g' = g) g) :
    Pu prog w K (n + 1) (compareOp .In x (.ref l)) (fun r g' => r = .bool ((List.range items.length).any e) ∧ g' = g) g := by
  show Pu prog w K (n + 1) (PySem.contains (.ref l) x >>= fun b => Pure.pure (Value.bool b)) _ g
  exact Pu.bind ((Pu.containsI S he).mono (Nat.le_refl _) fun r g' _ q => Pu.pure ⟨by rw [q.1], q.2⟩)
theorem Pu.notInLI {l : Addr} {x : Value} {items : List Value} {e : Nat → Bool} (S : Lst g l items) (he : ∀ (j : Nat) (y : Value), items[j]? = some y → Pu prog w K n (eqBool y x) (fun r g' => r = e j ∧ g' = g) g) :
    Pu prog w K (n + 1) (compareOp .NotIn x (.ref l)) (fun r g' => r = .bool (!(List.range items.length).any e) ∧ g' = g) g := by
  show Pu prog w K (n + 1) (PySem.contains (.ref l) x >>= fun b => Pure.pure (Value.bool (!b))) _ g
  exact Pu.bind ((Pu.containsI S he).mono (Nat.le_refl _) fun r g' _ q => Pu.pure ⟨by rw [q.1], q.2⟩)

end
end Mine

namespace Mine
section
variable {prog : Program} {w : World} {α β : Type} {c : Cx} {g g' : G} {ρ ρ' : Str → Option Value} {M M' : Mem} {K : Frag} {n : Nat} {pos apos : Pos} {P : Params} {l : List (Str × NameKind)}
/-- a comprehension whose items come of calls that lay nothing aside -/
theorem LcK.mapE {x : Str} {px : Pos} {elt : Expr} {sc : Scope} {m : Nat} {P : Nat → Value → Heap → Prop} {fin : Addr → List Value → G → Mem → Prop} (R : Nat → Value → Prop)
    (hx : ((relab l sc.names).lookup x == some .local) = true) (hm : m ≤ 1000)
    (step : ∀ (D : Addr) (c' : Cx), c'.Ok K n → c'.env.scope.names = relab l sc.names → ∀ i v ρ' acc, i < m → P i v c'.h₀ → (∀ x, ((relab l sc.names).lookup x == some .local) = false → ρ' x = ρ x) →
      T prog w c' (eval elt c'.env) (fun y g'' _ M'' => M'' = (D, .list acc) :: M ∧ g'' = g ∧ R i y) g (put ρ' x v) ((D, .list acc) :: M))
    (hfin : ∀ D ys, ys.length = m → (∀ i y, ys[i]? = some y → R i y) → fin D ys g M) : LcK prog w K n l sc (.Name x px) elt [] g ρ m P M fin := by
  refine ⟨hm, fun D => ⟨fun i acc g' M' => g' = g ∧ M' = M ∧ acc.length = i ∧ ∀ j y, acc[j]? = some y → R j y, ⟨rfl, rfl, rfl, fun j y e => by cases j <;> cases e⟩, ?_, ?_⟩⟩
  · rintro c' O' hS' i v g' ρ' acc M' hi hP hl ha ⟨rfl, rfl, hlen, hacc⟩
    refine T.assign_stored (T.stLocal O' (kind_of hS' (by simpa using hx)) (T.tests_nil (IfK.t ?_)))
    refine T.mono (step D c' O' hS' i v ρ' acc hi hP ha) fun y g'' ρ'' M'' ⟨e, e2, r⟩ => ⟨_, e, e2, rfl, by simp [hlen], fun j z hz => ?_⟩
    rcases Nat.lt_or_ge j acc.length with q | q
    · rw [List.getElem?_append_left q] at hz
      exact hacc j z hz
    · rw [List.getElem?_append_right q] at hz
      have : j = acc.length := by
        have := (List.getElem?_eq_some_iff.mp hz).1
        simp at this; omega
      subst this
      simp at hz
      subst hz
      rw [hlen]; exact r
  · rintro acc g' M' hl ⟨rfl, rfl, hlen, hacc⟩
    exact hfin D acc hlen hacc
end
end Mine

namespace Mine
section
variable {prog : Program} {w : World} {α β : Type} {c : Cx} {g g' : G} {ρ ρ' : Str → Option Value} {M M' : Mem} {K : Frag} {n : Nat} {pos apos : Pos} {P : Params}
/-- tuple + tuple -/
theorem T.addT {a b : Addr} {vs us : List Value} {Q : Post Value} (S : Tup g a vs) (S' : Tup g b us) (hz : vs.length + us.length ≤ 1000) (h0 : vs ≠ []) (h : ∀ b g', Le g g' → Tup g' b (vs ++ us) → Q (.ref b) g' ρ M) : T prog w c (binaryOp .Add (.ref a) (.ref b)) Q g ρ M := by
  by_cases q : us = []
  · subst q
    refine T.tok fun s hA R k => ?_
    have e1 := S.at hA
    have e2 := S'.at hA
    exact concat_meets ⟨_, e1, rfl⟩ ⟨_, e2, rfl⟩ noFill_tuple_add seq_tuple_add PySem.F.slot_tuple_add PySem.F.entry_tuple_add (PySem.F.args_tuple_add_2 _ _)
        (tuple_addW1 a b vs.toArray [].toArray 0 0 none none #[] #[] (by simpa using h0) (by simp)) ⟨e1, e2, k _ s.toks (h _ g (.refl g) (by rw [List.append_nil]; exact S))⟩
  · refine T.push (m := .tup (vs ++ us)) (o := { cls := .type "tuple", data := .seq (vs ++ us).toArray }) (f := .ref) rfl rfl (fun s hA R k => ?_) fun a ha => h a _ (Le.setG ha) setG_self
    have e1 := S.at hA
    have e2 := S'.at hA
    exact P.add_tuple e1 e2 (by simpa using h0) (by simpa using q) (by have := k s.heap s.toks (Ext.refl _); simpa using this) (by have := sizeLine_eq; simp only [List.size_toArray]; omega)
theorem intsAny : ∀ {vs : List Value} {ns : List Int}, IntsAre vs ns → ∀ x : Int, vs.any (fun v => match v with | .int y _ => y == x | _ => false) = ns.contains x
  | _, _, .nil, _ => rfl
  | _, _, .cons n t h, x => by
    rw [List.any_cons, intsAny h x, List.contains_cons, BEq.comm (a := x)]
theorem T.inIL {a : Addr} {vs : List Value} {ns : List Int} {x : Int} {t : Tok} {Q : Post Value} (S : SrcL g M a vs) (hv : IntsAre vs ns) (h : Q (.bool (ns.contains x)) g ρ M) : T prog w c (compareOp .In (.int x t) (.ref a)) Q g ρ M := T.tok fun s hA R k => by
  obtain ⟨_, hl⟩ := S.at hA
  refine SeqAt.in_listAt (fun v => match v with | .int y _ => y == x | _ => false) hl.isList (fun y hy => ?_) (k _ s.toks ?_)
  · obtain ⟨m, u, rfl⟩ := hv.all y (by simpa using hy)
    exact SeqAt.EqAt.int_int m u x t
  · rw [List.any_toArray, intsAny hv x]; exact h
theorem T.inIT {a : Addr} {vs : List Value} {ns : List Int} {x : Int} {t : Tok} {Q : Post Value} (S : Tup g a vs) (hv : IntsAre vs ns) (h : Q (.bool (ns.contains x)) g ρ M) : T prog w c (compareOp .In (.int x t) (.ref a)) Q g ρ M := T.tok fun s hA R k => by
  have hl := S.at hA
  refine SeqAt.in_tupleAt (items := vs.toArray) (fun v => match v with | .int y _ => y == x | _ => false) ⟨_, hl, rfl, 0, rfl⟩ (fun y hy => ?_) (k _ s.toks ?_)
  · obtain ⟨m, u, rfl⟩ := hv.all y (by simpa using hy)
    exact SeqAt.EqAt.int_int m u x t
  · rw [List.any_toArray, intsAny hv x]; exact h
theorem T.puL_same {t : Sem α} {R : Addr} {xs : List Value} {Q' : α → List Value → G → Prop} {Q : Post α} {m : Nat} {M : Mem} (O : c.Ok K n) (hp : PuL prog w K m t R xs Q' g) (hm : m ≤ n)
    (h : ∀ r ys g', Le g g' → Q' r ys g' → Q r g' ρ ((R, .list ys) :: M)) : T prog w c t Q g ρ ((R, .list xs) :: M) := T.puL (pre := []) O hp hm h
theorem T.negI {a : Int} {t : Tok} {Q : Post Value} (h : ∀ t, Q (.int (-a) t) g ρ M) : T prog w c (unaryOp .USub (.int a t)) Q g ρ M := T.tok fun s _ _ k => PyProof.Rows.neg_int (k _ _ (h _))
theorem T.sliceT2 {value slice : Expr} {a sl : Addr} {vs : List Value} {i : Nat} {u : Tok} {Q : Post Value} (S : Tup g a vs) (hz : vs.length ≤ 1000) (h1 : 1 ≤ i) (hi : i ≤ vs.length)
    (hs : subscripted slice false (.ref a) (.ref sl) = PySem.operate [.ref sl, .ref a] (getItem (.ref a) (.ref sl)))
    (h : ∀ b, g b = none → Q (.ref b) (setG g b (.tup (vs.drop i))) ρ M) : T prog w c (subscriptTail value slice (.ref a) (.ref sl)) Q g ρ ((sl, .raw (sliceO i u)) :: M) := by
  refine T.postDrop (p := (sl, .raw (sliceO i u))) (T.push (m := .tup (vs.drop i)) (o := { cls := .type "tuple", data := .seq (vs.drop i).toArray }) (f := .ref) rfl rfl (fun s hA R kk => ?_) fun b hb => ⟨M, rfl, h b hb⟩)
  obtain ⟨_, hsl, rfl⟩ := hA.mem _ (.head _)
  have hT : IsTup s.heap a vs.toArray := ⟨_, S.at hA, rfl, 0, rfl⟩
  exact tail_any (T := "tuple") hT.typeIs PyProof.Rows.slot_tuple_getitem.lookup (getItem_tuple_from hT ⟨_, hsl, rfl, rfl⟩ h1 (by simpa using hi) (by simpa using kk s.heap s.toks (Ext.refl _)) (by rw [List.size_toArray, sizeLine_eq]; omega)) hs
theorem IfK.share {b : Bool} {X Y : Prop} (h : b = true → Y → X) (k : Y) : IfK b X Y := ⟨fun e => h e k, fun _ => k⟩
theorem T.newTupleE {vs : List Value} {Q : Post Value} (hz : vs.length ≤ 1000) (h : ∀ a g', Le g g' → Tup g' a vs → Q (.ref a) g' ρ M) : T prog w c (PySem.newTuple vs) Q g ρ M := T.newTuple hz fun a ha => h a _ (Le.setG ha) setG_self
theorem T.newListE {vs : List Value} {Q : Post Value} (hz : vs.length ≤ 1000) (h : ∀ a g', Le g g' → Lst g' a vs → Q (.ref a) g' ρ M) : T prog w c (PySem.newList vs) Q g ρ M := T.newListF hz fun a ha => h a _ (Le.setG ha) setG_self
theorem T.sliceTE {value slice : Expr} {a sl : Addr} {vs : List Value} {i : Nat} {u : Tok} {Q : Post Value} (S : Tup g a vs) (hz : vs.length ≤ 1000) (h1 : 1 ≤ i) (hi : i ≤ vs.length)
    (hs : subscripted slice false (.ref a) (.ref sl) = PySem.operate [.ref sl, .ref a] (getItem (.ref a) (.ref sl)))
    (h : ∀ b g', Le g g' → Tup g' b (vs.drop i) → Q (.ref b) g' ρ M) : T prog w c (subscriptTail value slice (.ref a) (.ref sl)) Q g ρ ((sl, .raw (sliceO i u)) :: M) := T.sliceT2 S hz h1 hi hs fun b hb => h b _ (Le.setG hb) setG_self
end
end Mine

namespace Mine
section
variable {prog : Program} {w : World} {α β : Type} {c : Cx} {g g' : G} {ρ ρ' : Str → Option Value} {M M' : Mem} {K : Frag} {n : Nat} {pos apos : Pos} {P : Params} {l : List (Str × NameKind)}
theorem T.monoL {t : Sem α} {Q Q' : Post α} (h : T prog w c t Q g ρ M) (k : ∀ r g' ρ M, Le g g' → Q r g' ρ M → Q' r g' ρ M) : T prog w c t Q' g ρ M :=
  fun s hA => wpAny_mono (h s hA) (fun _ _ ⟨g', ρ', M', a, b, l, q⟩ => ⟨g', ρ', M', a, b, l, k _ _ _ _ l q⟩) fun _ _ e => e
/-- a comprehension whose turns may change what is mutable -/
theorem LcK.mapJ {x : Str} {px : Pos} {elt : Expr} {sc : Scope} {m : Nat} {P : Nat → Value → Heap → Prop} {fin : Addr → List Value → G → Mem → Prop} (J : Mem → Prop) (R : Nat → Value → G → Prop) (hR : ∀ i v g g', Le g g' → R i v g → R i v g') (hJ : J M)
    (hx : ((relab l sc.names).lookup x == some .local) = true) (hm : m ≤ 1000)
    (step : ∀ (D : Addr) (c' : Cx), c'.Ok K n → c'.env.scope.names = relab l sc.names → ∀ i v g' ρ' acc M1, i < m → P i v c'.h₀ → Le g g' → (∀ x, ((relab l sc.names).lookup x == some .local) = false → ρ' x = ρ x) → J M1 →
      T prog w c' (eval elt c'.env) (fun y g'' _ M'' => ∃ M2, M'' = (D, .list acc) :: M2 ∧ J M2 ∧ R i y g'') g' (put ρ' x v) ((D, .list acc) :: M1))
    (hfin : ∀ D ys g' M1, J M1 → Le g g' → ys.length = m → (∀ i y, ys[i]? = some y → R i y g') → fin D ys g' M1) : LcK prog w K n l sc (.Name x px) elt [] g ρ m P M fin := by
  refine ⟨hm, fun D => ⟨fun i acc g' M' => J M' ∧ acc.length = i ∧ ∀ j y, acc[j]? = some y → R j y g', ⟨hJ, rfl, fun j y e => by cases j <;> cases e⟩, ?_, ?_⟩⟩
  · rintro c' O' hS' i v g' ρ' acc M' hi hP hl ha ⟨hJ', hlen, hacc⟩
    refine T.assign_stored (T.stLocal O' (kind_of hS' (by simpa using hx)) (T.tests_nil (IfK.t ?_)))
    refine T.monoL (step D c' O' hS' i v g' ρ' acc M' hi hP hl ha hJ') fun y g'' ρ'' M'' l' ⟨M2, e, j2, r⟩ => ⟨M2, e, j2, by simp [hlen], fun j z hz => ?_⟩
    rcases Nat.lt_or_ge j acc.length with q | q
    · rw [List.getElem?_append_left q] at hz
      exact hR _ _ _ _ l' (hacc j z hz)
    · rw [List.getElem?_append_right q] at hz
      have : j = acc.length := by
        have := (List.getElem?_eq_some_iff.mp hz).1
        simp at this; omega
      subst this
      simp at hz
      subst hz
      rw [hlen]; exact r
  · rintro acc g' M' hl ⟨hJ', hlen, hacc⟩
    exact hfin D acc g' M' hJ' hl hlen hacc
/-- a comprehension that keeps those that pass a test and makes something of each -/
theorem LcK.fmap {x : Str} {px : Pos} {elt test : Expr} {sc : Scope} {m : Nat} {P : Nat → Value → Heap → Prop} {fin : Addr → List Value → G → Mem → Prop} (b : Nat → Bool) (R : Nat → Value → G → Prop) (hR : ∀ i v g g', Le g g' → R i v g → R i v g')
    (hx : ((relab l sc.names).lookup x == some .local) = true) (hm : m ≤ 1000)
    (step : ∀ (D : Addr) (c' : Cx), c'.Ok K n → c'.env.scope.names = relab l sc.names → ∀ i v g' ρ' acc, i < m → P i v c'.h₀ → Le g g' → (∀ x, ((relab l sc.names).lookup x == some .local) = false → ρ' x = ρ x) →
      T prog w c' (isTrue test c'.env (eval test c'.env)) (fun r g'' ρ'' M'' => r = b i ∧ M'' = (D, .list acc) :: M ∧ (b i = true → T prog w c' (eval elt c'.env) (fun y g3 _ M3 => R i y g3 ∧ M3 = (D, .list acc) :: M) g'' ρ'' M'')) g' (put ρ' x v) ((D, .list acc) :: M))
    (hfin : ∀ D ys g', Le g g' → ys.length ≤ m → (∀ y ∈ ys, ∃ i, i < m ∧ b i = true ∧ R i y g') → (∀ i, i < m → b i = true → ys ≠ []) → fin D ys g' M) : LcK prog w K n l sc (.Name x px) elt [test] g ρ m P M fin := by
  refine ⟨hm, fun D => ⟨fun i acc g' M' => M' = M ∧ i ≤ m ∧ acc.length ≤ i ∧ (∀ y ∈ acc, ∃ j, j < m ∧ b j = true ∧ R j y g') ∧ ∀ j, j < i → b j = true → acc ≠ [], ⟨rfl, Nat.zero_le _, Nat.le_refl _, (fun _ h => nomatch h), fun j h => absurd h (Nat.not_lt_zero _)⟩, ?_, ?_⟩⟩
  · rintro c' O' hS' i v g' ρ' acc M' hi hv hl ha ⟨rfl, him, hlen, hacc, hne⟩
    refine T.assign_stored (T.stLocal O' (kind_of hS' (by simpa using hx)) ?_)
    refine T.tests_one (T.monoL (step D c' O' hS' i v g' ρ' _ hi hv hl ha) fun r g'' ρ'' M'' l1 ⟨e1, e2, q⟩ => ?_)
    subst e1 e2
    refine ⟨fun e => T.monoL (q e) fun y g3 ρ3 M3 l2 ⟨e1, e2⟩ => ?_, fun e => ⟨_, rfl, rfl, by omega, by omega, fun y hy => ?_, fun j hj hb => ?_⟩⟩
    · subst e2
      refine ⟨_, rfl, rfl, by omega, by simp; omega, fun y hy => ?_, fun j hj hb => by simp⟩
      rcases List.mem_append.mp hy with hy | hy
      · obtain ⟨j, h1, h2, h3⟩ := hacc y hy
        exact ⟨j, h1, h2, hR _ _ _ _ (l1.trans l2) h3⟩
      · rw [List.mem_singleton.mp hy]
        exact ⟨i, hi, e, e1⟩
    · obtain ⟨j, h1, h2, h3⟩ := hacc y hy
      exact ⟨j, h1, h2, hR _ _ _ _ l1 h3⟩
    · by_cases z : j = i
      · subst z; rw [e] at hb; cases hb
      · exact hne j (by omega) hb
  · rintro acc g' M' hl ⟨rfl, him, hlen, hacc, hne⟩
    exact hfin D acc g' hl hlen hacc hne
end
end Mine

namespace Mine
section
variable {prog : Program} {w : World} {α β : Type} {c : Cx} {g g' : G} {ρ ρ' : Str → Option Value} {M M' : Mem} {K : Frag} {n : Nat} {pos apos : Pos} {P : Params} {l : List (Str × NameKind)}
theorem T.neB {a b : Bool} {Q : Post Value} (h : Q (.bool (!(a == b))) g ρ M) : T prog w c (compareOp .NotEq (.bool a) (.bool b)) Q g ρ M := T.tok fun s hA R k => by
  exact SeqAt.RcNeAt.bool_bool a b prog w _ _ (k _ s.toks h)
/-- a slice up to a place -/
def sliceU (i : Int) (u : Tok) : Obj := { cls := .type "slice", data := .fields #[.none, .int i u, .none] }
theorem T.sliceU {e : Expr} {Q : Post Value} (h : T prog w c (eval e c.env) (fun v g ρ M => ∃ i u, v = .int i u ∧ ∀ sl, Q (.ref sl) g ρ ((sl, .raw (Mine.sliceU i u)) :: M)) g ρ M) :
    T prog w c (eval (.Slice none (some e) none pos) c.env) Q g ρ M := by
  rw [arm_eval_Slice]
  refine T.bind (T.pure (T.bind (T.holding (T.mono h fun v g ρ M ⟨i, u, e, q⟩ => T.bind (T.holding (T.pure ?_))))))
  subst e
  exact T.pushM (m := .raw (Mine.sliceU i u)) (o := Mine.sliceU i u) (f := .ref) rfl rfl (fun s _ R k => wpAny_newObj_type (k s.heap s.toks (Ext.refl _))) q
theorem T.sliceLU {value slice : Expr} {a sl : Addr} {vs : List Value} {i : Nat} {u : Tok} {Q : Post Value} (S : SrcL g M a vs) (hz : vs.length ≤ 1000)
    (hs : subscripted slice false (.ref a) (.ref sl) = PySem.operate [.ref sl, .ref a] (getItem (.ref a) (.ref sl)))
    (h : ∀ b g', Le g g' → Lst g' b (vs.take i) → Q (.ref b) g' ρ M) : T prog w c (subscriptTail value slice (.ref a) (.ref sl)) Q g ρ ((sl, .raw (Mine.sliceU i u)) :: M) := by
  refine T.postDrop (p := (sl, .raw (Mine.sliceU i u))) (T.push (m := .list (vs.take i)) (o := { cls := .type "list", data := .seq (slicePick vs.toArray none (some i) none) }) (f := .ref) ⟨0, by rw [slicePick_upto']⟩ rfl (fun s hA R kk => ?_) fun b hb => ⟨M, rfl, h b _ (Le.setG hb) setG_self⟩)
  have S' : SrcL g ((sl, .raw (Mine.sliceU i u)) :: M) a vs := S.elim .inl fun e => .inr (.tail _ e)
  obtain ⟨kk', hl⟩ := S'.at hA
  obtain ⟨_, hsl, rfl⟩ := hA.mem _ (.head _)
  exact tail_any hl.isList.typeIs list_getitem_lookup (wpAny_getItem_list_slice hl.isList ⟨_, hsl, rfl, rfl⟩ .none (.int i u) .none (by simp) (kk s.heap s.toks (Ext.refl _)) (by rw [List.size_toArray, sizeLine_eq]; omega)) hs
/-- list(a list), to be turned -/
theorem T.listOfL {a : Addr} {vs : List Value} {Q : Post Value} (S : SrcL g M a vs) (hz : vs.length ≤ 1000) (h : ∀ b, Q (.ref b) g ρ ((b, .list vs) :: M)) : T prog w c (call (.type "list") [.ref a]) Q g ρ M := fun s hA => by
  obtain ⟨k, hl⟩ := S.at hA
  refine call_list_seq a (.inl rfl) hl rfl rfl (fun h' c' x e => ?_) (by rw [List.size_toArray, sizeLine_eq]; omega)
  have hn : s.heap.get? s.heap.objs.size = none := by
    cases q : s.heap.get? s.heap.objs.size with
    | none => rfl
    | some o => exact absurd (Heap.lt_size q) (Nat.lt_irrefl _)
  exact ⟨_, _, _, hA.new (m := .list vs) x hn ⟨_, e, c', rfl⟩, ⟨rfl, rfl, rfl⟩, .refl g, h _⟩
theorem T.dictSetV {d a : Addr} {post : Mem} {xs : List (Addr × Int × Value)} {i : Int} {v : Value} {Q : Post Unit} (O : c.Ok K n) (hz : xs.length ≤ 900) (hn : ∀ x ∈ xs, x.2.1 ≠ i ∧ x.1 ≠ a)
    (hp : Pu prog w K n (pyHash (.ref a)) (fun r g' => r = i ∧ g' = g) g) (h : Q () g ρ ((d, .vd (xs ++ [(a, i, v)])) :: post)) : T prog w c (PySem.dictSet d (.ref a) v) Q g ρ ((d, .vd xs) :: post) := fun s hA => by
  obtain ⟨_, e, ep, rfl⟩ := hA.mem (d, .vd xs) (.head _)
  unfold dictSet
  refine wpAny_holding (wpAny_bind (wpAny_mono (hp c.A s O.room (hA.wd O) hA.know) (fun r s' ⟨x, rs, g', _, _, _, q1, q2⟩ => ?_) fun _ _ e => e.elim))
  subst q1; subst q2
  have e' := x _ _ e
  unfold dictSetHashed
  refine wpAny_holding (wpAny_bind (find_none e' hn ?_))
  refine wpAny_bind (wpAny_rule ?_)
  refine wpAny_updateDictKeys e' rfl ?_ (by have := sizeLine_eq; simp only [vEnt, List.size_toArray, List.length_map]; omega)
  have rr : (MO.vd (xs ++ [(a, r, v)])).rep w.params (Obj.mapDictKeys (·.push ⟨r, .ref a, v⟩) { cls := .type "dict", data := .dict (vEnt xs).toArray ep }) := ⟨ep + 1, by simp [Obj.mapDictKeys, vEnt]⟩
  exact ⟨_, ρ, _, (hA.ext x).mapTurn (pre := []) O (Heap.SameBut.update _ _ _) ⟨_, Heap.get?_update_self _ e' rfl, rr⟩, rs, .refl _, h⟩
/-- a dict comprehension whose keys are objects -/
def DvK (prog : Program) (w : World) (K : Frag) (n : Nat) (l : List (Str × NameKind)) (sc : Scope) (target kx vx : Expr) (g : G) (ρ : Str → Option Value) (m : Nat) (P : Nat → Value → Heap → Prop) (M' : Mem)
    (fin : Addr → List (Addr × Int × Value) → G → Mem → Prop) : Prop := m ≤ 900 ∧ ∀ D, ∃ Inv : Nat → List (Addr × Int × Value) → G → Mem → Prop, Inv 0 [] g M' ∧
  (∀ c' : Cx, c'.Ok K n → c'.env.scope.names = relab l sc.names → ∀ i v g' ρ' xs M, i < m → P i v c'.h₀ → Le g g' → (∀ x, ((relab l sc.names).lookup x == some .local) = false → ρ' x = ρ x) → Inv i xs g' M →
    T prog w c' (assign target c'.env v) (fun _ g ρ M₁ => T prog w c' (eval kx c'.env) (fun kv g ρ M₁ => ∃ a, kv = .ref a ∧ T prog w c' (eval vx c'.env) (fun vv g ρ M₁ => ∃ M' h, M₁ = (D, .vd xs) :: M' ∧ (∀ x ∈ xs, x.2.1 ≠ h ∧ x.1 ≠ a) ∧ Pu prog w K n (pyHash (.ref a)) (fun r g' => r = h ∧ g' = g) g ∧ xs.length ≤ i ∧ Inv (i + 1) (xs ++ [(a, h, vv)]) g M') g ρ M₁) g ρ M₁) g' ρ' ((D, .vd xs) :: M)) ∧
  ∀ xs g' M, Le g g' → Inv m xs g' M → fin D xs g' M
theorem T.dvU {kx vx target iter : Expr} {sc : Scope} {p : Pos} {use : Option (Env → Value → Sem Unit)} {Q : Post Value} (O : c.Ok K n) (hW : use.isSome = true → c.Own) (hS : c.env.scope.names = l)
    (hsc : compOk sc = true) (hfr : freeOk l sc.names = true) (hs : ∀ x, foldedSetIterable iter c.env x = Pure.pure x)
    (h : T prog w c (eval iter c.env) (fun xv g ρ M => Seqs prog w c target xv g ρ M fun m P M' => DvK prog w K n l sc target kx vx g ρ m P M' fun D xs g' M => UseK prog w K n l use Q D g' ρ ((D, .vd xs) :: M)) g ρ M) :
    T prog w c (comprehension (.DictComp kx vx [⟨target, iter, [], 0⟩] sc p) sc c.env pos PySem.newDict false (eval iter c.env) (use.map fun u => u c.env)) Q g ρ M := by
  refine T.compU (PD := fun D => True) (m₀ := .vd []) (emit := fun a env => match a with
    | .ref D => eval kx env >>= fun k => PySem.holding [k] (eval vx env) >>= fun v => PySem.standAt { kx.pos with endLine := vx.pos.endLine, endCol := vx.pos.endCol } >>= fun _ => PySem.holding [k, v] (dictSet D k v)
    | _ => Pure.pure ()) O hW hS rfl rfl (fun it D env => compTurn_D it D env) hsc hfr hs (fun c Q g ρ M O' hQ => ?_) ?_
  · exact T.newDictV fun d => hQ d trivial
  refine T.mono h fun xv g ρ M hq => hq.mono fun m P M' ⟨hm, hk⟩ D _ => ?_
  obtain ⟨Inv, h0, step, fin⟩ := hk D
  refine ⟨fun i g MM => ∃ xs M, MM = (D, .vd xs) :: M ∧ Inv i xs g M, ⟨_, M', rfl, h0⟩, ?_, ?_⟩
  · rintro c' O' hS' i v g' ρ' MM hi hP hl ha ⟨xs, M, rfl, inv⟩
    refine T.mono (step c' O' hS' i v g' ρ' xs M hi hP hl ha inv) fun _ g ρ M₁ q => T.tests_nil ⟨fun _ => ?_, fun e => nomatch e⟩
    refine T.bind (T.mono q fun kv g ρ M₁ ⟨a, e, q⟩ => T.bind (T.holding (T.mono q fun vv g ρ M₁ ⟨M₂, h, e1, hn, hp, hxi, inv⟩ => T.bind (T.standAt (T.holding ?_)))))
    subst e e1
    exact T.dictSetV O' (by omega) hn hp ⟨_, M₂, rfl, inv⟩
  · rintro g' MM hl ⟨xs, M, rfl, inv⟩
    exact fin xs g' M hl inv
/-- x = {..} where the variable is stored before the comprehension's own names go -/
theorem T.assign_dv1 {kx vx target iter : Expr} {sc : Scope} {p vp : Pos} {x : Str} {Q : Post Flow} (O : c.Ok K n) (W : c.Own) (hS : c.env.scope.names = l) (hb : swB l x p vp sc = true)
    (hsc : compOk sc = true) (hfr : freeOk l sc.names = true) (hs : ∀ x, foldedSetIterable iter c.env x = Pure.pure x)
    (h : T prog w c (eval iter c.env) (fun xv g ρ M => Seqs prog w c target xv g ρ M fun m P M' => DvK prog w K n l sc target kx vx g ρ m P M' fun D xs g' M => Q .next g' (put ρ x (.ref D)) ((D, .vd xs) :: M)) g ρ M) :
    T prog w c (exec (.Assign [.Name x p] (.DictComp kx vx [⟨target, iter, [], 0⟩] sc vp) pos) c.env) Q g ρ M := by
  have hsw := swaps_dc (kx := kx) (vx := vx) (gens := [⟨target, iter, [], 0⟩]) (sc := sc) (p := p) (vp := vp) (x := x) (line := pos.line) O hS
  rw [hb] at hsw
  rw [exec_Assign_Name_used _ _ _ _ hsw]
  have hl : l.lookup x = some .local := by
    unfold swB at hb
    simp only [Bool.and_eq_true, beq_iff_eq] at hb
    exact hb.1.1
  have key : T prog w c (comprehension (.DictComp kx vx [⟨target, iter, [], 0⟩] sc vp) sc c.env (firstIterPos [⟨target, iter, [], 0⟩] vp) PySem.newDict false (eval iter c.env) ((some fun env => assign (.Name x p) env).map fun u => u c.env))
      (fun _ g ρ M => Q .next g ρ M) g ρ M := by
    refine T.dvU (use := some fun env => assign (.Name x p) env) O (fun _ => W) hS hsc hfr hs (T.mono h fun xv g ρ M q => q.mono fun m P M' ⟨hm, q⟩ => ⟨hm, fun D => ?_⟩)
    obtain ⟨Inv, a, b, f⟩ := q D
    refine ⟨Inv, a, b, fun acc g' M hl' inv => ?_⟩
    intro c' O' W' hS'
    exact T.assign_stored (T.stLocal O' (kind_of hS' hl) (f acc g' M hl' inv))
  refine T.bind (T.standAt (T.bind ?_))
  show T prog w c (do let _ ← comprehension (.DictComp kx vx [⟨target, iter, [], 0⟩] sc vp) sc c.env (firstIterPos [⟨target, iter, [], 0⟩] vp) PySem.newDict false (eval iter c.env) (some (assign (.Name x p) c.env))) _ g ρ M
  exact T.bind (T.mono key fun _ g ρ M q => T.pure (T.pure q))
end
end Mine

namespace Mine
set_option maxHeartbeats 8000000 in
open_top hd for PySem.Challenge.rw_ft0020_02
end Mine

namespace Mine
noncomputable abbrev KP (P : Params) : Frag := hd.heap_39 P
theorem gl_is_named_instance (P : Params) : nsIn (KP P) mainGlobals "is_named_instance" = some (some (.ref 388)) := by kernel_rfl
theorem gl_flatten_nested_unions (P : Params) : nsIn (KP P) mainGlobals "flatten_nested_unions" = some (some (.ref 395)) := by kernel_rfl
theorem gl_expand_type (P : Params) : nsIn (KP P) mainGlobals "expand_type" = some (some (.ref 463)) := by kernel_rfl
theorem gl_expand_type_by_instance (P : Params) : nsIn (KP P) mainGlobals "expand_type_by_instance" = some (some (.ref 470)) := by kernel_rfl
theorem gl_remove_trivial (P : Params) : nsIn (KP P) mainGlobals "remove_trivial" = some (some (.ref 517)) := by kernel_rfl
theorem gl_map_instance_to_supertype (P : Params) : nsIn (KP P) mainGlobals "map_instance_to_supertype" = some (some (.ref 524)) := by kernel_rfl
theorem gl_map_instance_to_supertypes (P : Params) : nsIn (KP P) mainGlobals "map_instance_to_supertypes" = some (some (.ref 531)) := by kernel_rfl
theorem gl_class_derivation_paths (P : Params) : nsIn (KP P) mainGlobals "class_derivation_paths" = some (some (.ref 538)) := by kernel_rfl
theorem gl_map_instance_to_direct_supertypes (P : Params) : nsIn (KP P) mainGlobals "map_instance_to_direct_supertypes" = some (some (.ref 545)) := by kernel_rfl
theorem gl_is_subtype (P : Params) : nsIn (KP P) mainGlobals "is_subtype" = some (some (.ref 553)) := by kernel_rfl
theorem gl_is_proper_subtype (P : Params) : nsIn (KP P) mainGlobals "is_proper_subtype" = some (some (.ref 560)) := by kernel_rfl
theorem gl_is_equivalent (P : Params) : nsIn (KP P) mainGlobals "is_equivalent" = some (some (.ref 567)) := by kernel_rfl
theorem gl_is_same_type (P : Params) : nsIn (KP P) mainGlobals "is_same_type" = some (some (.ref 572)) := by kernel_rfl
theorem gl__is_subtype (P : Params) : nsIn (KP P) mainGlobals "_is_subtype" = some (some (.ref 577)) := by kernel_rfl
theorem gl_check_type_parameter (P : Params) : nsIn (KP P) mainGlobals "check_type_parameter" = some (some (.ref 584)) := by kernel_rfl
theorem gl__law_names (P : Params) : nsIn (KP P) mainGlobals "_law_names" = some (some (.ref 659)) := by kernel_rfl
theorem gl__law_draw (P : Params) : nsIn (KP P) mainGlobals "_law_draw" = some (some (.ref 666)) := by kernel_rfl
theorem gl__law_tree (P : Params) : nsIn (KP P) mainGlobals "_law_tree" = some (some (.ref 673)) := by kernel_rfl
theorem gl__law_moved (P : Params) : nsIn (KP P) mainGlobals "_law_moved" = some (some (.ref 678)) := by kernel_rfl
theorem gl__law_put (P : Params) : nsIn (KP P) mainGlobals "_law_put" = some (some (.ref 683)) := by kernel_rfl
theorem gl__law_below (P : Params) : nsIn (KP P) mainGlobals "_law_below" = some (some (.ref 688)) := by kernel_rfl
theorem gl__law_type (P : Params) : nsIn (KP P) mainGlobals "_law_type" = some (some (.ref 693)) := by kernel_rfl
theorem gl_ClassDef (P : Params) : nsIn (KP P) mainGlobals "ClassDef" = some (some (.ref 38)) := by kernel_rfl
theorem gl_TypeInfo (P : Params) : nsIn (KP P) mainGlobals "TypeInfo" = some (some (.ref 64)) := by kernel_rfl
theorem gl_TypeOfAny (P : Params) : nsIn (KP P) mainGlobals "TypeOfAny" = some (some (.ref 78)) := by kernel_rfl
theorem gl_Type (P : Params) : nsIn (KP P) mainGlobals "Type" = some (some (.ref 99)) := by kernel_rfl
theorem gl_ProperType (P : Params) : nsIn (KP P) mainGlobals "ProperType" = some (some (.ref 113)) := by kernel_rfl
theorem gl_TypeVarId (P : Params) : nsIn (KP P) mainGlobals "TypeVarId" = some (some (.ref 161)) := by kernel_rfl
theorem gl_TypeVarType (P : Params) : nsIn (KP P) mainGlobals "TypeVarType" = some (some (.ref 204)) := by kernel_rfl
theorem gl_AnyType (P : Params) : nsIn (KP P) mainGlobals "AnyType" = some (some (.ref 238)) := by kernel_rfl
theorem gl_UninhabitedType (P : Params) : nsIn (KP P) mainGlobals "UninhabitedType" = some (some (.ref 272)) := by kernel_rfl
theorem gl_NoneType (P : Params) : nsIn (KP P) mainGlobals "NoneType" = some (some (.ref 298)) := by kernel_rfl
theorem gl_Instance (P : Params) : nsIn (KP P) mainGlobals "Instance" = some (some (.ref 338)) := by kernel_rfl
theorem gl_UnionType (P : Params) : nsIn (KP P) mainGlobals "UnionType" = some (some (.ref 379)) := by kernel_rfl
theorem gl_TypeTranslator (P : Params) : nsIn (KP P) mainGlobals "TypeTranslator" = some (some (.ref 452)) := by kernel_rfl
theorem gl_ExpandTypeVisitor (P : Params) : nsIn (KP P) mainGlobals "ExpandTypeVisitor" = some (some (.ref 508)) := by kernel_rfl
theorem gl_SubtypeVisitor (P : Params) : nsIn (KP P) mainGlobals "SubtypeVisitor" = some (some (.ref 648)) := by kernel_rfl
theorem bl_isinstance (P : Params) : nsIn (KP P) mainGlobals "isinstance" = some none := by kernel_rfl
theorem bv_isinstance : bootBuiltins "isinstance" = some (.builtin "isinstance") := by kernel_rfl
theorem bl_len (P : Params) : nsIn (KP P) mainGlobals "len" = some none := by kernel_rfl
theorem bv_len : bootBuiltins "len" = some (.builtin "len") := by kernel_rfl
theorem bl_zip (P : Params) : nsIn (KP P) mainGlobals "zip" = some none := by kernel_rfl
theorem bv_zip : bootBuiltins "zip" = some (.type "zip") := by kernel_rfl
theorem bl_any (P : Params) : nsIn (KP P) mainGlobals "any" = some none := by kernel_rfl
theorem bv_any : bootBuiltins "any" = some (.builtin "any") := by kernel_rfl
theorem bl_all (P : Params) : nsIn (KP P) mainGlobals "all" = some none := by kernel_rfl
theorem bv_all : bootBuiltins "all" = some (.builtin "all") := by kernel_rfl
theorem bl_tuple (P : Params) : nsIn (KP P) mainGlobals "tuple" = some none := by kernel_rfl
theorem bv_tuple : bootBuiltins "tuple" = some (.type "tuple") := by kernel_rfl
theorem bl_list (P : Params) : nsIn (KP P) mainGlobals "list" = some none := by kernel_rfl
theorem bv_list : bootBuiltins "list" = some (.type "list") := by kernel_rfl
theorem bl_reversed (P : Params) : nsIn (KP P) mainGlobals "reversed" = some none := by kernel_rfl
theorem bv_reversed : bootBuiltins "reversed" = some (.type "reversed") := by kernel_rfl
theorem bl_range (P : Params) : nsIn (KP P) mainGlobals "range" = some none := by kernel_rfl
theorem bv_range : bootBuiltins "range" = some (.type "range") := by kernel_rfl
theorem bl_enumerate (P : Params) : nsIn (KP P) mainGlobals "enumerate" = some none := by kernel_rfl
theorem bv_enumerate : bootBuiltins "enumerate" = some (.type "enumerate") := by kernel_rfl
theorem bl_str (P : Params) : nsIn (KP P) mainGlobals "str" = some none := by kernel_rfl
theorem bv_str : bootBuiltins "str" = some (.type "str") := by kernel_rfl
theorem at_38_type_vars (P : Params) : attrOk (KP P) 38 "type_vars" = true := by kernel_rfl
theorem st_38_type_vars (P : Params) : stOk (KP P) 38 "type_vars" = true := by kernel_rfl
theorem at_64_fullname (P : Params) : attrOk (KP P) 64 "fullname" = true := by kernel_rfl
theorem st_64_fullname (P : Params) : stOk (KP P) 64 "fullname" = true := by kernel_rfl
theorem at_64_defn (P : Params) : attrOk (KP P) 64 "defn" = true := by kernel_rfl
theorem st_64_defn (P : Params) : stOk (KP P) 64 "defn" = true := by kernel_rfl
theorem at_64_type_vars (P : Params) : attrOk (KP P) 64 "type_vars" = true := by kernel_rfl
theorem st_64_type_vars (P : Params) : stOk (KP P) 64 "type_vars" = true := by kernel_rfl
theorem at_64_bases (P : Params) : attrOk (KP P) 64 "bases" = true := by kernel_rfl
theorem st_64_bases (P : Params) : stOk (KP P) 64 "bases" = true := by kernel_rfl
theorem at_64_mro (P : Params) : attrOk (KP P) 64 "mro" = true := by kernel_rfl
theorem st_64_mro (P : Params) : stOk (KP P) 64 "mro" = true := by kernel_rfl
theorem at_161_raw_id (P : Params) : attrOk (KP P) 161 "raw_id" = true := by kernel_rfl
theorem st_161_raw_id (P : Params) : stOk (KP P) 161 "raw_id" = true := by kernel_rfl
theorem at_161_meta_level (P : Params) : attrOk (KP P) 161 "meta_level" = true := by kernel_rfl
theorem st_161_meta_level (P : Params) : stOk (KP P) 161 "meta_level" = true := by kernel_rfl
theorem at_204_name (P : Params) : attrOk (KP P) 204 "name" = true := by kernel_rfl
theorem st_204_name (P : Params) : stOk (KP P) 204 "name" = true := by kernel_rfl
theorem at_204_id (P : Params) : attrOk (KP P) 204 "id" = true := by kernel_rfl
theorem st_204_id (P : Params) : stOk (KP P) 204 "id" = true := by kernel_rfl
theorem at_204_upper_bound (P : Params) : attrOk (KP P) 204 "upper_bound" = true := by kernel_rfl
theorem st_204_upper_bound (P : Params) : stOk (KP P) 204 "upper_bound" = true := by kernel_rfl
theorem at_204_values (P : Params) : attrOk (KP P) 204 "values" = true := by kernel_rfl
theorem st_204_values (P : Params) : stOk (KP P) 204 "values" = true := by kernel_rfl
theorem at_204_variance (P : Params) : attrOk (KP P) 204 "variance" = true := by kernel_rfl
theorem st_204_variance (P : Params) : stOk (KP P) 204 "variance" = true := by kernel_rfl
theorem at_238_type_of_any (P : Params) : attrOk (KP P) 238 "type_of_any" = true := by kernel_rfl
theorem st_238_type_of_any (P : Params) : stOk (KP P) 238 "type_of_any" = true := by kernel_rfl
theorem at_238_source_any (P : Params) : attrOk (KP P) 238 "source_any" = true := by kernel_rfl
theorem st_238_source_any (P : Params) : stOk (KP P) 238 "source_any" = true := by kernel_rfl
theorem at_272_ambiguous (P : Params) : attrOk (KP P) 272 "ambiguous" = true := by kernel_rfl
theorem st_272_ambiguous (P : Params) : stOk (KP P) 272 "ambiguous" = true := by kernel_rfl
theorem at_338_type (P : Params) : attrOk (KP P) 338 "type" = true := by kernel_rfl
theorem st_338_type (P : Params) : stOk (KP P) 338 "type" = true := by kernel_rfl
theorem at_338_args (P : Params) : attrOk (KP P) 338 "args" = true := by kernel_rfl
theorem st_338_args (P : Params) : stOk (KP P) 338 "args" = true := by kernel_rfl
theorem at_379_items (P : Params) : attrOk (KP P) 379 "items" = true := by kernel_rfl
theorem st_379_items (P : Params) : stOk (KP P) 379 "items" = true := by kernel_rfl
theorem at_508_variables (P : Params) : attrOk (KP P) 508 "variables" = true := by kernel_rfl
theorem st_508_variables (P : Params) : stOk (KP P) 508 "variables" = true := by kernel_rfl
theorem at_648_right (P : Params) : attrOk (KP P) 648 "right" = true := by kernel_rfl
theorem st_648_right (P : Params) : stOk (KP P) 648 "right" = true := by kernel_rfl
theorem at_648_proper_subtype (P : Params) : attrOk (KP P) 648 "proper_subtype" = true := by kernel_rfl
theorem st_648_proper_subtype (P : Params) : stOk (KP P) 648 "proper_subtype" = true := by kernel_rfl
theorem mt_64_has_base (P : Params) : methOk (KP P) 64 "has_base" 61 = true := by kernel_rfl
theorem kp_61 (P : Params) : keepIn (KP P) (.ref 61) = true := by kernel_rfl
theorem mt_204_accept (P : Params) : methOk (KP P) 204 "accept" 194 = true := by kernel_rfl
theorem kp_194 (P : Params) : keepIn (KP P) (.ref 194) = true := by kernel_rfl
theorem mt_238_accept (P : Params) : methOk (KP P) 238 "accept" 228 = true := by kernel_rfl
theorem kp_228 (P : Params) : keepIn (KP P) (.ref 228) = true := by kernel_rfl
theorem mt_272_accept (P : Params) : methOk (KP P) 272 "accept" 262 = true := by kernel_rfl
theorem kp_262 (P : Params) : keepIn (KP P) (.ref 262) = true := by kernel_rfl
theorem mt_298_accept (P : Params) : methOk (KP P) 298 "accept" 295 = true := by kernel_rfl
theorem kp_295 (P : Params) : keepIn (KP P) (.ref 295) = true := by kernel_rfl
theorem mt_338_accept (P : Params) : methOk (KP P) 338 "accept" 321 = true := by kernel_rfl
theorem kp_321 (P : Params) : keepIn (KP P) (.ref 321) = true := by kernel_rfl
theorem mt_338_copy_modified (P : Params) : methOk (KP P) 338 "copy_modified" 335 = true := by kernel_rfl
theorem kp_335 (P : Params) : keepIn (KP P) (.ref 335) = true := by kernel_rfl
theorem mt_379_accept (P : Params) : methOk (KP P) 379 "accept" 376 = true := by kernel_rfl
theorem kp_376 (P : Params) : keepIn (KP P) (.ref 376) = true := by kernel_rfl
theorem kp_388 (P : Params) : keepIn (KP P) (.ref 388) = true := by kernel_rfl
theorem kp_395 (P : Params) : keepIn (KP P) (.ref 395) = true := by kernel_rfl
theorem mt_508_visit_any (P : Params) : methOk (KP P) 508 "visit_any" 409 = true := by kernel_rfl
theorem kp_409 (P : Params) : keepIn (KP P) (.ref 409) = true := by kernel_rfl
theorem mt_508_visit_none_type (P : Params) : methOk (KP P) 508 "visit_none_type" 416 = true := by kernel_rfl
theorem kp_416 (P : Params) : keepIn (KP P) (.ref 416) = true := by kernel_rfl
theorem mt_508_visit_uninhabited_type (P : Params) : methOk (KP P) 508 "visit_uninhabited_type" 423 = true := by kernel_rfl
theorem kp_423 (P : Params) : keepIn (KP P) (.ref 423) = true := by kernel_rfl
theorem mt_508_translate_type_list (P : Params) : methOk (KP P) 508 "translate_type_list" 449 = true := by kernel_rfl
theorem kp_449 (P : Params) : keepIn (KP P) (.ref 449) = true := by kernel_rfl
theorem kp_463 (P : Params) : keepIn (KP P) (.ref 463) = true := by kernel_rfl
theorem kp_470 (P : Params) : keepIn (KP P) (.ref 470) = true := by kernel_rfl
theorem mt_508_visit_instance (P : Params) : methOk (KP P) 508 "visit_instance" 491 = true := by kernel_rfl
theorem kp_491 (P : Params) : keepIn (KP P) (.ref 491) = true := by kernel_rfl
theorem mt_508_visit_type_var (P : Params) : methOk (KP P) 508 "visit_type_var" 498 = true := by kernel_rfl
theorem kp_498 (P : Params) : keepIn (KP P) (.ref 498) = true := by kernel_rfl
theorem mt_508_visit_union_type (P : Params) : methOk (KP P) 508 "visit_union_type" 505 = true := by kernel_rfl
theorem kp_505 (P : Params) : keepIn (KP P) (.ref 505) = true := by kernel_rfl
theorem kp_517 (P : Params) : keepIn (KP P) (.ref 517) = true := by kernel_rfl
theorem kp_524 (P : Params) : keepIn (KP P) (.ref 524) = true := by kernel_rfl
theorem kp_531 (P : Params) : keepIn (KP P) (.ref 531) = true := by kernel_rfl
theorem kp_538 (P : Params) : keepIn (KP P) (.ref 538) = true := by kernel_rfl
theorem kp_545 (P : Params) : keepIn (KP P) (.ref 545) = true := by kernel_rfl
theorem kp_553 (P : Params) : keepIn (KP P) (.ref 553) = true := by kernel_rfl
theorem kp_560 (P : Params) : keepIn (KP P) (.ref 560) = true := by kernel_rfl
theorem kp_567 (P : Params) : keepIn (KP P) (.ref 567) = true := by kernel_rfl
theorem kp_572 (P : Params) : keepIn (KP P) (.ref 572) = true := by kernel_rfl
theorem kp_577 (P : Params) : keepIn (KP P) (.ref 577) = true := by kernel_rfl
theorem kp_584 (P : Params) : keepIn (KP P) (.ref 584) = true := by kernel_rfl
theorem mt_648__is_subtype (P : Params) : methOk (KP P) 648 "_is_subtype" 605 = true := by kernel_rfl
theorem kp_605 (P : Params) : keepIn (KP P) (.ref 605) = true := by kernel_rfl
theorem mt_648_visit_any (P : Params) : methOk (KP P) 648 "visit_any" 612 = true := by kernel_rfl
theorem kp_612 (P : Params) : keepIn (KP P) (.ref 612) = true := by kernel_rfl
theorem mt_648_visit_none_type (P : Params) : methOk (KP P) 648 "visit_none_type" 619 = true := by kernel_rfl
theorem kp_619 (P : Params) : keepIn (KP P) (.ref 619) = true := by kernel_rfl
theorem mt_648_visit_uninhabited_type (P : Params) : methOk (KP P) 648 "visit_uninhabited_type" 626 = true := by kernel_rfl
theorem kp_626 (P : Params) : keepIn (KP P) (.ref 626) = true := by kernel_rfl
theorem mt_648_visit_instance (P : Params) : methOk (KP P) 648 "visit_instance" 633 = true := by kernel_rfl
theorem kp_633 (P : Params) : keepIn (KP P) (.ref 633) = true := by kernel_rfl
theorem mt_648_visit_type_var (P : Params) : methOk (KP P) 648 "visit_type_var" 640 = true := by kernel_rfl
theorem kp_640 (P : Params) : keepIn (KP P) (.ref 640) = true := by kernel_rfl
theorem mt_648_visit_union_type (P : Params) : methOk (KP P) 648 "visit_union_type" 645 = true := by kernel_rfl
theorem kp_645 (P : Params) : keepIn (KP P) (.ref 645) = true := by kernel_rfl
theorem kp_659 (P : Params) : keepIn (KP P) (.ref 659) = true := by kernel_rfl
theorem kp_666 (P : Params) : keepIn (KP P) (.ref 666) = true := by kernel_rfl
theorem kp_673 (P : Params) : keepIn (KP P) (.ref 673) = true := by kernel_rfl
theorem kp_678 (P : Params) : keepIn (KP P) (.ref 678) = true := by kernel_rfl
theorem kp_683 (P : Params) : keepIn (KP P) (.ref 683) = true := by kernel_rfl
theorem kp_688 (P : Params) : keepIn (KP P) (.ref 688) = true := by kernel_rfl
theorem kp_693 (P : Params) : keepIn (KP P) (.ref 693) = true := by kernel_rfl
theorem kp_698 (P : Params) : keepIn (KP P) (.ref 698) = true := by kernel_rfl
theorem kp_38 (P : Params) : keepIn (KP P) (.ref 38) = true := by kernel_rfl
theorem mk_38 (P : Params) : makesIn (KP P) 38 = true := by kernel_rfl
theorem in_38 (P : Params) : findIn (KP P) (.ref 38) "__init__" = some (some (.ref 35)) := by kernel_rfl
theorem ty_35 (P : Params) : typeIn (KP P) (.ref 35) = some (.type "function") := by kernel_rfl
theorem kp_64 (P : Params) : keepIn (KP P) (.ref 64) = true := by kernel_rfl
theorem mk_64 (P : Params) : makesIn (KP P) 64 = true := by kernel_rfl
theorem in_64 (P : Params) : findIn (KP P) (.ref 64) "__init__" = some (some (.ref 54)) := by kernel_rfl
theorem ty_54 (P : Params) : typeIn (KP P) (.ref 54) = some (.type "function") := by kernel_rfl
theorem kp_161 (P : Params) : keepIn (KP P) (.ref 161) = true := by kernel_rfl
theorem mk_161 (P : Params) : makesIn (KP P) 161 = true := by kernel_rfl
theorem in_161 (P : Params) : findIn (KP P) (.ref 161) "__init__" = some (some (.ref 130)) := by kernel_rfl
theorem ty_130 (P : Params) : typeIn (KP P) (.ref 130) = some (.type "function") := by kernel_rfl
theorem kp_508 (P : Params) : keepIn (KP P) (.ref 508) = true := by kernel_rfl
theorem mk_508 (P : Params) : makesIn (KP P) 508 = true := by kernel_rfl
theorem in_508 (P : Params) : findIn (KP P) (.ref 508) "__init__" = some (some (.ref 484)) := by kernel_rfl
theorem ty_484 (P : Params) : typeIn (KP P) (.ref 484) = some (.type "function") := by kernel_rfl
theorem kp_648 (P : Params) : keepIn (KP P) (.ref 648) = true := by kernel_rfl
theorem mk_648 (P : Params) : makesIn (KP P) 648 = true := by kernel_rfl
theorem in_648 (P : Params) : findIn (KP P) (.ref 648) "__init__" = some (some (.ref 598)) := by kernel_rfl
theorem ty_598 (P : Params) : typeIn (KP P) (.ref 598) = some (.type "function") := by kernel_rfl
theorem kp_204 (P : Params) : keepIn (KP P) (.ref 204) = true := by kernel_rfl
theorem mk_204 (P : Params) : makesIn (KP P) 204 = true := by kernel_rfl
theorem in_204 (P : Params) : findIn (KP P) (.ref 204) "__init__" = some (some (.ref 180)) := by kernel_rfl
theorem ty_180 (P : Params) : typeIn (KP P) (.ref 180) = some (.type "function") := by kernel_rfl
theorem kp_238 (P : Params) : keepIn (KP P) (.ref 238) = true := by kernel_rfl
theorem kp_272 (P : Params) : keepIn (KP P) (.ref 272) = true := by kernel_rfl
theorem mk_272 (P : Params) : makesIn (KP P) 272 = true := by kernel_rfl
theorem in_272 (P : Params) : findIn (KP P) (.ref 272) "__init__" = some (some (.ref 255)) := by kernel_rfl
theorem ty_255 (P : Params) : typeIn (KP P) (.ref 255) = some (.type "function") := by kernel_rfl
theorem kp_338 (P : Params) : keepIn (KP P) (.ref 338) = true := by kernel_rfl
theorem mk_338 (P : Params) : makesIn (KP P) 338 = true := by kernel_rfl
theorem in_338 (P : Params) : findIn (KP P) (.ref 338) "__init__" = some (some (.ref 314)) := by kernel_rfl
theorem ty_314 (P : Params) : typeIn (KP P) (.ref 314) = some (.type "function") := by kernel_rfl
theorem kp_379 (P : Params) : keepIn (KP P) (.ref 379) = true := by kernel_rfl
theorem mk_379 (P : Params) : makesIn (KP P) 379 = true := by kernel_rfl
theorem in_379 (P : Params) : findIn (KP P) (.ref 379) "__init__" = some (some (.ref 354)) := by kernel_rfl
theorem ty_354 (P : Params) : typeIn (KP P) (.ref 354) = some (.type "function") := by kernel_rfl
theorem kp_298 (P : Params) : keepIn (KP P) (.ref 298) = true := by kernel_rfl
theorem mk_298 (P : Params) : makesIn (KP P) 298 = true := by kernel_rfl
theorem isd_204 (P : Params) : isiOk (KP P) 204 = true := by kernel_rfl
theorem eqf_204 (P : Params) : findIn (KP P) (.ref 204) "__eq__" = some (some (.ref 201)) := by kernel_rfl
theorem fnn_201 (P : Params) : isFn (KP P) (.ref 201) = true := by kernel_rfl
theorem kit_204_204 (P : Params) : kitOne (KP P) (.ref 204) (.ref 204) = some true := by kernel_rfl
theorem ef_204_204 (P : Params) : eqFirst (KP P) 204 204 201 = true := by kernel_rfl
theorem kit_204_238 (P : Params) : kitOne (KP P) (.ref 204) (.ref 238) = some false := by kernel_rfl
theorem kit_204_272 (P : Params) : kitOne (KP P) (.ref 204) (.ref 272) = some false := by kernel_rfl
theorem ef_204_272 (P : Params) : eqFirst (KP P) 204 272 201 = true := by kernel_rfl
theorem kit_204_338 (P : Params) : kitOne (KP P) (.ref 204) (.ref 338) = some false := by kernel_rfl
theorem ef_204_338 (P : Params) : eqFirst (KP P) 204 338 201 = true := by kernel_rfl
theorem kit_204_379 (P : Params) : kitOne (KP P) (.ref 204) (.ref 379) = some false := by kernel_rfl
theorem ef_204_379 (P : Params) : eqFirst (KP P) 204 379 201 = true := by kernel_rfl
theorem kit_204_298 (P : Params) : kitOne (KP P) (.ref 204) (.ref 298) = some false := by kernel_rfl
theorem ef_204_298 (P : Params) : eqFirst (KP P) 204 298 201 = true := by kernel_rfl
theorem isd_238 (P : Params) : isiOk (KP P) 238 = true := by kernel_rfl
theorem kit_238_204 (P : Params) : kitOne (KP P) (.ref 238) (.ref 204) = some false := by kernel_rfl
theorem kit_238_238 (P : Params) : kitOne (KP P) (.ref 238) (.ref 238) = some true := by kernel_rfl
theorem kit_238_272 (P : Params) : kitOne (KP P) (.ref 238) (.ref 272) = some false := by kernel_rfl
theorem kit_238_338 (P : Params) : kitOne (KP P) (.ref 238) (.ref 338) = some false := by kernel_rfl
theorem kit_238_379 (P : Params) : kitOne (KP P) (.ref 238) (.ref 379) = some false := by kernel_rfl
theorem kit_238_298 (P : Params) : kitOne (KP P) (.ref 238) (.ref 298) = some false := by kernel_rfl
theorem isd_272 (P : Params) : isiOk (KP P) 272 = true := by kernel_rfl
theorem eqf_272 (P : Params) : findIn (KP P) (.ref 272) "__eq__" = some (some (.ref 269)) := by kernel_rfl
theorem fnn_269 (P : Params) : isFn (KP P) (.ref 269) = true := by kernel_rfl
theorem kit_272_204 (P : Params) : kitOne (KP P) (.ref 272) (.ref 204) = some false := by kernel_rfl
theorem ef_272_204 (P : Params) : eqFirst (KP P) 272 204 269 = true := by kernel_rfl
theorem kit_272_238 (P : Params) : kitOne (KP P) (.ref 272) (.ref 238) = some false := by kernel_rfl
theorem kit_272_272 (P : Params) : kitOne (KP P) (.ref 272) (.ref 272) = some true := by kernel_rfl
theorem ef_272_272 (P : Params) : eqFirst (KP P) 272 272 269 = true := by kernel_rfl
theorem kit_272_338 (P : Params) : kitOne (KP P) (.ref 272) (.ref 338) = some false := by kernel_rfl
theorem ef_272_338 (P : Params) : eqFirst (KP P) 272 338 269 = true := by kernel_rfl
theorem kit_272_379 (P : Params) : kitOne (KP P) (.ref 272) (.ref 379) = some false := by kernel_rfl
theorem ef_272_379 (P : Params) : eqFirst (KP P) 272 379 269 = true := by kernel_rfl
theorem kit_272_298 (P : Params) : kitOne (KP P) (.ref 272) (.ref 298) = some false := by kernel_rfl
theorem ef_272_298 (P : Params) : eqFirst (KP P) 272 298 269 = true := by kernel_rfl
theorem isd_338 (P : Params) : isiOk (KP P) 338 = true := by kernel_rfl
theorem eqf_338 (P : Params) : findIn (KP P) (.ref 338) "__eq__" = some (some (.ref 328)) := by kernel_rfl
theorem fnn_328 (P : Params) : isFn (KP P) (.ref 328) = true := by kernel_rfl
theorem kit_338_204 (P : Params) : kitOne (KP P) (.ref 338) (.ref 204) = some false := by kernel_rfl
theorem ef_338_204 (P : Params) : eqFirst (KP P) 338 204 328 = true := by kernel_rfl
theorem kit_338_238 (P : Params) : kitOne (KP P) (.ref 338) (.ref 238) = some false := by kernel_rfl
theorem kit_338_272 (P : Params) : kitOne (KP P) (.ref 338) (.ref 272) = some false := by kernel_rfl
theorem ef_338_272 (P : Params) : eqFirst (KP P) 338 272 328 = true := by kernel_rfl
theorem kit_338_338 (P : Params) : kitOne (KP P) (.ref 338) (.ref 338) = some true := by kernel_rfl
theorem ef_338_338 (P : Params) : eqFirst (KP P) 338 338 328 = true := by kernel_rfl
theorem kit_338_379 (P : Params) : kitOne (KP P) (.ref 338) (.ref 379) = some false := by kernel_rfl
theorem ef_338_379 (P : Params) : eqFirst (KP P) 338 379 328 = true := by kernel_rfl
theorem kit_338_298 (P : Params) : kitOne (KP P) (.ref 338) (.ref 298) = some false := by kernel_rfl
theorem ef_338_298 (P : Params) : eqFirst (KP P) 338 298 328 = true := by kernel_rfl
theorem isd_379 (P : Params) : isiOk (KP P) 379 = true := by kernel_rfl
theorem eqf_379 (P : Params) : findIn (KP P) (.ref 379) "__eq__" = some (some (.ref 359)) := by kernel_rfl
theorem fnn_359 (P : Params) : isFn (KP P) (.ref 359) = true := by kernel_rfl
theorem kit_379_204 (P : Params) : kitOne (KP P) (.ref 379) (.ref 204) = some false := by kernel_rfl
theorem ef_379_204 (P : Params) : eqFirst (KP P) 379 204 359 = true := by kernel_rfl
theorem kit_379_238 (P : Params) : kitOne (KP P) (.ref 379) (.ref 238) = some false := by kernel_rfl
theorem kit_379_272 (P : Params) : kitOne (KP P) (.ref 379) (.ref 272) = some false := by kernel_rfl
theorem ef_379_272 (P : Params) : eqFirst (KP P) 379 272 359 = true := by kernel_rfl
theorem kit_379_338 (P : Params) : kitOne (KP P) (.ref 379) (.ref 338) = some false := by kernel_rfl
theorem ef_379_338 (P : Params) : eqFirst (KP P) 379 338 359 = true := by kernel_rfl
theorem kit_379_379 (P : Params) : kitOne (KP P) (.ref 379) (.ref 379) = some true := by kernel_rfl
theorem ef_379_379 (P : Params) : eqFirst (KP P) 379 379 359 = true := by kernel_rfl
theorem kit_379_298 (P : Params) : kitOne (KP P) (.ref 379) (.ref 298) = some false := by kernel_rfl
theorem ef_379_298 (P : Params) : eqFirst (KP P) 379 298 359 = true := by kernel_rfl
theorem isd_298 (P : Params) : isiOk (KP P) 298 = true := by kernel_rfl
theorem eqf_298 (P : Params) : findIn (KP P) (.ref 298) "__eq__" = some (some (.ref 288)) := by kernel_rfl
theorem fnn_288 (P : Params) : isFn (KP P) (.ref 288) = true := by kernel_rfl
theorem kit_298_204 (P : Params) : kitOne (KP P) (.ref 298) (.ref 204) = some false := by kernel_rfl
theorem ef_298_204 (P : Params) : eqFirst (KP P) 298 204 288 = true := by kernel_rfl
theorem kit_298_238 (P : Params) : kitOne (KP P) (.ref 298) (.ref 238) = some false := by kernel_rfl
theorem kit_298_272 (P : Params) : kitOne (KP P) (.ref 298) (.ref 272) = some false := by kernel_rfl
theorem ef_298_272 (P : Params) : eqFirst (KP P) 298 272 288 = true := by kernel_rfl
theorem kit_298_338 (P : Params) : kitOne (KP P) (.ref 298) (.ref 338) = some false := by kernel_rfl
theorem ef_298_338 (P : Params) : eqFirst (KP P) 298 338 288 = true := by kernel_rfl
theorem kit_298_379 (P : Params) : kitOne (KP P) (.ref 298) (.ref 379) = some false := by kernel_rfl
theorem ef_298_379 (P : Params) : eqFirst (KP P) 298 379 288 = true := by kernel_rfl
theorem kit_298_298 (P : Params) : kitOne (KP P) (.ref 298) (.ref 298) = some true := by kernel_rfl
theorem ef_298_298 (P : Params) : eqFirst (KP P) 298 298 288 = true := by kernel_rfl
theorem isd_161 (P : Params) : isiOk (KP P) 161 = true := by kernel_rfl
theorem eqf_161 (P : Params) : findIn (KP P) (.ref 161) "__eq__" = some (some (.ref 137)) := by kernel_rfl
theorem fnn_137 (P : Params) : isFn (KP P) (.ref 137) = true := by kernel_rfl
theorem kit_161_161 (P : Params) : kitOne (KP P) (.ref 161) (.ref 161) = some true := by kernel_rfl
theorem ef_161_161 (P : Params) : eqFirst (KP P) 161 161 137 = true := by kernel_rfl
theorem isi_top (P : Params) : isiTop (KP P) = true := by kernel_rfl
local macro_rules | `(tactic| k_subL) => `(tactic| first | assumption | with_reducible exact put_self | (with_reducible apply put_ne; (case h => kernel_rfl); (case e => k_subL)))
local macro_rules | `(tactic| ktu_offI) => `(tactic| first | exact Le.refl _ | assumption | (refine Le.trans ?_ (Le.setG (by assumption)); ktu_offI) | (refine Le.trans ?_ (by assumption); ktu_offI))
local macro_rules | `(tactic| ktu_offL) => `(tactic| first | assumption | (refine Inst.mono (by assumption) ?_; ktu_offI))
local macro_rules | `(tactic| lcg_off) => `(tactic| first | assumption | exact setG_self | (refine Tup.mono (by assumption) ?_; ktu_offI))
local macro_rules | `(tactic| tlg_ne) => `(tactic| first | assumption | exact setG_self | (refine Lst.mono (by assumption) ?_; ktu_offI))
local macro_rules | `(tactic| k_memK) => `(tactic| first | exact List.Mem.head _ | (refine List.Mem.tail _ ?_; k_memK))
local macro_rules | `(tactic| k_clsL) => `(tactic| first | assumption | exact Or.inl (by tlg_ne) | exact Or.inr (by k_memK))
local macro_rules | `(tactic| kct_strs) => `(tactic| first | with_reducible exact putKv_nil | with_reducible exact putKv_same | (with_reducible apply putKv_ne; (case h => kernel_rfl); (case e => kct_strs)))
local macro_rules | `(tactic| krn_off) => `(tactic| first | assumption | exact setG_self | (with_reducible refine Le.pass (Le.setG (by assumption)) ?_; krn_off) | (with_reducible refine Le.pass (by assumption) ?_; krn_off))
local macro_rules | `(tactic| tb_rel) => `(tactic| first
  | with_reducible refine T.execs_cons ?_
  | with_reducible refine T.execs_nil ?_
  | with_reducible refine ExecK.next ?_
  | with_reducible refine ExecK.ret ?_
  | with_reducible refine ExecK.cont ?_
  | with_reducible refine T.return_ ?_
  | with_reducible refine T.if_ ?_
  | with_reducible refine T.continue_ ?_
  | with_reducible refine T.assert_ ?_
  | (first
  | ((with_reducible refine' T.glob ?O ?l ?e ?k ?x ?_); (case O => assumption); (case e => (with_reducible first | exact gl_is_named_instance _ | exact gl_flatten_nested_unions _ | exact gl_expand_type _ | exact gl_expand_type_by_instance _ | exact gl_remove_trivial _ | exact gl_map_instance_to_supertype _ | exact gl_map_instance_to_supertypes _ | exact gl_class_derivation_paths _ | exact gl_map_instance_to_direct_supertypes _ | exact gl_is_subtype _ | exact gl_is_proper_subtype _ | exact gl_is_equivalent _ | exact gl_is_same_type _ | exact gl__is_subtype _ | exact gl_check_type_parameter _ | exact gl__law_names _ | exact gl__law_draw _ | exact gl__law_tree _ | exact gl__law_moved _ | exact gl__law_put _ | exact gl__law_below _ | exact gl__law_type _ | exact gl_ClassDef _ | exact gl_TypeInfo _ | exact gl_TypeOfAny _ | exact gl_Type _ | exact gl_ProperType _ | exact gl_TypeVarId _ | exact gl_TypeVarType _ | exact gl_AnyType _ | exact gl_UninhabitedType _ | exact gl_NoneType _ | exact gl_Instance _ | exact gl_UnionType _ | exact gl_TypeTranslator _ | exact gl_ExpandTypeVisitor _ | exact gl_SubtypeVisitor _)); (case l => assumption); (case k => kernel_rfl); (case x => kernel_rfl))
  | ((with_reducible refine' T.bltn ?O ?l ?e ?b ?k ?x ?_); (case O => assumption); (case e => (with_reducible first | exact bl_isinstance _ | exact bl_len _ | exact bl_zip _ | exact bl_any _ | exact bl_all _ | exact bl_tuple _ | exact bl_list _ | exact bl_reversed _ | exact bl_range _ | exact bl_enumerate _ | exact bl_str _)); (case b => (with_reducible first | exact bv_isinstance | exact bv_len | exact bv_zip | exact bv_any | exact bv_all | exact bv_tuple | exact bv_list | exact bv_reversed | exact bv_range | exact bv_enumerate | exact bv_str)); (case l => assumption); (case k => kernel_rfl); (case x => kernel_rfl))
  | ((with_reducible refine' T.var ?O ?l ?k ?x ?v ?_); (case O => assumption); (case l => assumption); (case k => kernel_rfl); (case x => kernel_rfl); (case v => k_subL)))
  | ((with_reducible show IfK _ _ _) <;> first
  | with_reducible refine IfK.t ?_
  | with_reducible refine IfK.f ?_
  | refine IfK.t ?_
  | refine IfK.f ?_)
  | ((with_reducible refine' T.assign_name ?s ?w ?_); (case s => exact fun _ => by kernel_rfl); (case w => exact fun _ => by kernel_rfl))
  | ((with_reducible refine' T.assign_attr ?s ?w ?_); (case s => exact fun _ => by kernel_rfl); (case w => exact fun _ => by kernel_rfl))
  | ((with_reducible refine' T.assign_sub ?s ?w ?_); (case s => exact fun _ => by kernel_rfl); (case w => exact fun _ => by kernel_rfl))
  | ((with_reducible refine' T.expr_ ?k ?s ?_); (case k => exact Cx.Ok.kind (by assumption)); (case s => exact fun _ => by kernel_rfl))
  | (with_reducible refine T.const_int fun _ => ?_)
  | (with_reducible refine T.const_str fun _ => ?_)
  | with_reducible refine T.const_bool ?_
  | with_reducible refine T.const_none ?_
  | with_reducible refine T.isTrue_not ?_
  | with_reducible refine T.isTrue_boolop ?_
  | with_reducible refine T.allTrue_nil_and ?_
  | with_reducible refine T.allTrue_nil_or ?_
  | with_reducible refine T.allTrue_and ?_
  | with_reducible refine T.allTrue_or ?_
  | ((with_reducible refine' T.isTrue_compare ?b ?_); (case b => kernel_rfl))
  | ((with_reducible refine' T.isTrue_val ?b ?_); (case b => kernel_rfl))
  | with_reducible refine T.truthy_bool ?_
  | with_reducible refine T.truthy_none ?_
  | ((with_reducible refine' T.compare ?b ?_); (case b => kernel_rfl))
  | with_reducible refine T.binop ?_
  | with_reducible refine T.unop ?_
  | with_reducible refine T.notOp ?_
  | with_reducible refine T.ifExp ?_
  | with_reducible refine T.boolOp ?_
  | with_reducible refine T.boolOp_one ?_
  | with_reducible refine T.boolOp_and ?_
  | with_reducible refine T.boolOp_or ?_
  | with_reducible refine T.items_nil ?_
  | ((with_reducible refine' T.items_cons ?b ?_); (case b => kernel_rfl))
  | with_reducible refine T.list ?_
  | with_reducible refine T.tuple ?_
  | (first
  | ((with_reducible refine' T.cw0K ?O ?k ?p ?_); (case O => assumption); (case k => (with_reducible first | exact kp_61 _ | exact kp_194 _ | exact kp_228 _ | exact kp_262 _ | exact kp_295 _ | exact kp_321 _ | exact kp_335 _ | exact kp_376 _ | exact kp_388 _ | exact kp_395 _ | exact kp_409 _ | exact kp_416 _ | exact kp_423 _ | exact kp_449 _ | exact kp_463 _ | exact kp_470 _ | exact kp_491 _ | exact kp_498 _ | exact kp_505 _ | exact kp_517 _ | exact kp_524 _ | exact kp_531 _ | exact kp_538 _ | exact kp_545 _ | exact kp_553 _ | exact kp_560 _ | exact kp_567 _ | exact kp_572 _ | exact kp_577 _ | exact kp_584 _ | exact kp_605 _ | exact kp_612 _ | exact kp_619 _ | exact kp_626 _ | exact kp_633 _ | exact kp_640 _ | exact kp_645 _ | exact kp_659 _ | exact kp_666 _ | exact kp_673 _ | exact kp_678 _ | exact kp_683 _ | exact kp_688 _ | exact kp_693 _ | exact kp_698 _ | exact kp_38 _ | exact kp_64 _ | exact kp_161 _ | exact kp_508 _ | exact kp_648 _ | exact kp_204 _ | exact kp_238 _ | exact kp_272 _ | exact kp_338 _ | exact kp_379 _ | exact kp_298 _)); (case p => kernel_rfl))
  | ((with_reducible refine' T.cw1K ?O ?k ?p ?_); (case O => assumption); (case k => (with_reducible first | exact kp_61 _ | exact kp_194 _ | exact kp_228 _ | exact kp_262 _ | exact kp_295 _ | exact kp_321 _ | exact kp_335 _ | exact kp_376 _ | exact kp_388 _ | exact kp_395 _ | exact kp_409 _ | exact kp_416 _ | exact kp_423 _ | exact kp_449 _ | exact kp_463 _ | exact kp_470 _ | exact kp_491 _ | exact kp_498 _ | exact kp_505 _ | exact kp_517 _ | exact kp_524 _ | exact kp_531 _ | exact kp_538 _ | exact kp_545 _ | exact kp_553 _ | exact kp_560 _ | exact kp_567 _ | exact kp_572 _ | exact kp_577 _ | exact kp_584 _ | exact kp_605 _ | exact kp_612 _ | exact kp_619 _ | exact kp_626 _ | exact kp_633 _ | exact kp_640 _ | exact kp_645 _ | exact kp_659 _ | exact kp_666 _ | exact kp_673 _ | exact kp_678 _ | exact kp_683 _ | exact kp_688 _ | exact kp_693 _ | exact kp_698 _ | exact kp_38 _ | exact kp_64 _ | exact kp_161 _ | exact kp_508 _ | exact kp_648 _ | exact kp_204 _ | exact kp_238 _ | exact kp_272 _ | exact kp_338 _ | exact kp_379 _ | exact kp_298 _)); (case p => kernel_rfl))
  | ((with_reducible refine' T.cw1Kkw ?O ?k ?e ?_); (case O => assumption); (case k => (with_reducible first | exact kp_61 _ | exact kp_194 _ | exact kp_228 _ | exact kp_262 _ | exact kp_295 _ | exact kp_321 _ | exact kp_335 _ | exact kp_376 _ | exact kp_388 _ | exact kp_395 _ | exact kp_409 _ | exact kp_416 _ | exact kp_423 _ | exact kp_449 _ | exact kp_463 _ | exact kp_470 _ | exact kp_491 _ | exact kp_498 _ | exact kp_505 _ | exact kp_517 _ | exact kp_524 _ | exact kp_531 _ | exact kp_538 _ | exact kp_545 _ | exact kp_553 _ | exact kp_560 _ | exact kp_567 _ | exact kp_572 _ | exact kp_577 _ | exact kp_584 _ | exact kp_605 _ | exact kp_612 _ | exact kp_619 _ | exact kp_626 _ | exact kp_633 _ | exact kp_640 _ | exact kp_645 _ | exact kp_659 _ | exact kp_666 _ | exact kp_673 _ | exact kp_678 _ | exact kp_683 _ | exact kp_688 _ | exact kp_693 _ | exact kp_698 _ | exact kp_38 _ | exact kp_64 _ | exact kp_161 _ | exact kp_508 _ | exact kp_648 _ | exact kp_204 _ | exact kp_238 _ | exact kp_272 _ | exact kp_338 _ | exact kp_379 _ | exact kp_298 _)); (case e => rfl))
  | ((with_reducible refine' T.cw0B ?p ?_); (case p => kernel_rfl))
  | ((with_reducible refine' T.cw1B ?p ?_); (case p => kernel_rfl))
  | ((with_reducible refine' T.cw0T ?p ?_); (case p => kernel_rfl)))
  | with_reducible refine T.call_name ?_
  | ((with_reducible refine' T.callAttr ?b ?_); (case b => kernel_rfl))
  | ((with_reducible refine' T.attribute ?b ?_); (case b => kernel_rfl))
  | with_reducible refine T.subscript ?_
  | (((with_reducible refine' T.attr ?O ?I ?p ?v ?h ?_); (case O => assumption); (case I => ktu_offL); (case p => (with_reducible first | exact at_38_type_vars _ | exact at_64_fullname _ | exact at_64_defn _ | exact at_64_type_vars _ | exact at_64_bases _ | exact at_64_mro _ | exact at_161_raw_id _ | exact at_161_meta_level _ | exact at_204_name _ | exact at_204_id _ | exact at_204_upper_bound _ | exact at_204_values _ | exact at_204_variance _ | exact at_238_type_of_any _ | exact at_238_source_any _ | exact at_272_ambiguous _ | exact at_338_type _ | exact at_338_args _ | exact at_379_items _ | exact at_508_variables _ | exact at_648_right _ | exact at_648_proper_subtype _)); (case v => rfl); (case h => rfl)))
  | (((with_reducible refine' T.method ?O ?I ?p ?v ?_); (case O => assumption); (case I => ktu_offL); (case p => (with_reducible first | exact mt_64_has_base _ | exact mt_204_accept _ | exact mt_238_accept _ | exact mt_272_accept _ | exact mt_298_accept _ | exact mt_338_accept _ | exact mt_338_copy_modified _ | exact mt_379_accept _ | exact mt_508_visit_any _ | exact mt_508_visit_none_type _ | exact mt_508_visit_uninhabited_type _ | exact mt_508_translate_type_list _ | exact mt_508_visit_instance _ | exact mt_508_visit_type_var _ | exact mt_508_visit_union_type _ | exact mt_648__is_subtype _ | exact mt_648_visit_any _ | exact mt_648_visit_none_type _ | exact mt_648_visit_uninhabited_type _ | exact mt_648_visit_instance _ | exact mt_648_visit_type_var _ | exact mt_648_visit_union_type _)); (case v => rfl)))
  | (((with_reducible refine' T.stVar ?O ?W ?l ?k ?_); (case O => assumption); (case W => assumption); (case l => assumption); (case k => kernel_rfl)))
  | (((with_reducible refine' T.setAttr0 ?O ?x ?s ?z ?p ?_); (case O => assumption); (case x => krn_off); (case s => (with_reducible first | exact st_38_type_vars _ | exact st_64_fullname _ | exact st_64_defn _ | exact st_64_type_vars _ | exact st_64_bases _ | exact st_64_mro _ | exact st_161_raw_id _ | exact st_161_meta_level _ | exact st_204_name _ | exact st_204_id _ | exact st_204_upper_bound _ | exact st_204_values _ | exact st_204_variance _ | exact st_238_type_of_any _ | exact st_238_source_any _ | exact st_272_ambiguous _ | exact st_338_type _ | exact st_338_args _ | exact st_379_items _ | exact st_508_variables _ | exact st_648_right _ | exact st_648_proper_subtype _)); (case z => kernel_rfl); (case p => kct_strs)))
  | (((with_reducible refine' T.isinst ?O ?I ?D ?T ?e ?_); (case O => assumption); (case I => ktu_offL); (case D => (with_reducible first | exact isd_204 _ | exact isd_238 _ | exact isd_272 _ | exact isd_338 _ | exact isd_379 _ | exact isd_298 _ | exact isd_161 _)); (case T => exact isi_top _); (case e => (with_reducible first | exact kit_204_204 _ | exact kit_204_238 _ | exact kit_204_272 _ | exact kit_204_338 _ | exact kit_204_379 _ | exact kit_204_298 _ | exact kit_238_204 _ | exact kit_238_238 _ | exact kit_238_272 _ | exact kit_238_338 _ | exact kit_238_379 _ | exact kit_238_298 _ | exact kit_272_204 _ | exact kit_272_238 _ | exact kit_272_272 _ | exact kit_272_338 _ | exact kit_272_379 _ | exact kit_272_298 _ | exact kit_338_204 _ | exact kit_338_238 _ | exact kit_338_272 _ | exact kit_338_338 _ | exact kit_338_379 _ | exact kit_338_298 _ | exact kit_379_204 _ | exact kit_379_238 _ | exact kit_379_272 _ | exact kit_379_338 _ | exact kit_379_379 _ | exact kit_379_298 _ | exact kit_298_204 _ | exact kit_298_238 _ | exact kit_298_272 _ | exact kit_298_338 _ | exact kit_298_379 _ | exact kit_298_298 _ | exact kit_161_161 _))))
  | with_reducible refine T.eqI ?_
  | with_reducible refine T.neI ?_
  | with_reducible refine T.eqS ?_
  | (with_reducible refine T.addI fun _ => ?_))
local macro_rules | `(tactic| tb_start) => `(tactic| repeat' tb_rel)
section
variable {prog : Program} {w : World} {g : G} {n : Nat}
def Cl (g : G) (C : Addr) : Prop := ∃ d, g C = some (.inst 64 d)
theorem Cl.mono {g g' : G} {C : Addr} (h : Cl g C) (l : Le g g') : Cl g' C := let ⟨d, e⟩ := h; ⟨d, l _ _ e⟩
def TvId (g : G) (a : Addr) (i : Int) : Prop := ∃ t u, Inst g a 161 [("raw_id", .int i t), ("meta_level", .int 0 u)]
theorem TvId.mono {g g' : G} {a : Addr} {i : Int} (h : TvId g a i) (l : Le g g') : TvId g' a i := let ⟨t, u, e⟩ := h; ⟨t, u, e.mono l⟩
theorem TvId.inj {g : G} {d : Addr} {i j : Int} (h : TvId g d i) (k : TvId g d j) : i = j := by
  obtain ⟨t, u, D, a, b⟩ := h
  obtain ⟨t', u', D', a', b'⟩ := k
  rw [a] at a'; cases a'
  rw [b] at b'; cases b'; rfl
theorem refs_get {as : List Addr} {i : Nat} {v : Value} (h : (as.map Value.ref)[i]? = some v) : ∃ a, as[i]? = some a ∧ v = .ref a := by
  rw [List.getElem?_map] at h
  obtain ⟨a, e, rfl⟩ := Option.map_eq_some_iff.mp h
  exact ⟨a, e, rfl⟩
/-- one class of the text's world, as an object -/
structure ClsA (g : G) (C : Addr) (nm : Str) (tvs bs mro : List Addr) : Prop where
  obj : ∃ t dd tvl nml bl ml names, Inst g C 64 [("fullname", .str nm t), ("defn", .ref dd), ("type_vars", .ref nml), ("bases", .ref bl), ("mro", .ref ml)] ∧ Inst g dd 38 [("type_vars", .ref tvl)] ∧
    Lst g tvl (tvs.map .ref) ∧ Lst g nml names ∧ names.length = tvs.length ∧ Lst g bl (bs.map .ref) ∧ Lst g ml (mro.map .ref)
  few : tvs.length ≤ 9 ∧ bs.length ≤ 9 ∧ mro.length ≤ 99
theorem ClsA.mono {g g' : G} {C : Addr} {nm : Str} {tvs bs mro : List Addr} (h : ClsA g C nm tvs bs mro) (l : Le g g') : ClsA g' C nm tvs bs mro :=
  ⟨let ⟨t, dd, tvl, nml, bl, ml, names, a, b, c, d, e, f, h⟩ := h.obj; ⟨t, dd, tvl, nml, bl, ml, names, a.mono l, b.mono l, c.mono l, d.mono l, e, f.mono l, h.mono l⟩, h.few⟩
theorem ClsA.cl {g : G} {C : Addr} {nm : Str} {tvs bs mro : List Addr} (h : ClsA g C nm tvs bs mro) : Cl g C := by
  obtain ⟨t0, dd, tvl, nml, bl, ml, names, ⟨d, o1, _⟩, _⟩ := h.obj
  exact ⟨d, o1⟩
/-- an object of a class, with its arguments -/
def InstOf (g : G) (x C : Addr) (as : List Addr) : Prop := ∃ e, Inst g x 338 [("type", .ref C), ("args", .ref e)] ∧ Tup g e (as.map .ref)
theorem InstOf.mono {g g' : G} {x C : Addr} {as : List Addr} (h : InstOf g x C as) (l : Le g g') : InstOf g' x C as := let ⟨e, a, b⟩ := h; ⟨e, a.mono l, b.mono l⟩
def NamV (g : G) (tvs : List Addr) : Prop := ∀ (j : Nat) (tv : Addr), tvs[j]? = some tv → ∃ nm t0 d ub vl v t1, Inst g tv 204 [("name", .str nm t0), ("id", .ref d), ("upper_bound", .ref ub), ("values", .ref vl), ("variance", .int v t1)]
theorem NamV.mono {g g' : G} {tvs : List Addr} (h : NamV g tvs) (l : Le g g') : NamV g' tvs := fun j tv e => let ⟨nm, t0, d, ub, vl, v, t1, i⟩ := h j tv e; ⟨nm, t0, d, ub, vl, v, t1, i.mono l⟩

end
section
variable {prog : Program} {w : World} {g : G} {n : Nat}
theorem mk_TypeVarId {i : Int} {t : Tok} : Pu prog w (KP w.params) 5 (call (.ref 161) [.int i t] []) (fun r g' => ∃ x, r = .ref x ∧ TvId g' x i) g := by
  refine Pu.make (n := 3) (fI := 130) (binds := fun x => [("self", .ref x), ("raw_id", .int i t), ("meta_level", .int 0 _)]) (mk_161 _) (in_161 _) (ty_130 _) rfl ⟨rfl, rfl, rfl, rfl, rfl, rfl, by kernel_rfl, by decide +kernel, by kernel_rfl⟩ rfl (fun s x X => binds_K X rfl rfl rfl rfl rfl) (fun x => rfl) fun x d c O W hS hx hd => ?_
  dsimp only [ofBinds, List.foldl_cons, List.foldl_nil] at hS ⊢
  tb_start
  exact ⟨rfl, _, rfl, fun g'' l I => ⟨x, rfl, _, _, I⟩⟩
theorem mk_ClassDef {v : Value} : Pu prog w (KP w.params) 5 (call (.ref 38) [v] []) (fun r g' => ∃ x, r = .ref x ∧ Inst g' x 38 [("type_vars", v)]) g := by
  refine Pu.make (n := 3) (fI := 35) (binds := fun x => [("self", .ref x), ("type_vars", v)]) (mk_38 _) (in_38 _) (ty_35 _) rfl ⟨rfl, rfl, rfl, rfl, rfl, rfl, by kernel_rfl, by decide +kernel, by kernel_rfl⟩ rfl (fun s x X => BindsTo.of_eq rfl) (fun x => rfl) fun x d c O W hS hx hd => ?_
  dsimp only [ofBinds, List.foldl_cons, List.foldl_nil] at hS ⊢
  tb_start
  exact ⟨rfl, _, rfl, fun g'' l I => ⟨x, rfl, I⟩⟩
theorem mk_TypeVarType {nm : Str} {t : Tok} {d vl ub : Addr} {i : Int} (hd : TvId g d i) : Pu prog w (KP w.params) 5 (call (.ref 204) [.str nm t, .ref d, .ref vl, .ref ub] []) (fun r g' => ∃ x v, r = .ref x ∧ Inst g' x 204 [("name", .str nm t), ("id", .ref d), ("upper_bound", .ref ub), ("values", .ref vl), ("variance", .int 0 v)]) g := by
  refine Pu.make (n := 3) (fI := 180) (binds := fun x => [("self", .ref x), ("name", .str nm t), ("own", .ref d), ("values", .ref vl), ("upper_bound", .ref ub), ("variance", .int 0 _)]) (mk_204 _) (in_204 _) (ty_180 _) rfl ⟨rfl, rfl, rfl, rfl, rfl, rfl, by kernel_rfl, by decide +kernel, by kernel_rfl⟩ rfl (fun s x X => binds_K X rfl rfl rfl rfl rfl) (fun x => rfl) fun x d c O W hS hx hd => ?_
  dsimp only [ofBinds, List.foldl_cons, List.foldl_nil] at hS ⊢
  tb_start
  exact ⟨rfl, _, rfl, fun g'' l I => ⟨x, _, rfl, I⟩⟩
theorem mk_TypeVarType5 {nm : Str} {t : Tok} {d vl ub : Addr} {v : Int} {tv : Tok} : Pu prog w (KP w.params) 5 (call (.ref 204) [.str nm t, .ref d, .ref vl, .ref ub, .int v tv] []) (fun r g' => ∃ x, r = .ref x ∧ Inst g' x 204 [("name", .str nm t), ("id", .ref d), ("upper_bound", .ref ub), ("values", .ref vl), ("variance", .int v tv)]) g := by
  refine Pu.make (n := 3) (fI := 180) (binds := fun x => [("self", .ref x), ("name", .str nm t), ("own", .ref d), ("values", .ref vl), ("upper_bound", .ref ub), ("variance", .int v tv)]) (mk_204 _) (in_204 _) (ty_180 _) rfl ⟨rfl, rfl, rfl, rfl, rfl, rfl, by kernel_rfl, by decide +kernel, by kernel_rfl⟩ rfl (fun s x X => binds_K X rfl rfl rfl rfl rfl) (fun x => rfl) fun x d c O W hS hx hd => ?_
  dsimp only [ofBinds, List.foldl_cons, List.foldl_nil] at hS ⊢
  tb_start
  exact ⟨rfl, _, rfl, fun g'' l I => ⟨x, rfl, I⟩⟩
theorem mk_Bot : Pu prog w (KP w.params) 5 (call (.ref 272) [] []) (fun r g' => ∃ x, r = .ref x ∧ Inst g' x 272 [("ambiguous", .bool false)]) g := by
  refine Pu.make (n := 3) (fI := 255) (binds := fun x => [("self", .ref x), ("ambiguous", .bool false)]) (mk_272 _) (in_272 _) (ty_255 _) rfl ⟨rfl, rfl, rfl, rfl, rfl, rfl, by kernel_rfl, by decide +kernel, by kernel_rfl⟩ rfl (fun s x X => binds_K X rfl rfl rfl rfl rfl) (fun x => rfl) fun x d c O W hS hx hd => ?_
  dsimp only [ofBinds, List.foldl_cons, List.foldl_nil] at hS ⊢
  tb_start
  exact ⟨rfl, _, rfl, fun g'' l I => ⟨x, rfl, I⟩⟩
theorem mk_None : Pu prog w (KP w.params) 5 (call (.ref 298) [] []) (fun r g' => ∃ x, r = .ref x ∧ Inst g' x 298 []) g :=
  Pu.makeB (mk_298 _) (by kernel_rfl) fun x g' l hx I => ⟨x, rfl, I⟩
theorem mk_Instance {C a : Addr} {vs : List Value} (S : Lst g a vs) (hz : vs.length ≤ 900) : Pu prog w (KP w.params) 5 (call (.ref 338) [.ref C, .ref a] []) (fun r g' => ∃ x e, r = .ref x ∧ Inst g' x 338 [("type", .ref C), ("args", .ref e)] ∧ Tup g' e vs) g := by
  refine Pu.make (n := 3) (fI := 314) (binds := fun x => [("self", .ref x), ("typ", .ref C), ("args", .ref a)]) (mk_338 _) (in_338 _) (ty_314 _) rfl ⟨rfl, rfl, rfl, rfl, rfl, rfl, by kernel_rfl, by decide +kernel, by kernel_rfl⟩ rfl (fun s x X => BindsTo.of_eq rfl) (fun x => rfl) fun x d c O W hS hx hd => ?_
  dsimp only [ofBinds, List.foldl_cons, List.foldl_nil] at hS ⊢
  tb_start
  have S' : Lst (setG g x (.inst 338 d)) a vs := S.mono (Le.setG hx)
  refine T.tupleOf (.inl S') (by omega) fun b hb => ?_
  tb_start
  exact ⟨rfl, _, rfl, fun g'' l I => ⟨x, b, rfl, I, l _ _ setG_self⟩⟩
theorem mk_ExpandTypeVisitor {v : Value} : Pu prog w (KP w.params) 5 (call (.ref 508) [v] []) (fun r g' => ∃ x, r = .ref x ∧ Inst g' x 508 [("variables", v)]) g := by
  refine Pu.make (n := 3) (fI := 484) (binds := fun x => [("self", .ref x), ("variables", v)]) (mk_508 _) (in_508 _) (ty_484 _) rfl ⟨rfl, rfl, rfl, rfl, rfl, rfl, by kernel_rfl, by decide +kernel, by kernel_rfl⟩ rfl (fun s x X => BindsTo.of_eq rfl) (fun x => rfl) fun x d c O W hS hx hd => ?_
  dsimp only [ofBinds, List.foldl_cons, List.foldl_nil] at hS ⊢
  tb_start
  exact ⟨rfl, _, rfl, fun g'' l I => ⟨x, rfl, I⟩⟩
theorem mk_SubtypeVisitor {v : Value} {b : Bool} : Pu prog w (KP w.params) 5 (call (.ref 648) [v, .bool b] []) (fun r g' => ∃ x, r = .ref x ∧ Inst g' x 648 [("right", v), ("proper_subtype", .bool b)]) g := by
  refine Pu.make (n := 3) (fI := 598) (binds := fun x => [("self", .ref x), ("right", v), ("proper_subtype", .bool b)]) (mk_648 _) (in_648 _) (ty_598 _) rfl ⟨rfl, rfl, rfl, rfl, rfl, rfl, by kernel_rfl, by decide +kernel, by kernel_rfl⟩ rfl (fun s x X => BindsTo.of_eq rfl) (fun x => rfl) fun x d c O W hS hx hd => ?_
  dsimp only [ofBinds, List.foldl_cons, List.foldl_nil] at hS ⊢
  tb_start
  exact ⟨rfl, _, rfl, fun g'' l I => ⟨x, rfl, I⟩⟩
theorem bitXor_zero (i : Int) (h0 : 0 ≤ i) (h1 : i < 1000000) : Builtin.bitXor i (0 * 2 ^ (8 : Int).toNat) = i := by
  obtain ⟨k, rfl⟩ := Int.eq_ofNat_of_zero_le h0
  rw [Int.zero_mul]
  have b1 : ∀ x : Int, Builtin.bitNot x = -x - 1 := fun _ => rfl
  have b2 : ∀ x : Int, Builtin.bitNot (Builtin.bitNot x) = x := fun x => by rw [b1, b1]; omega
  have o : Builtin.bitOr (Int.ofNat k) 0 = Int.ofNat k := by
    unfold Builtin.bitOr Builtin.bitAnd
    have e1 : decide (0 ≤ Builtin.bitNot (Int.ofNat k)) = false := decide_eq_false (by rw [b1]; simp; omega)
    have e2 : decide (0 ≤ Builtin.bitNot 0) = false := decide_eq_false (by rw [b1]; omega)
    rw [e1, e2]
    simp only [b2]
    simp
  have a : Builtin.bitAnd (Int.ofNat k) 0 = 0 := by unfold Builtin.bitAnd; simp
  show Builtin.bitXor (Int.ofNat k) 0 = Int.ofNat k
  unfold Builtin.bitXor
  rw [o, a]; omega
theorem hashTv {x : Addr} {i : Int} (hx : TvId g x i) (h0 : 0 ≤ i) (h1 : i < 1000000) : Pu prog w (KP w.params) 4 (pyHash (.ref x)) (fun r g' => r = i ∧ g' = g) g := by
  obtain ⟨t, u, I⟩ := hx
  refine Pu.hash (f := 151) I (by kernel_rfl) (by kernel_rfl) h0 h1 ?_
  refine Fn.def (f := 151) (n := 3) (binds := [("self", .ref x)]) rfl ⟨rfl, rfl, rfl, rfl, rfl, rfl, by kernel_rfl, by decide +kernel, by kernel_rfl⟩ rfl (fun s X => BindsTo.of_eq rfl) rfl fun c O W hS => ?_
  dsimp only [ofBinds, List.foldl_cons, List.foldl_nil] at hS ⊢
  tb_start
  refine T.shlI (by decide) (by decide) (by decide) fun t1 => T.xorI fun t2 => ?_
  tb_start
  rw [bitXor_zero i h0 h1]
  exact ⟨⟨_, rfl⟩, rfl⟩

end
section
variable {prog : Program} {w : World} {g : G} {n : Nat}
/-- the names along an mro -/
def MroN (g : G) (mro : List Addr) (nms : List Str) : Prop := mro.length = nms.length ∧ ∀ (j : Nat) (c : Addr) (nm : Str), mro[j]? = some c → nms[j]? = some nm → ∃ tvs bs m, ClsA g c nm tvs bs m
theorem MroN.mono {g g' : G} {mro : List Addr} {nms : List Str} (h : MroN g mro nms) (l : Le g g') : MroN g' mro nms := ⟨h.1, fun j c nm a b => let ⟨x, y, z, q⟩ := h.2 j c nm a b; ⟨x, y, z, q.mono l⟩⟩
theorem hasBase {C : Addr} {nm fn : Str} {t : Tok} {tvs bs mro : List Addr} {nms : List Str} (hC : ClsA g C nm tvs bs mro) (hM : MroN g mro nms) :
    Pu prog w (KP w.params) 3 (call (.ref 61) [.ref C, .str fn t]) (fun r g' => r = .bool (nms.any (· == fn))) g := by
  obtain ⟨t0, dd, tvl, nml, bl, ml, names, o1, o2, o3, o4, o5, o6, o7⟩ := hC.obj
  refine Fn.def (f := 61) (n := 2) (binds := [("self", .ref C), ("fullname", .str fn t)]) rfl ⟨rfl, rfl, rfl, rfl, rfl, rfl, by kernel_rfl, by decide +kernel, by kernel_rfl⟩ rfl (fun s X => BindsTo.of_eq rfl) rfl fun c O W hS => ?_
  dsimp only [ofBinds, List.foldl_cons, List.foldl_nil] at hS ⊢
  tb_start
  refine T.for_ O W hS (fun _ => rfl) ?_
  tb_start
  refine Seqs.list O o7 ⟨fun j g' ρ' M => ρ' "fullname" = some (.str fn t) ∧ (nms.take j).any (· == fn) = false, ⟨by k_subL, by simp⟩, ?_, ?_⟩
  · rintro c' O' W' hS' j v g' ρ' M hj hv l ⟨v1, ha⟩
    obtain ⟨c, hc, rfl⟩ := refs_get hv
    have hjl : j < nms.length := by rw [← hM.1]; exact (List.getElem?_eq_some_iff.mp hc).1
    obtain ⟨tvs', bs', m', hc'⟩ := (hM.mono l).2 j c nms[j] hc (List.getElem?_eq_getElem hjl)
    obtain ⟨t0', dd', tvl', nml', bl', ml', names', p1, p2, p3, p4, p5, p6, p7⟩ := hc'.obj
    have htake : (nms.take (j + 1)).any (· == fn) = (nms[j] == fn) := by
      rw [List.take_add_one, List.getElem?_eq_getElem hjl, List.any_append, ha]; simp
    have hall : (nms[j] == fn) = true → nms.any (· == fn) = true := fun q => List.any_eq_true.mpr ⟨_, List.getElem_mem hjl, q⟩
    generalize nms[j] = nj at p1 htake hall
    refine T.assign_stored ?_
    tb_start
    refine IfK.split (fun q => ?_) fun q => ?_
    · tb_start
      rw [hall q]; rfl
    · tb_start
      exact ⟨by k_subL, by rw [htake, q]⟩
  · rintro g' ρ' M l ⟨v1, ha⟩
    refine ExecK.next ?_
    tb_start
    rw [List.length_map, hM.1, List.take_length] at ha
    show Value.bool false = _
    rw [ha]

end
section
variable {prog : Program} {w : World} {g : G} {n : Nat}
theorem T.eqData {K : Frag} {c : Cx} {ρ : Str → Option Value} {M : Mem} {a b : Value} {da db : PyData} {Q : Post Value} (O : c.Ok K (n + 8)) (ra : Rd g a da) (rb : Rd g b db) (sa : SeqAt.shaped da = true) (sb : SeqAt.shaped db = true) (h : Q (.bool (PyData.eqv da db)) g ρ M) :
    T prog w c (compareOp .Eq a b) Q g ρ M := T.tok fun s hA R k => by
  obtain ⟨as, ha⟩ := ra.reads hA.know
  obtain ⟨bs, hb⟩ := rb.reads hA.know
  exact eq_dataH ha hb sa sb (by have := O.room.units; omega) (k _ s.toks h)
def nmK : Nat → Str | 0 => "builtins.object" | 1 => "c1" | 2 => "c2" | 3 => "c3" | 4 => "box" | 5 => "sink" | _ => "cell"
def vrc : Nat → Int | 4 => 1 | 5 => 2 | _ => 0
/-- the addresses of the law's classes and variables -/
structure Wa where
  I : Nat → Addr
  V : Nat → Addr
structure Wk (g : G) (W : Wm) (X : Wa) : Prop where
  cls : ∀ k, k < 4 → ∃ bs mro, ClsA g (X.I k) (nmK k) [] bs mro ∧ MroN g mro ((W.up k).map nmK)
  app : ∀ v, 4 ≤ v → v ≤ 6 → ∃ tv bs mro nm t0 d ub vl t1, ClsA g (X.I v) (nmK v) [tv] bs mro ∧ MroN g mro [nmK v, nmK 0] ∧ Inst g tv 204 [("name", .str nm t0), ("id", .ref d), ("upper_bound", .ref ub), ("values", .ref vl), ("variance", .int (vrc v) t1)]
  inj : ∀ u v, u < 7 → v < 7 → X.I u = X.I v → u = v
  var : ∀ v, v < 2 → ∃ nm t0 d ub vl t1, Inst g (X.V v) 204 [("name", .str nm t0), ("id", .ref d), ("upper_bound", .ref ub), ("values", .ref vl), ("variance", .int 0 t1)] ∧ TvId g d v ∧ Lst g vl [] ∧ InstOf g ub (X.I (W.bnd v)) [] ∧ W.bnd v < 4
  upk : ∀ k, k < 4 → ∀ j ∈ W.up k, j < 4
theorem Wk.mono {g g' : G} {W : Wm} {X : Wa} (h : Wk g W X) (l : Le g g') : Wk g' W X :=
  ⟨fun k hk => let ⟨a, b, c, d⟩ := h.cls k hk; ⟨a, b, c.mono l, d.mono l⟩, fun v h1 h2 => let ⟨a, b, c, d, e, f, i, j, k, p, q, r⟩ := h.app v h1 h2; ⟨a, b, c, d, e, f, i, j, k, p.mono l, q.mono l, r.mono l⟩, h.inj,
    fun v hv => let ⟨a, b, c, d, e, f, i, j, k, p, q⟩ := h.var v hv; ⟨a, b, c, d, e, f, i.mono l, j.mono l, k.mono l, p.mono l, q⟩, h.upk⟩
theorem Wk.cl {W : Wm} {X : Wa} (h : Wk g W X) {k : Nat} (hk : k < 7) : Cl g (X.I k) := by
  by_cases q : k < 4
  · obtain ⟨_, _, c, _⟩ := h.cls k q; exact c.cl
  · obtain ⟨_, _, _, _, _, _, _, _, _, c, _⟩ := h.app k (by omega) (by omega); exact c.cl
mutual
inductive TyR (g : G) (X : Wa) : Addr → Tr → Prop
  | cls {a : Addr} {k : Nat} : k < 4 → InstOf g a (X.I k) [] → TyR g X a (.cls k)
  | app {a x : Addr} {v : Nat} {t : Tr} : 4 ≤ v → v ≤ 6 → InstOf g a (X.I v) [x] → TyR g X x t → TyR g X a (.app v t)
  | var {v : Nat} : v < 2 → TyR g X (X.V v) (.var v)
  | none {a : Addr} : Inst g a 298 [] → TyR g X a .none
  | bot {a : Addr} : Inst g a 272 [("ambiguous", .bool false)] → TyR g X a .bot
  | uni {a l : Addr} {as : List Addr} {p q : Tr} : Inst g a 379 [("items", .ref l)] → Lst g l (as.map .ref) → as.length ≤ 400 → TysR g X as (Tr.uni p q).leaves → TyR g X a (.uni p q)
inductive TysR (g : G) (X : Wa) : List Addr → List Tr → Prop
  | nil : TysR g X [] []
  | cons {a : Addr} {t : Tr} {as : List Addr} {ts : List Tr} : TyR g X a t → TysR g X as ts → TysR g X (a :: as) (t :: ts)
end
mutual
theorem TyR.mono {g g' : G} {X : Wa} (l : Le g g') : ∀ {a : Addr} {t : Tr}, TyR g X a t → TyR g' X a t
  | _, _, .cls h i => .cls h (i.mono l)
  | _, _, .app h k i t => .app h k (i.mono l) (t.mono l)
  | _, _, .var h => .var h
  | _, _, .none i => .none (i.mono l)
  | _, _, .bot i => .bot (i.mono l)
  | _, _, .uni i e z as => .uni (i.mono l) (e.mono l) z (as.mono l)
theorem TysR.mono {g g' : G} {X : Wa} (l : Le g g') : ∀ {as : List Addr} {ts : List Tr}, TysR g X as ts → TysR g' X as ts
  | _, _, .nil => .nil
  | _, _, .cons h t => .cons (h.mono l) (t.mono l)
end
theorem TysR.length {X : Wa} : ∀ {as : List Addr} {ts : List Tr}, TysR g X as ts → as.length = ts.length
  | _, _, .nil => rfl
  | _, _, .cons _ t => congrArg (· + 1) t.length
theorem TysR.get {X : Wa} : ∀ {as : List Addr} {ts : List Tr} {j : Nat} {a : Addr}, TysR g X as ts → as[j]? = some a → ∃ t, ts[j]? = some t ∧ TyR g X a t
  | _, _, 0, _, .cons h _, e => by cases e; exact ⟨_, rfl, h⟩
  | _, _, j + 1, _, .cons _ t, e => TysR.get (j := j) t e
  | _, _, _, _, .nil, e => by simp at e
theorem TysR.app {X : Wa} : ∀ {as bs : List Addr} {ts us : List Tr}, TysR g X as ts → TysR g X bs us → TysR g X (as ++ bs) (ts ++ us)
  | _, _, _, _, .nil, k => k
  | _, _, _, _, .cons h t, k => .cons h (t.app k)
/-- how deep a type is: a union counts one, however it is written -/
def Tr.ud : Tr → Nat | .uni a b => max a.ud b.ud | .app _ t => t.ud + (if t.isUni = true then 1 else 0) + 1 | .cls _ => 0 | .var _ => 0 | .none => 0 | .bot => 0
def Tr.dep (t : Tr) : Nat := t.ud + if t.isUni = true then 1 else 0
theorem dep_app {v : Nat} {t : Tr} : (Tr.app v t).dep = t.dep + 1 := rfl
theorem dep_uni {a b : Tr} : (Tr.uni a b).dep = max a.ud b.ud + 1 := rfl
theorem leaf_ud : ∀ (t : Tr), ∀ x ∈ t.leaves, x.ud ≤ t.ud
  | .uni a b, x, h => by
    rw [Tr.leaves] at h
    rw [Tr.ud]
    rcases List.mem_append.mp h with h | h
    · have := leaf_ud a x h; omega
    · have := leaf_ud b x h; omega
  | .cls _, x, h => by rw [Tr.leaves, List.mem_singleton] at h; rw [h]; exact Nat.le_refl _
  | .app _ _, x, h => by rw [Tr.leaves, List.mem_singleton] at h; rw [h]; exact Nat.le_refl _
  | .var _, x, h => by rw [Tr.leaves, List.mem_singleton] at h; rw [h]; exact Nat.le_refl _
  | .none, x, h => by rw [Tr.leaves, List.mem_singleton] at h; rw [h]; exact Nat.le_refl _
  | .bot, x, h => by rw [Tr.leaves, List.mem_singleton] at h; rw [h]; exact Nat.le_refl _
theorem dep_leaf {x : Tr} (h : x.isUni = false) : x.dep = x.ud := by unfold Tr.dep; rw [h]; rfl
theorem leaf_dep2 {a b x : Tr} (h : x ∈ (Tr.uni a b).leaves) : x.dep < (Tr.uni a b).dep := by
  have h1 := leaf_ud _ x h
  rw [dep_leaf (leaves_notUni _ x h), dep_uni]
  rw [Tr.ud] at h1
  omega
-- == of two kinds
def Decl (g : G) (r : Value) (g' : G) : Prop := (r = .notImplemented ∨ r = .bool false) ∧ g' = g
theorem dec_Instance {x y D : Addr} {kv kv' : List (Str × Value)} (I : Inst g x 338 kv) (J : Inst g y D kv') (hD : isiOk (KP w.params) D = true) (e : kitOne (KP w.params) (.ref D) (.ref 338) = some false) : Pu prog w (KP w.params) 2 (call (.ref 328) [.ref x, .ref y]) (fun r g' => Decl g r g') g := by
  refine Fn.def (f := 328) (n := 1) (binds := [("self", .ref x), ("other", .ref y)]) rfl ⟨rfl, rfl, rfl, rfl, rfl, rfl, by kernel_rfl, by decide +kernel, by kernel_rfl⟩ rfl (fun s X => BindsTo.of_eq rfl) rfl fun c O W hS => ?_
  dsimp only [ofBinds, List.foldl_cons, List.foldl_nil] at hS ⊢
  tb_start
  refine T.isinst O J hD (isi_top _) e ?_
  tb_start
  exact T.bltn (v := .notImplemented) O hS (by kernel_rfl) (by kernel_rfl) (by kernel_rfl) (by kernel_rfl) ⟨.inl rfl, rfl⟩
theorem dec_UnionType {x y D : Addr} {kv kv' : List (Str × Value)} (I : Inst g x 379 kv) (J : Inst g y D kv') (hD : isiOk (KP w.params) D = true) (e : kitOne (KP w.params) (.ref D) (.ref 379) = some false) : Pu prog w (KP w.params) 2 (call (.ref 359) [.ref x, .ref y]) (fun r g' => Decl g r g') g := by
  refine Fn.def (f := 359) (n := 1) (binds := [("self", .ref x), ("other", .ref y)]) rfl ⟨rfl, rfl, rfl, rfl, rfl, rfl, by kernel_rfl, by decide +kernel, by kernel_rfl⟩ rfl (fun s X => BindsTo.of_eq rfl) rfl fun c O W hS => ?_
  dsimp only [ofBinds, List.foldl_cons, List.foldl_nil] at hS ⊢
  tb_start
  refine T.isinst O J hD (isi_top _) e ?_
  tb_start
  exact T.bltn (v := .notImplemented) O hS (by kernel_rfl) (by kernel_rfl) (by kernel_rfl) (by kernel_rfl) ⟨.inl rfl, rfl⟩
theorem dec_TypeVarType {x y D : Addr} {kv kv' : List (Str × Value)} (I : Inst g x 204 kv) (J : Inst g y D kv') (hD : isiOk (KP w.params) D = true) (e : kitOne (KP w.params) (.ref D) (.ref 204) = some false) : Pu prog w (KP w.params) 2 (call (.ref 201) [.ref x, .ref y]) (fun r g' => Decl g r g') g := by
  refine Fn.def (f := 201) (n := 1) (binds := [("self", .ref x), ("other", .ref y)]) rfl ⟨rfl, rfl, rfl, rfl, rfl, rfl, by kernel_rfl, by decide +kernel, by kernel_rfl⟩ rfl (fun s X => BindsTo.of_eq rfl) rfl fun c O W hS => ?_
  dsimp only [ofBinds, List.foldl_cons, List.foldl_nil] at hS ⊢
  tb_start
  refine T.isinst O J hD (isi_top _) e ?_
  tb_start
  exact T.bltn (v := .notImplemented) O hS (by kernel_rfl) (by kernel_rfl) (by kernel_rfl) (by kernel_rfl) ⟨.inl rfl, rfl⟩
theorem dec_NoneType {x y D : Addr} {kv kv' : List (Str × Value)} (I : Inst g x 298 kv) (J : Inst g y D kv') (hD : isiOk (KP w.params) D = true) (e : kitOne (KP w.params) (.ref D) (.ref 298) = some false) : Pu prog w (KP w.params) 2 (call (.ref 288) [.ref x, .ref y]) (fun r g' => Decl g r g') g := by
  refine Fn.def (f := 288) (n := 1) (binds := [("self", .ref x), ("other", .ref y)]) rfl ⟨rfl, rfl, rfl, rfl, rfl, rfl, by kernel_rfl, by decide +kernel, by kernel_rfl⟩ rfl (fun s X => BindsTo.of_eq rfl) rfl fun c O W hS => ?_
  dsimp only [ofBinds, List.foldl_cons, List.foldl_nil] at hS ⊢
  tb_start
  refine T.isinst O J hD (isi_top _) e ?_
  tb_start
  exact ⟨.inr rfl, rfl⟩
theorem dec_UninhabitedType {x y D : Addr} {kv kv' : List (Str × Value)} (I : Inst g x 272 kv) (J : Inst g y D kv') (hD : isiOk (KP w.params) D = true) (e : kitOne (KP w.params) (.ref D) (.ref 272) = some false) : Pu prog w (KP w.params) 2 (call (.ref 269) [.ref x, .ref y]) (fun r g' => Decl g r g') g := by
  refine Fn.def (f := 269) (n := 1) (binds := [("self", .ref x), ("other", .ref y)]) rfl ⟨rfl, rfl, rfl, rfl, rfl, rfl, by kernel_rfl, by decide +kernel, by kernel_rfl⟩ rfl (fun s X => BindsTo.of_eq rfl) rfl fun c O W hS => ?_
  dsimp only [ofBinds, List.foldl_cons, List.foldl_nil] at hS ⊢
  tb_start
  refine T.isinst O J hD (isi_top _) e ?_
  tb_start
  exact ⟨.inr rfl, rfl⟩
theorem crossEq {x y C D f f' : Addr} {kv kv' : List (Str × Value)} (I : Inst g x C kv) (J : Inst g y D kv') (hne : (C == D) = false) (hf : eqFirst (KP w.params) C D f = true) (hf' : findIn (KP w.params) (.ref D) "__eq__" = some (some (.ref f'))) (hff : isFn (KP w.params) (.ref f') = true)
    (h1 : Pu prog w (KP w.params) 2 (call (.ref f) [.ref x, .ref y]) (fun r g' => Decl g r g') g) (h2 : Pu prog w (KP w.params) 2 (call (.ref f') [.ref y, .ref x]) (fun r g' => Decl g r g') g) :
    Pu prog w (KP w.params) 2 (compareOp .Eq (.ref x) (.ref y)) (fun r g' => r = .bool false ∧ g' = g) g := by
  have hxy : x ≠ y := fun q => by
    subst q
    obtain ⟨d, i1, _⟩ := I
    obtain ⟨d', j1, _⟩ := J
    rw [i1] at j1
    cases j1
    simp at hne
  refine Pu.eqInst (n := 1) I J hf hf' hff (h1.mono (Nat.le_refl _) fun r g' _ ⟨q, e⟩ => ?_)
  subst e
  rcases q with rfl | rfl
  · refine h2.mono (Nat.le_refl _) fun r g' _ ⟨q, e⟩ => ?_
    subst e
    rcases q with rfl | rfl
    · exact ⟨by rw [decide_eq_false hxy], rfl⟩
    · exact ⟨rfl, rfl⟩
  · exact ⟨rfl, rfl⟩
theorem x_TypeVarType_UninhabitedType {x y : Addr} {kv kv' : List (Str × Value)} (I : Inst g x 204 kv) (J : Inst g y 272 kv') : Pu prog w (KP w.params) 2 (compareOp .Eq (.ref x) (.ref y)) (fun r g' => r = .bool false ∧ g' = g) g :=
  crossEq I J (by decide) (ef_204_272 _) (eqf_272 _) (fnn_269 _) (dec_TypeVarType I J (isd_272 _) (kit_272_204 _)) (dec_UninhabitedType J I (isd_204 _) (kit_204_272 _))
theorem x_TypeVarType_Instance {x y : Addr} {kv kv' : List (Str × Value)} (I : Inst g x 204 kv) (J : Inst g y 338 kv') : Pu prog w (KP w.params) 2 (compareOp .Eq (.ref x) (.ref y)) (fun r g' => r = .bool false ∧ g' = g) g :=
  crossEq I J (by decide) (ef_204_338 _) (eqf_338 _) (fnn_328 _) (dec_TypeVarType I J (isd_338 _) (kit_338_204 _)) (dec_Instance J I (isd_204 _) (kit_204_338 _))
theorem x_TypeVarType_UnionType {x y : Addr} {kv kv' : List (Str × Value)} (I : Inst g x 204 kv) (J : Inst g y 379 kv') : Pu prog w (KP w.params) 2 (compareOp .Eq (.ref x) (.ref y)) (fun r g' => r = .bool false ∧ g' = g) g :=
  crossEq I J (by decide) (ef_204_379 _) (eqf_379 _) (fnn_359 _) (dec_TypeVarType I J (isd_379 _) (kit_379_204 _)) (dec_UnionType J I (isd_204 _) (kit_204_379 _))
theorem x_TypeVarType_NoneType {x y : Addr} {kv kv' : List (Str × Value)} (I : Inst g x 204 kv) (J : Inst g y 298 kv') : Pu prog w (KP w.params) 2 (compareOp .Eq (.ref x) (.ref y)) (fun r g' => r = .bool false ∧ g' = g) g :=
  crossEq I J (by decide) (ef_204_298 _) (eqf_298 _) (fnn_288 _) (dec_TypeVarType I J (isd_298 _) (kit_298_204 _)) (dec_NoneType J I (isd_204 _) (kit_204_298 _))
theorem x_UninhabitedType_TypeVarType {x y : Addr} {kv kv' : List (Str × Value)} (I : Inst g x 272 kv) (J : Inst g y 204 kv') : Pu prog w (KP w.params) 2 (compareOp .Eq (.ref x) (.ref y)) (fun r g' => r = .bool false ∧ g' = g) g :=
  crossEq I J (by decide) (ef_272_204 _) (eqf_204 _) (fnn_201 _) (dec_UninhabitedType I J (isd_204 _) (kit_204_272 _)) (dec_TypeVarType J I (isd_272 _) (kit_272_204 _))
theorem x_UninhabitedType_Instance {x y : Addr} {kv kv' : List (Str × Value)} (I : Inst g x 272 kv) (J : Inst g y 338 kv') : Pu prog w (KP w.params) 2 (compareOp .Eq (.ref x) (.ref y)) (fun r g' => r = .bool false ∧ g' = g) g :=
  crossEq I J (by decide) (ef_272_338 _) (eqf_338 _) (fnn_328 _) (dec_UninhabitedType I J (isd_338 _) (kit_338_272 _)) (dec_Instance J I (isd_272 _) (kit_272_338 _))
theorem x_UninhabitedType_UnionType {x y : Addr} {kv kv' : List (Str × Value)} (I : Inst g x 272 kv) (J : Inst g y 379 kv') : Pu prog w (KP w.params) 2 (compareOp .Eq (.ref x) (.ref y)) (fun r g' => r = .bool false ∧ g' = g) g :=
  crossEq I J (by decide) (ef_272_379 _) (eqf_379 _) (fnn_359 _) (dec_UninhabitedType I J (isd_379 _) (kit_379_272 _)) (dec_UnionType J I (isd_272 _) (kit_272_379 _))
theorem x_UninhabitedType_NoneType {x y : Addr} {kv kv' : List (Str × Value)} (I : Inst g x 272 kv) (J : Inst g y 298 kv') : Pu prog w (KP w.params) 2 (compareOp .Eq (.ref x) (.ref y)) (fun r g' => r = .bool false ∧ g' = g) g :=
  crossEq I J (by decide) (ef_272_298 _) (eqf_298 _) (fnn_288 _) (dec_UninhabitedType I J (isd_298 _) (kit_298_272 _)) (dec_NoneType J I (isd_272 _) (kit_272_298 _))
theorem x_Instance_TypeVarType {x y : Addr} {kv kv' : List (Str × Value)} (I : Inst g x 338 kv) (J : Inst g y 204 kv') : Pu prog w (KP w.params) 2 (compareOp .Eq (.ref x) (.ref y)) (fun r g' => r = .bool false ∧ g' = g) g :=
  crossEq I J (by decide) (ef_338_204 _) (eqf_204 _) (fnn_201 _) (dec_Instance I J (isd_204 _) (kit_204_338 _)) (dec_TypeVarType J I (isd_338 _) (kit_338_204 _))
theorem x_Instance_UninhabitedType {x y : Addr} {kv kv' : List (Str × Value)} (I : Inst g x 338 kv) (J : Inst g y 272 kv') : Pu prog w (KP w.params) 2 (compareOp .Eq (.ref x) (.ref y)) (fun r g' => r = .bool false ∧ g' = g) g :=
  crossEq I J (by decide) (ef_338_272 _) (eqf_272 _) (fnn_269 _) (dec_Instance I J (isd_272 _) (kit_272_338 _)) (dec_UninhabitedType J I (isd_338 _) (kit_338_272 _))
theorem x_Instance_UnionType {x y : Addr} {kv kv' : List (Str × Value)} (I : Inst g x 338 kv) (J : Inst g y 379 kv') : Pu prog w (KP w.params) 2 (compareOp .Eq (.ref x) (.ref y)) (fun r g' => r = .bool false ∧ g' = g) g :=
  crossEq I J (by decide) (ef_338_379 _) (eqf_379 _) (fnn_359 _) (dec_Instance I J (isd_379 _) (kit_379_338 _)) (dec_UnionType J I (isd_338 _) (kit_338_379 _))
theorem x_Instance_NoneType {x y : Addr} {kv kv' : List (Str × Value)} (I : Inst g x 338 kv) (J : Inst g y 298 kv') : Pu prog w (KP w.params) 2 (compareOp .Eq (.ref x) (.ref y)) (fun r g' => r = .bool false ∧ g' = g) g :=
  crossEq I J (by decide) (ef_338_298 _) (eqf_298 _) (fnn_288 _) (dec_Instance I J (isd_298 _) (kit_298_338 _)) (dec_NoneType J I (isd_338 _) (kit_338_298 _))
theorem x_UnionType_TypeVarType {x y : Addr} {kv kv' : List (Str × Value)} (I : Inst g x 379 kv) (J : Inst g y 204 kv') : Pu prog w (KP w.params) 2 (compareOp .Eq (.ref x) (.ref y)) (fun r g' => r = .bool false ∧ g' = g) g :=
  crossEq I J (by decide) (ef_379_204 _) (eqf_204 _) (fnn_201 _) (dec_UnionType I J (isd_204 _) (kit_204_379 _)) (dec_TypeVarType J I (isd_379 _) (kit_379_204 _))
theorem x_UnionType_UninhabitedType {x y : Addr} {kv kv' : List (Str × Value)} (I : Inst g x 379 kv) (J : Inst g y 272 kv') : Pu prog w (KP w.params) 2 (compareOp .Eq (.ref x) (.ref y)) (fun r g' => r = .bool false ∧ g' = g) g :=
  crossEq I J (by decide) (ef_379_272 _) (eqf_272 _) (fnn_269 _) (dec_UnionType I J (isd_272 _) (kit_272_379 _)) (dec_UninhabitedType J I (isd_379 _) (kit_379_272 _))
theorem x_UnionType_Instance {x y : Addr} {kv kv' : List (Str × Value)} (I : Inst g x 379 kv) (J : Inst g y 338 kv') : Pu prog w (KP w.params) 2 (compareOp .Eq (.ref x) (.ref y)) (fun r g' => r = .bool false ∧ g' = g) g :=
  crossEq I J (by decide) (ef_379_338 _) (eqf_338 _) (fnn_328 _) (dec_UnionType I J (isd_338 _) (kit_338_379 _)) (dec_Instance J I (isd_379 _) (kit_379_338 _))
theorem x_UnionType_NoneType {x y : Addr} {kv kv' : List (Str × Value)} (I : Inst g x 379 kv) (J : Inst g y 298 kv') : Pu prog w (KP w.params) 2 (compareOp .Eq (.ref x) (.ref y)) (fun r g' => r = .bool false ∧ g' = g) g :=
  crossEq I J (by decide) (ef_379_298 _) (eqf_298 _) (fnn_288 _) (dec_UnionType I J (isd_298 _) (kit_298_379 _)) (dec_NoneType J I (isd_379 _) (kit_379_298 _))
theorem x_NoneType_TypeVarType {x y : Addr} {kv kv' : List (Str × Value)} (I : Inst g x 298 kv) (J : Inst g y 204 kv') : Pu prog w (KP w.params) 2 (compareOp .Eq (.ref x) (.ref y)) (fun r g' => r = .bool false ∧ g' = g) g :=
  crossEq I J (by decide) (ef_298_204 _) (eqf_204 _) (fnn_201 _) (dec_NoneType I J (isd_204 _) (kit_204_298 _)) (dec_TypeVarType J I (isd_298 _) (kit_298_204 _))
theorem x_NoneType_UninhabitedType {x y : Addr} {kv kv' : List (Str × Value)} (I : Inst g x 298 kv) (J : Inst g y 272 kv') : Pu prog w (KP w.params) 2 (compareOp .Eq (.ref x) (.ref y)) (fun r g' => r = .bool false ∧ g' = g) g :=
  crossEq I J (by decide) (ef_298_272 _) (eqf_272 _) (fnn_269 _) (dec_NoneType I J (isd_272 _) (kit_272_298 _)) (dec_UninhabitedType J I (isd_298 _) (kit_298_272 _))
theorem x_NoneType_Instance {x y : Addr} {kv kv' : List (Str × Value)} (I : Inst g x 298 kv) (J : Inst g y 338 kv') : Pu prog w (KP w.params) 2 (compareOp .Eq (.ref x) (.ref y)) (fun r g' => r = .bool false ∧ g' = g) g :=
  crossEq I J (by decide) (ef_298_338 _) (eqf_338 _) (fnn_328 _) (dec_NoneType I J (isd_338 _) (kit_338_298 _)) (dec_Instance J I (isd_298 _) (kit_298_338 _))
theorem x_NoneType_UnionType {x y : Addr} {kv kv' : List (Str × Value)} (I : Inst g x 298 kv) (J : Inst g y 379 kv') : Pu prog w (KP w.params) 2 (compareOp .Eq (.ref x) (.ref y)) (fun r g' => r = .bool false ∧ g' = g) g :=
  crossEq I J (by decide) (ef_298_379 _) (eqf_379 _) (fnn_359 _) (dec_NoneType I J (isd_379 _) (kit_379_298 _)) (dec_UnionType J I (isd_298 _) (kit_298_379 _))

end
section
variable {prog : Program} {w : World} {g : G} {n : Nat} {W : Wm} {X : Wa}
theorem Inst.same {x C D : Addr} {kv kv' : List (Str × Value)} (I : Inst g x C kv) (J : Inst g x D kv') : C = D ∧ kv = kv' := by
  obtain ⟨d, a, b⟩ := I
  obtain ⟨d', a', b'⟩ := J
  rw [a] at a'; cases a'
  rw [b] at b'; cases b'
  exact ⟨rfl, rfl⟩
theorem Wk.varInj (hW : Wk g W X) {u v : Nat} (hu : u < 2) (hv : v < 2) (h : X.V u = X.V v) : u = v := by
  obtain ⟨_, _, d, _, _, _, I, t, _⟩ := hW.var u hu
  obtain ⟨_, _, d', _, _, _, I', t', _⟩ := hW.var v hv
  rw [h] at I
  have := (I.same I').2
  injection this with _ this
  injection this with e _
  injection e with _ e
  injection e with e
  subst e
  have := t.inj t'
  omega
theorem teq_same (hW : Wk g W X) : ∀ (n : Nat) {x : Addr} {s t : Tr}, TyR g X x s → TyR g X x t → s.dep < n → t.dep < n → teq n s t = true := by
  intro n
  induction n with
  | zero => intro x s t _ _ h; exact absurd h (Nat.not_lt_zero _)
  | succ n ih =>
    intro x s t hs ht h1 h2
    cases hs with
    | @cls _ k hk i =>
      obtain ⟨e, i1, i2⟩ := i
      cases ht with
      | @cls _ l hl j =>
        obtain ⟨e', j1, j2⟩ := j
        have := (i1.same j1).2
        injection this with a _
        injection a with _ a
        injection a with a
        have := hW.inj k l (by omega) (by omega) a
        rw [teq]; simpa using this
      | @app _ y v t hv hv2 j hy =>
        obtain ⟨e', j1, j2⟩ := j
        have := (i1.same j1).2
        injection this with a _
        injection a with _ a
        injection a with a
        have := hW.inj k v (by omega) (by omega) a
        omega
      | @var v hv => obtain ⟨_, _, _, _, _, _, I, _⟩ := hW.var v hv; exact absurd (i1.same I).1 (by decide)
      | none j => exact absurd (i1.same j).1 (by decide)
      | bot j => exact absurd (i1.same j).1 (by decide)
      | uni j => exact absurd (i1.same j).1 (by decide)
    | @app _ y u s hu hu2 i hy =>
      obtain ⟨e, i1, i2⟩ := i
      cases ht with
      | @cls _ l hl j =>
        obtain ⟨e', j1, j2⟩ := j
        have := (i1.same j1).2
        injection this with a _
        injection a with _ a
        injection a with a
        have := hW.inj u l (by omega) (by omega) a
        omega
      | @app _ z v t hv hv2 j hz =>
        obtain ⟨e', j1, j2⟩ := j
        have := (i1.same j1).2
        injection this with a b
        injection a with _ a
        injection a with a
        injection b with b _
        injection b with _ b
        injection b with b
        subst b
        have := i2.symm.trans j2
        injection this with this
        injection this with this
        injection this with this _
        injection this with this
        subst this
        have h3 := hW.inj u v (by omega) (by omega) a
        rw [dep_app] at h1 h2
        rw [teq, ih hy hz (by omega) (by omega), h3]; simp
      | @var v hv => obtain ⟨_, _, _, _, _, _, I, _⟩ := hW.var v hv; exact absurd (i1.same I).1 (by decide)
      | none j => exact absurd (i1.same j).1 (by decide)
      | bot j => exact absurd (i1.same j).1 (by decide)
      | uni j => exact absurd (i1.same j).1 (by decide)
    | @var u hu =>
      obtain ⟨_, _, _, _, _, _, I, _⟩ := hW.var u hu
      generalize hq : X.V u = q at ht I
      cases ht with
      | cls _ j => obtain ⟨_, j, _⟩ := j; exact absurd (I.same j).1 (by decide)
      | app _ _ j => obtain ⟨_, j, _⟩ := j; exact absurd (I.same j).1 (by decide)
      | @var v hv => rw [teq]; simpa using hW.varInj hu hv hq
      | none j => exact absurd (I.same j).1 (by decide)
      | bot j => exact absurd (I.same j).1 (by decide)
      | uni j => exact absurd (I.same j).1 (by decide)
    | none I =>
      cases ht with
      | cls _ j => obtain ⟨_, j, _⟩ := j; exact absurd (I.same j).1 (by decide)
      | app _ _ j => obtain ⟨_, j, _⟩ := j; exact absurd (I.same j).1 (by decide)
      | @var v hv => obtain ⟨_, _, _, _, _, _, J, _⟩ := hW.var v hv; exact absurd (I.same J).1 (by decide)
      | none j => rw [teq]
      | bot j => exact absurd (I.same j).1 (by decide)
      | uni j => exact absurd (I.same j).1 (by decide)
    | bot I =>
      cases ht with
      | cls _ j => obtain ⟨_, j, _⟩ := j; exact absurd (I.same j).1 (by decide)
      | app _ _ j => obtain ⟨_, j, _⟩ := j; exact absurd (I.same j).1 (by decide)
      | @var v hv => obtain ⟨_, _, _, _, _, _, J, _⟩ := hW.var v hv; exact absurd (I.same J).1 (by decide)
      | none j => exact absurd (I.same j).1 (by decide)
      | bot j => rw [teq]
      | uni j => exact absurd (I.same j).1 (by decide)
    | @uni _ l as p q I L z hs =>
      cases ht with
      | cls _ j => obtain ⟨_, j, _⟩ := j; exact absurd (I.same j).1 (by decide)
      | app _ _ j => obtain ⟨_, j, _⟩ := j; exact absurd (I.same j).1 (by decide)
      | @var v hv => obtain ⟨_, _, _, _, _, _, J, _⟩ := hW.var v hv; exact absurd (I.same J).1 (by decide)
      | none j => exact absurd (I.same j).1 (by decide)
      | bot j => exact absurd (I.same j).1 (by decide)
      | @uni _ l' bs p' q' J L' z' ht =>
        have := (I.same J).2
        injection this with a _
        injection a with _ a
        injection a with a
        subst a
        have := L.symm.trans L'
        injection this with this
        injection this with this
        have e : as = bs := List.map_inj_right (f := Value.ref) (fun _ _ h => Value.ref.inj h) |>.mp this
        subst e
        have both : ∀ {as : List Addr} {ss ts : List Tr}, TysR g X as ss → TysR g X as ts → (∀ s ∈ ss, s.dep < n) → (∀ t ∈ ts, t.dep < n) → (∀ s ∈ ss, ∃ t ∈ ts, teq n t s = true) ∧ ∀ t ∈ ts, ∃ s ∈ ss, teq n s t = true := by
          intro as
          induction as with
          | nil => intro ss ts k1 k2 _ _; cases k1; cases k2; exact ⟨(fun _ h => nomatch h), (fun _ h => nomatch h)⟩
          | cons a as iha =>
            intro ss ts k1 k2 d1 d2
            cases k1 with
            | @cons _ s _ ss k1 k1' =>
            cases k2 with
            | @cons _ t _ ts k2 k2' =>
            obtain ⟨r1, r2⟩ := iha k1' k2' (fun s h => d1 s (.tail _ h)) fun t h => d2 t (.tail _ h)
            have ds := d1 s (.head _)
            have dt := d2 t (.head _)
            refine ⟨fun s' h => ?_, fun t' h => ?_⟩
            · rcases List.mem_cons.mp h with rfl | h
              · exact ⟨t, .head _, ih k2 k1 dt ds⟩
              · obtain ⟨t', m, e⟩ := r1 s' h; exact ⟨t', .tail _ m, e⟩
            · rcases List.mem_cons.mp h with rfl | h
              · exact ⟨s, .head _, ih k1 k2 ds dt⟩
              · obtain ⟨s', m, e⟩ := r2 t' h; exact ⟨s', .tail _ m, e⟩
        obtain ⟨r1, r2⟩ := both hs ht (fun s h => by have := leaf_dep2 h; omega) fun t h => by have := leaf_dep2 h; omega
        rw [teq, Bool.and_eq_true]
        exact ⟨List.all_eq_true.mpr fun s h => List.any_eq_true.mpr (r1 s h), List.all_eq_true.mpr fun t h => List.any_eq_true.mpr (r2 t h)⟩
/-- the outcome of a run of truths, item by item -/
theorem bools_of {ys : List Value} {ts : List Tr} {f : Tr → Bool} (hl : ys.length = ts.length) (h : ∀ (i : Nat) (y : Value), ys[i]? = some y → ∃ t, ts[i]? = some t ∧ y = .bool (f t)) : ys = (ts.map f).map .bool := by
  refine List.ext_getElem? fun i => ?_
  by_cases q : i < ys.length
  · obtain ⟨t, e1, e2⟩ := h i ys[i] (List.getElem?_eq_getElem q)
    rw [List.getElem?_eq_getElem q, e2, List.getElem?_map, List.getElem?_map, e1]; rfl
  · rw [List.getElem?_eq_none (by omega), List.getElem?_eq_none (by simp; omega)]
theorem all_map_id {ts : List Tr} {f : Tr → Bool} : (ts.map f).all id = ts.all f := by rw [List.all_map]; rfl
theorem any_map_id {ts : List Tr} {f : Tr → Bool} : (ts.map f).any id = ts.any f := by rw [List.any_map]; rfl
theorem range_any_at {ts : List Tr} {f : Tr → Bool} : (List.range ts.length).any (fun j => match ts[j]? with | some t => f t | none => false) = ts.any f := by
  rw [Bool.eq_iff_iff, List.any_eq_true, List.any_eq_true]
  constructor
  · rintro ⟨j, hj, e⟩
    have hj := List.mem_range.mp hj
    rw [List.getElem?_eq_getElem hj] at e
    exact ⟨_, List.getElem_mem hj, e⟩
  · rintro ⟨t, ht, e⟩
    obtain ⟨j, hj⟩ := List.mem_iff_getElem?.mp ht
    exact ⟨j, List.mem_range.mpr (List.getElem?_eq_some_iff.mp hj).1, by rw [hj]; exact e⟩
/-- one in a list of types -/
theorem inTys {m k : Nat} {x l : Addr} {s : Tr} {as : List Addr} {ts : List Tr} (hW : Wk g W X) (hl : Lst g l (as.map .ref)) (ha : TysR g X as ts) (hx : TyR g X x s) (hs : s.dep < k) (ht : ∀ t ∈ ts, t.dep < k)
    (ih : ∀ {y : Addr} {t : Tr}, TyR g X y t → t ∈ ts → Pu prog w (KP w.params) m (compareOp .Eq (.ref y) (.ref x)) (fun r g' => r = .bool (teq k t s) ∧ g' = g) g) :
    Pu prog w (KP w.params) (m + 1) (compareOp .In (.ref x) (.ref l)) (fun r g' => r = .bool (ts.any (fun t => teq k t s)) ∧ g' = g) g ∧ Pu prog w (KP w.params) (m + 1) (compareOp .NotIn (.ref x) (.ref l)) (fun r g' => r = .bool (!ts.any (fun t => teq k t s)) ∧ g' = g) g := by
  have he : ∀ (j : Nat) (y : Value), (as.map Value.ref)[j]? = some y → Pu prog w (KP w.params) m (eqBool y (.ref x)) (fun r g' => r = (match ts[j]? with | some t => teq k t s | none => false) ∧ g' = g) g := fun j y hj => by
    obtain ⟨a, hja, rfl⟩ := refs_get hj
    obtain ⟨t, et, htr⟩ := ha.get hja
    have htm := List.mem_of_getElem? et
    rw [et]
    exact Pu.eqBoolRef (fun q => by subst q; exact teq_same hW k htr hx (ht t htm) hs) (ih htr htm)
  have hlen : (as.map Value.ref).length = ts.length := by rw [List.length_map, ha.length]
  refine ⟨(Pu.inLI hl he).mono (Nat.le_refl _) fun r g' _ ⟨q1, q2⟩ => ⟨q1.trans ?_, q2⟩, (Pu.notInLI hl he).mono (Nat.le_refl _) fun r g' _ ⟨q1, q2⟩ => ⟨q1.trans ?_, q2⟩⟩
  · rw [hlen, range_any_at]
  · rw [hlen, range_any_at]
theorem instEq {m u v : Nat} {x y : Addr} {as bs : List Addr} {e : Nat → Bool} (hW : Wk g W X) (hu : u < 7) (hv : v < 7) (i : InstOf g x (X.I u) as) (j : InstOf g y (X.I v) bs)
    (he : ∀ (j : Nat) (a b : Addr), as[j]? = some a → bs[j]? = some b → Pu prog w (KP w.params) m (eqBool (.ref a) (.ref b)) (fun r g' => r = e j ∧ g' = g) g) :
    Pu prog w (KP w.params) (m + 3) (compareOp .Eq (.ref x) (.ref y)) (fun r g' => r = .bool (u == v && ((List.range (min as.length bs.length)).all e && as.length == bs.length)) ∧ g' = g) g := by
  obtain ⟨e1, I, E1⟩ := i
  obtain ⟨e2, J, E2⟩ := j
  obtain ⟨dC, hdC⟩ := hW.cl hu
  obtain ⟨dD, hdD⟩ := hW.cl hv
  have args : Pu prog w (KP w.params) (m + 1) (compareOp .Eq (.ref e1) (.ref e2)) (fun r g' => r = .bool ((List.range (min as.length bs.length)).all e && as.length == bs.length) ∧ g' = g) g := by
    refine (Pu.eqTup (n := m) (e := e) E1 E2 fun j p q hp hq => ?_).mono (Nat.le_refl _) fun r g' _ ⟨q1, q2⟩ => ⟨q1.trans (by rw [List.length_map, List.length_map]), q2⟩
    obtain ⟨a, ha, rfl⟩ := refs_get hp
    obtain ⟨b, hb, rfl⟩ := refs_get hq
    exact he j a b ha hb
  refine Pu.eqInst (n := m + 2) (f := 328) (f' := 328) I J (ef_338_338 _) (eqf_338 _) (fnn_328 _) ?_
  refine (Fn.def (f := 328) (n := m + 2) (Q := fun r g' => r = .bool (u == v && ((List.range (min as.length bs.length)).all e && as.length == bs.length)) ∧ g' = g) (binds := [("self", .ref x), ("other", .ref y)]) rfl ⟨rfl, rfl, rfl, rfl, rfl, rfl, by kernel_rfl, by decide +kernel, by kernel_rfl⟩ rfl (fun s X => BindsTo.of_eq rfl) rfl fun c O W hS => ?_).mono (Nat.le_refl _) fun r g' _ q => by rw [q.1]; exact ⟨rfl, q.2⟩
  dsimp only [ofBinds, List.foldl_cons, List.foldl_nil] at hS ⊢
  tb_start
  refine T.isRef hdC hdD (fun _ q => nomatch q) (fun _ q => nomatch q) ?_
  refine T.truthy_bool (IfK.split (fun q => ?_) fun q => ?_)
  · have q' : u = v := hW.inj u v hu hv (of_decide_eq_true q)
    tb_start
    refine T.pu_same O args (by omega) ?_
    tb_start
    refine ⟨?_, rfl⟩
    show Value.bool _ = _
    subst q'
    simp
  · have q' : u ≠ v := fun h => (of_decide_eq_false q) (by rw [h])
    tb_start
    refine ⟨?_, rfl⟩
    show Value.bool _ = _
    rw [q]
    simp [q']

end
section
variable {prog : Program} {w : World} {g : G} {n : Nat} {Z : Wm} {X : Wa}
theorem eqNone {x y : Addr} (I : Inst g x 298 []) (J : Inst g y 298 []) : Pu prog w (KP w.params) 2 (compareOp .Eq (.ref x) (.ref y)) (fun r g' => r = .bool true ∧ g' = g) g := by
  refine Pu.eqInst (n := 1) (f := 288) (f' := 288) I J (ef_298_298 _) (eqf_298 _) (fnn_288 _) ?_
  refine (Fn.def (f := 288) (n := 1) (Q := fun r g' => r = .bool true ∧ g' = g) (binds := [("self", .ref x), ("other", .ref y)]) rfl ⟨rfl, rfl, rfl, rfl, rfl, rfl, by kernel_rfl, by decide +kernel, by kernel_rfl⟩ rfl (fun s X => BindsTo.of_eq rfl) rfl fun c O W hS => ?_).mono (Nat.le_refl _) fun r g' _ q => by rw [q.1]; exact ⟨rfl, q.2⟩
  dsimp only [ofBinds, List.foldl_cons, List.foldl_nil] at hS ⊢
  tb_start
  exact ⟨rfl, rfl⟩
theorem T.eqB {c : Cx} {ρ : Str → Option Value} {M : Mem} {a b : Bool} {Q : Post Value} (h : Q (.bool (a == b)) g ρ M) : T prog w c (compareOp .Eq (.bool a) (.bool b)) Q g ρ M := T.tok fun s _ _ k => SeqAt.RcAt.bool_bool a b prog w _ _ (k _ s.toks h)
theorem eqBot {x y : Addr} (I : Inst g x 272 [("ambiguous", .bool false)]) (J : Inst g y 272 [("ambiguous", .bool false)]) : Pu prog w (KP w.params) 2 (compareOp .Eq (.ref x) (.ref y)) (fun r g' => r = .bool true ∧ g' = g) g := by
  refine Pu.eqInst (n := 1) (f := 269) (f' := 269) I J (ef_272_272 _) (eqf_272 _) (fnn_269 _) ?_
  refine (Fn.def (f := 269) (n := 1) (Q := fun r g' => r = .bool true ∧ g' = g) (binds := [("self", .ref x), ("other", .ref y)]) rfl ⟨rfl, rfl, rfl, rfl, rfl, rfl, by kernel_rfl, by decide +kernel, by kernel_rfl⟩ rfl (fun s X => BindsTo.of_eq rfl) rfl fun c O W hS => ?_).mono (Nat.le_refl _) fun r g' _ q => by rw [q.1]; exact ⟨rfl, q.2⟩
  dsimp only [ofBinds, List.foldl_cons, List.foldl_nil] at hS ⊢
  tb_start
  refine T.eqB ?_
  tb_start
  exact ⟨rfl, rfl⟩
theorem eqTvId {x y : Addr} {i j : Int} (hx : TvId g x i) (hy : TvId g y j) : Pu prog w (KP w.params) 2 (compareOp .Eq (.ref x) (.ref y)) (fun r g' => r = .bool (i == j) ∧ g' = g) g := by
  obtain ⟨t, u, I⟩ := hx
  obtain ⟨t', u', J⟩ := hy
  refine Pu.eqInst (n := 1) (f := 137) (f' := 137) I J (ef_161_161 _) (eqf_161 _) (fnn_137 _) ?_
  refine (Fn.def (f := 137) (n := 1) (Q := fun r g' => r = .bool (i == j) ∧ g' = g) (binds := [("self", .ref x), ("other", .ref y)]) rfl ⟨rfl, rfl, rfl, rfl, rfl, rfl, by kernel_rfl, by decide +kernel, by kernel_rfl⟩ rfl (fun s X => BindsTo.of_eq rfl) rfl fun c O W hS => ?_).mono (Nat.le_refl _) fun r g' _ q => by rw [q.1]; exact ⟨rfl, q.2⟩
  dsimp only [ofBinds, List.foldl_cons, List.foldl_nil] at hS ⊢
  tb_start
  refine IfK.split (fun q => ?_) fun q => ?_
  · tb_start
    exact ⟨by rw [q]; rfl, rfl⟩
  · tb_start
    exact ⟨by rw [q]; rfl, rfl⟩
theorem eqVar (hW : Wk g Z X) {u v : Nat} (hu : u < 2) (hv : v < 2) : Pu prog w (KP w.params) 9 (compareOp .Eq (.ref (X.V u)) (.ref (X.V v))) (fun r g' => r = .bool (u == v) ∧ g' = g) g := by
  obtain ⟨nm, t0, d, ub, vl, t1, I, hd, hl, hub, hb⟩ := hW.var u hu
  obtain ⟨nm', t0', d', ub', vl', t1', J, hd', hl', hub', hb'⟩ := hW.var v hv
  refine Pu.eqInst (n := 8) (f := 201) (f' := 201) I J (ef_204_204 _) (eqf_204 _) (fnn_201 _) ?_
  refine (Fn.def (f := 201) (n := 8) (Q := fun r g' => r = .bool (u == v) ∧ g' = g) (binds := [("self", .ref (X.V u)), ("other", .ref (X.V v))]) rfl ⟨rfl, rfl, rfl, rfl, rfl, rfl, by kernel_rfl, by decide +kernel, by kernel_rfl⟩ rfl (fun s X => BindsTo.of_eq rfl) rfl fun c O W hS => ?_).mono (Nat.le_refl _) fun r g' _ q => by rw [q.1]; exact ⟨rfl, q.2⟩
  dsimp only [ofBinds, List.foldl_cons, List.foldl_nil] at hS ⊢
  tb_start
  refine T.pu_same O (eqTvId hd hd') (by omega) ?_
  tb_start
  have e1 : ((u : Int) == (v : Int)) = (u == v) := by
    rw [Bool.eq_iff_iff, beq_iff_eq, beq_iff_eq]; omega
  rw [e1]
  refine IfK.split (fun q => ?_) fun q => ?_
  · have q' : u = v := by simpa using q
    subst q'
    have := (I.same J).2
    injection this with _ this
    injection this with _ this
    injection this with e3 this
    injection e3 with _ e3
    injection e3 with e3
    injection this with e4 this
    injection e4 with _ e4
    injection e4 with e4
    subst e3 e4
    tb_start
    refine T.pu_same O ((instEq (m := 0) (e := fun _ => true) hW (by omega) (by omega) hub hub (fun j a b ha => by simp at ha)).mono (Nat.le_refl _) fun r g' _ ⟨q1, q2⟩ => ⟨q1, q2⟩) (by omega) ?_
    have e5 : ((Z.bnd u == Z.bnd u) && ((List.range (min ([] : List Addr).length ([] : List Addr).length)).all (fun _ => true) && ([] : List Addr).length == ([] : List Addr).length)) = true := by simp
    rw [e5]
    tb_start
    refine T.eqData (n := 0) O (.list hl .nil) (.list hl .nil) (by decide +kernel) (by decide +kernel) ?_
    rw [show PyData.eqv (.list []) (.list []) = true by decide +kernel]
    tb_start
    exact ⟨by simp; rfl, rfl⟩
  · tb_start
    exact ⟨by rw [q]; rfl, rfl⟩
theorem eqUni {k : Nat} {x y l l' : Addr} {as bs : List Addr} {a b p q : Tr} (hW : Wk g Z X) (I : Inst g x 379 [("items", .ref l)]) (hl : Lst g l (as.map .ref)) (ha : TysR g X as (Tr.uni a b).leaves) (J : Inst g y 379 [("items", .ref l')]) (hl' : Lst g l' (bs.map .ref)) (hb : TysR g X bs (Tr.uni p q).leaves)
    (za : as.length ≤ 400) (zb : bs.length ≤ 400) (d1 : (Tr.uni a b).dep ≤ k) (d2 : (Tr.uni p q).dep ≤ k) (m : Nat)
    (ih : ∀ {x y : Addr} {s t : Tr}, TyR g X x s → TyR g X y t → s.dep < k → t.dep < k → Pu prog w (KP w.params) m (compareOp .Eq (.ref x) (.ref y)) (fun r g' => r = .bool (teq k s t) ∧ g' = g) g) :
    Pu prog w (KP w.params) (m + 4) (compareOp .Eq (.ref x) (.ref y)) (fun r g' => r = .bool (teq (k + 1) (.uni a b) (.uni p q)) ∧ g' = g) g := by
  obtain ⟨dx, hdx, _⟩ := id I
  obtain ⟨dy, hdy, _⟩ := id J
  refine Pu.eqInst (n := m + 3) (f := 359) (f' := 359) I J (ef_379_379 _) (eqf_379 _) (fnn_359 _) ?_
  refine (Fn.def (f := 359) (n := m + 3) (Q := fun r g' => r = .bool (teq (k + 1) (.uni a b) (.uni p q)) ∧ g' = g) (binds := [("self", .ref x), ("other", .ref y)]) rfl ⟨rfl, rfl, rfl, rfl, rfl, rfl, by kernel_rfl, by decide +kernel, by kernel_rfl⟩ rfl (fun s X => BindsTo.of_eq rfl) rfl fun c O W hS => ?_).mono (Nat.le_refl _) fun r g' _ q => by rw [q.1]; exact ⟨rfl, q.2⟩
  dsimp only [ofBinds, List.foldl_cons, List.foldl_nil] at hS ⊢
  tb_start
  refine T.isRef hdx hdy (fun _ q => nomatch q) (fun _ q => nomatch q) ?_
  refine T.truthy_bool (IfK.split (fun q0 => ?_) fun q0 => ?_)
  · have e0 : x = y := of_decide_eq_true q0
    subst e0
    tb_start
    refine ⟨?_, rfl⟩
    rw [teq_same hW (k + 1) (.uni I hl za ha) (.uni J hl' zb hb) (by omega) (by omega)]; rfl
  · have lx : ∀ t ∈ (Tr.uni a b).leaves, t.dep < k := fun t ht => by have := leaf_dep2 ht; omega
    have ly : ∀ t ∈ (Tr.uni p q).leaves, t.dep < k := fun t ht => by have := leaf_dep2 ht; omega
    tb_start
    refine T.lc O hS (by kernel_rfl) (by kernel_rfl) (fun _ => rfl) ?_
    tb_start
    refine Seqs.list O hl (LcK.mapE (fun i v => ∃ t, (Tr.uni a b).leaves[i]? = some t ∧ v = .bool ((Tr.uni p q).leaves.any fun y => teq k y t)) (by kernel_rfl) (by rw [List.length_map]; omega) ?_ ?_)
    · intro D' c' O' hS' i v ρ' acc hi hv hρ
      obtain ⟨z, hz, rfl⟩ := refs_get hv
      obtain ⟨t, et, htr⟩ := ha.get hz
      have e1 : ρ' "other" = some (.ref y) := (hρ "other" (by kernel_rfl)).trans (by k_subL)
      tb_start
      refine T.pu_same O' (inTys hW hl' hb htr (lx t (List.mem_of_getElem? et)) ly fun h1 h2 => ih h1 htr (ly _ h2) (lx t (List.mem_of_getElem? et))).1 (by omega) ?_
      exact ⟨rfl, rfl, t, et, rfl⟩
    · intro L1 ys hlen hys
      have e1 := bools_of (f := fun t => (Tr.uni p q).leaves.any fun y => teq k y t) (ts := (Tr.uni a b).leaves) (by rw [hlen, List.length_map, ha.length]) hys
      subst e1
      tb_start
      refine T.allB O (.inr (.head _)) ?_
      rw [all_map_id]
      refine T.truthy_bool (IfK.split (fun q1 => ?_) fun q1 => ?_)
      · tb_start
        refine T.lc O hS (by kernel_rfl) (by kernel_rfl) (fun _ => rfl) ?_
        tb_start
        refine Seqs.list O hl' (LcK.mapE (fun i v => ∃ t, (Tr.uni p q).leaves[i]? = some t ∧ v = .bool ((Tr.uni a b).leaves.any fun y => teq k y t)) (by kernel_rfl) (by rw [List.length_map]; omega) ?_ ?_)
        · intro D' c' O' hS' i v ρ' acc hi hv hρ
          obtain ⟨z, hz, rfl⟩ := refs_get hv
          obtain ⟨t, et, htr⟩ := hb.get hz
          have e1 : ρ' "self" = some (.ref x) := (hρ "self" (by kernel_rfl)).trans (by k_subL)
          tb_start
          refine T.pu_same O' (inTys hW hl ha htr (ly t (List.mem_of_getElem? et)) lx fun h1 h2 => ih h1 htr (lx _ h2) (ly t (List.mem_of_getElem? et))).1 (by omega) ?_
          exact ⟨rfl, rfl, t, et, rfl⟩
        · intro L2 zs hlen2 hzs
          have e2 := bools_of (f := fun t => (Tr.uni a b).leaves.any fun y => teq k y t) (ts := (Tr.uni p q).leaves) (by rw [hlen2, List.length_map, hb.length]) hzs
          subst e2
          tb_start
          refine T.allB O (.inr (.head _)) ?_
          rw [all_map_id]
          refine ⟨?_, rfl⟩
          show Value.bool _ = _
          rw [teq, q1, Bool.true_and]
      · refine ⟨?_, rfl⟩
        show Value.bool _ = _
        rw [teq, q1, Bool.false_and]

end
section
variable {prog : Program} {w : World} {g : G} {n : Nat} {Z : Wm} {X : Wa}
inductive Kd where | var | bot | inst | uni | none
def Kd.cls : Kd → Addr | .var => 204 | .bot => 272 | .inst => 338 | .uni => 379 | .none => 298
def Tr.kd : Tr → Kd | .cls _ => .inst | .app _ _ => .inst | .var _ => .var | .none => .none | .bot => .bot | .uni _ _ => .uni
theorem TyR.inst {x : Addr} {s : Tr} (hW : Wk g Z X) (h : TyR g X x s) : ∃ kv, Inst g x s.kd.cls kv := by
  cases h with
  | cls _ i => obtain ⟨_, I, _⟩ := i; exact ⟨_, I⟩
  | app _ _ i => obtain ⟨_, I, _⟩ := i; exact ⟨_, I⟩
  | var hv => obtain ⟨_, _, _, _, _, _, I, _⟩ := hW.var _ hv; exact ⟨_, I⟩
  | none I => exact ⟨_, I⟩
  | bot I => exact ⟨_, I⟩
  | uni I => exact ⟨_, I⟩
theorem crossKd {C D : Kd} {x y : Addr} {kv kv' : List (Str × Value)} (h : C ≠ D) (I : Inst g x C.cls kv) (J : Inst g y D.cls kv') : Pu prog w (KP w.params) 2 (compareOp .Eq (.ref x) (.ref y)) (fun r g' => r = .bool false ∧ g' = g) g := by
  cases C <;> cases D <;> first | exact absurd rfl h | exact x_TypeVarType_UninhabitedType I J | exact x_TypeVarType_Instance I J | exact x_TypeVarType_UnionType I J | exact x_TypeVarType_NoneType I J | exact x_UninhabitedType_TypeVarType I J | exact x_UninhabitedType_Instance I J | exact x_UninhabitedType_UnionType I J | exact x_UninhabitedType_NoneType I J | exact x_Instance_TypeVarType I J | exact x_Instance_UninhabitedType I J | exact x_Instance_UnionType I J | exact x_Instance_NoneType I J | exact x_UnionType_TypeVarType I J | exact x_UnionType_UninhabitedType I J | exact x_UnionType_Instance I J | exact x_UnionType_NoneType I J | exact x_NoneType_TypeVarType I J | exact x_NoneType_UninhabitedType I J | exact x_NoneType_Instance I J | exact x_NoneType_UnionType I J
theorem teq_kd {n : Nat} {s t : Tr} (h : s.kd ≠ t.kd) : teq (n + 1) s t = false := by
  cases s <;> cases t <;> first | exact absurd rfl h | rfl
theorem eqTy (hW : Wk g Z X) : ∀ (k : Nat) {x y : Addr} {s t : Tr}, TyR g X x s → TyR g X y t → s.dep ≤ k → t.dep ≤ k → Pu prog w (KP w.params) (8 * k + 12) (compareOp .Eq (.ref x) (.ref y)) (fun r g' => r = .bool (teq (k + 1) s t) ∧ g' = g) g := by
  intro k
  induction k using Nat.strongRecOn with
  | _ k ih =>
  intro x y s t hx hy h1 h2
  by_cases hk : s.kd = t.kd
  · cases hx with
    | @cls _ u hu i =>
      cases hy with
      | @cls _ v hv j =>
        refine ((instEq (m := 0) (e := fun _ => true) hW (by omega) (by omega) i j (fun j a b ha => by simp at ha)).of_room (by omega)).mono (Nat.le_refl _) fun r g' _ ⟨q1, q2⟩ => ⟨q1.trans ?_, q2⟩
        rw [teq]; simp
      | @app _ y' v t hv hv2 j hy' =>
        refine ((instEq (m := 0) (e := fun _ => true) hW (by omega) (by omega) i j (fun j a b ha => by simp at ha)).of_room (by omega)).mono (Nat.le_refl _) fun r g' _ ⟨q1, q2⟩ => ⟨q1.trans ?_, q2⟩
        rw [show teq (k + 1) (.cls u) (.app v t) = false from rfl]; simp
      | var => cases hk
      | none => cases hk
      | bot => cases hk
      | uni => cases hk
    | @app _ x' u s hu hu2 i hx' =>
      cases hy with
      | @cls _ v hv j =>
        refine ((instEq (m := 0) (e := fun _ => true) hW (by omega) (by omega) i j (fun j a b ha hb => by simp at hb)).of_room (by omega)).mono (Nat.le_refl _) fun r g' _ ⟨q1, q2⟩ => ⟨q1.trans ?_, q2⟩
        rw [show teq (k + 1) (.app u s) (.cls v) = false from rfl]; simp
      | @app _ y' v t hv hv2 j hy' =>
        rw [dep_app] at h1 h2
        obtain ⟨k', rfl⟩ : ∃ k', k = k' + 1 := ⟨k - 1, by omega⟩
        refine ((instEq (m := 8 * k' + 12) (e := fun _ => teq (k' + 1) s t) hW (by omega) (by omega) i j (fun j a b ha hb => ?_)).of_room (by omega)).mono (Nat.le_refl _) fun r g' _ ⟨q1, q2⟩ => ⟨q1.trans ?_, q2⟩
        · have hj : j = 0 := by
            have := (List.getElem?_eq_some_iff.mp ha).1
            simpa using this
          subst hj
          cases ha
          cases hb
          exact Pu.eqBoolRef (fun q => by subst q; exact teq_same hW (k' + 1) hx' hy' (by omega) (by omega)) (ih k' (by omega) hx' hy' (by omega) (by omega))
        · rw [teq]; simp
      | var => cases hk
      | none => cases hk
      | bot => cases hk
      | uni => cases hk
    | @var u hu =>
      generalize hq : X.V u = z
      cases hy with
      | @var v hv =>
        subst hq
        exact ((eqVar hW hu hv).of_room (by omega)).mono (Nat.le_refl _) fun r g' _ ⟨q1, q2⟩ => ⟨q1.trans (by rw [teq]), q2⟩
      | cls => cases hk
      | app => cases hk
      | none => cases hk
      | bot => cases hk
      | uni => cases hk
    | none I =>
      cases hy with
      | none J => exact ((eqNone I J).of_room (by omega)).mono (Nat.le_refl _) fun r g' _ ⟨q1, q2⟩ => ⟨q1.trans (by rw [teq]), q2⟩
      | cls => cases hk
      | app => cases hk
      | var => cases hk
      | bot => cases hk
      | uni => cases hk
    | bot I =>
      cases hy with
      | bot J => exact ((eqBot I J).of_room (by omega)).mono (Nat.le_refl _) fun r g' _ ⟨q1, q2⟩ => ⟨q1.trans (by rw [teq]), q2⟩
      | cls => cases hk
      | app => cases hk
      | var => cases hk
      | none => cases hk
      | uni => cases hk
    | @uni _ l as a b I L z hs =>
      cases hy with
      | @uni _ l' bs p q J L' z' ht =>
        obtain ⟨k', rfl⟩ : ∃ k', k = k' + 1 := ⟨k - 1, by rw [dep_uni] at h1; omega⟩
        exact (eqUni hW I L hs J L' ht z z' h1 h2 (8 * k' + 12) fun a b c d => ih k' (by omega) a b (by omega) (by omega)).of_room (by omega)
      | cls => cases hk
      | app => cases hk
      | var => cases hk
      | none => cases hk
      | bot => cases hk
  · obtain ⟨kv, I⟩ := hx.inst hW
    obtain ⟨kv', J⟩ := hy.inst hW
    exact ((crossKd hk I J).of_room (by omega)).mono (Nat.le_refl _) fun r g' _ ⟨q1, q2⟩ => ⟨q1.trans (by rw [teq_kd hk]), q2⟩

end
section
variable {prog : Program} {w : World} {g : G} {n : Nat} {Z : Wm} {X : Wa}
def Tr.mu : Tr → Nat | .var _ => 1 | t => 2 * t.dep
def isSubC (prog : Program) (w : World) (m : Nat) (x y : Addr) (b : Bool) (g : G) : Prop :=
  Pu prog w (KP w.params) m (call (.ref 553) [.ref x, .ref y] []) (fun r _ => r = .bool b) g ∧ Pu prog w (KP w.params) m (call (.ref 553) [.ref x, .ref y, .bool false] []) (fun r _ => r = .bool b) g
def SubOk (prog : Program) (w : World) (Z : Wm) (X : Wa) (m N : Nat) : Prop := ∀ (g : G) (x y : Addr) (s t : Tr), Wk g Z X → TyR g X x s → TyR g X y t → s.dep ≤ 6 → t.dep ≤ 6 → s.mu + t.mu ≤ N → isSubC prog w m x y (B Z s t) g
theorem isSubW {m : Nat} {x y : Addr} {s t : Tr} (hm : 60 ≤ m) (hW : Wk g Z X) (hx : TyR g X x s) (hy : TyR g X y t) (d1 : s.dep ≤ 6) (d2 : t.dep ≤ 6)
    (h : teq 7 s t = false → Pu prog w (KP w.params) m (call (.ref 577) [.ref x, .ref y, .bool false] []) (fun r g' => r = .bool (B Z s t)) g) : isSubC prog w (m + 1) x y (B Z s t) g := by
  have key : ∀ {c : Cx} {ρ : Str → Option Value} {M : Mem}, c.Ok (KP w.params) m → True := fun _ => trivial
  constructor
  ·
    refine Fn.def (f := 553) (n := m) (binds := [("left", .ref x), ("right", .ref y), ("proper_subtype", .bool false)]) rfl ⟨rfl, rfl, rfl, rfl, rfl, rfl, by kernel_rfl, by decide +kernel, by kernel_rfl⟩ rfl (fun s X => binds_K X rfl rfl rfl rfl rfl) rfl fun c O W hS => ?_
    dsimp only [ofBinds, List.foldl_cons, List.foldl_nil] at hS ⊢
    tb_start
    refine T.pu_same O (eqTy hW 6 hx hy d1 d2) (by omega) ?_
    tb_start
    refine IfK.split (fun q => ?_) fun q => ?_
    · tb_start
      rw [((teq_eqv (W := Z) 7 q).below)]; rfl
    · tb_start
      refine T.pu O (h q) (Nat.le_refl _) fun r g' l e => ?_
      tb_start
      exact e
  ·
    refine Fn.def (f := 553) (n := m) (binds := [("left", .ref x), ("right", .ref y), ("proper_subtype", .bool false)]) rfl ⟨rfl, rfl, rfl, rfl, rfl, rfl, by kernel_rfl, by decide +kernel, by kernel_rfl⟩ rfl (fun s X => binds_K X rfl rfl rfl rfl rfl) rfl fun c O W hS => ?_
    dsimp only [ofBinds, List.foldl_cons, List.foldl_nil] at hS ⊢
    tb_start
    refine T.pu_same O (eqTy hW 6 hx hy d1 d2) (by omega) ?_
    tb_start
    refine IfK.split (fun q => ?_) fun q => ?_
    · tb_start
      rw [((teq_eqv (W := Z) 7 q).below)]; rfl
    · tb_start
      refine T.pu O (h q) (Nat.le_refl _) fun r g' l e => ?_
      tb_start
      exact e
theorem isEquiv {m : Nat} {x y : Addr} {b1 b2 : Bool} (h1 : isSubC prog w m x y b1 g) (h2 : ∀ g', Le g g' → isSubC prog w m y x b2 g') :
    Pu prog w (KP w.params) (m + 1) (call (.ref 567) [.ref x, .ref y]) (fun r g' => r = .bool (b1 && b2)) g := by
  refine Fn.def (f := 567) (n := m) (binds := [("a", .ref x), ("b", .ref y)]) rfl ⟨rfl, rfl, rfl, rfl, rfl, rfl, by kernel_rfl, by decide +kernel, by kernel_rfl⟩ rfl (fun s X => BindsTo.of_eq rfl) rfl fun c O W hS => ?_
  dsimp only [ofBinds, List.foldl_cons, List.foldl_nil] at hS ⊢
  tb_start
  refine T.pu O h1.1 (Nat.le_refl _) fun r g' l q => ?_
  subst q
  tb_start
  refine IfK.split (fun q => ?_) fun q => ?_
  · subst q
    tb_start
    refine T.pu O (h2 g' l).1 (Nat.le_refl _) fun r g'' l' q => ?_
    tb_start
    exact q
  · subst q
    tb_start
    rfl
def isIntAt (r : Option (Option Value)) (k : Int) : Bool := match r with | some (some (.int i _)) => i == k | _ => false
theorem isIntAt.ex {r : Option (Option Value)} {k : Int} (h : isIntAt r k = true) : ∃ t, r = some (some (.int k t)) := by
  unfold isIntAt at h
  split at h
  · rename_i i t; have := beq_iff_eq.mp h; subst this; exact ⟨t, rfl⟩
  · cases h
theorem gl_INVARIANT (P : Params) : ∃ t, nsIn (KP P) mainGlobals "INVARIANT" = some (some (.int 0 t)) := isIntAt.ex (by kernel_rfl)
theorem gl_COVARIANT (P : Params) : ∃ t, nsIn (KP P) mainGlobals "COVARIANT" = some (some (.int 1 t)) := isIntAt.ex (by kernel_rfl)
theorem gl_CONTRAVARIANT (P : Params) : ∃ t, nsIn (KP P) mainGlobals "CONTRAVARIANT" = some (some (.int 2 t)) := isIntAt.ex (by kernel_rfl)
def Kd.is : Kd → Kd → Bool | .var, .var => true | .bot, .bot => true | .inst, .inst => true | .uni, .uni => true | .none, .none => true | _, _ => false
theorem kitKd (P : Params) : ∀ (D C : Kd), kitOne (KP P) (.ref D.cls) (.ref C.cls) = some (D.is C)
  | .var, .var => kit_204_204 P
  | .var, .bot => kit_204_272 P
  | .var, .inst => kit_204_338 P
  | .var, .uni => kit_204_379 P
  | .var, .none => kit_204_298 P
  | .bot, .var => kit_272_204 P
  | .bot, .bot => kit_272_272 P
  | .bot, .inst => kit_272_338 P
  | .bot, .uni => kit_272_379 P
  | .bot, .none => kit_272_298 P
  | .inst, .var => kit_338_204 P
  | .inst, .bot => kit_338_272 P
  | .inst, .inst => kit_338_338 P
  | .inst, .uni => kit_338_379 P
  | .inst, .none => kit_338_298 P
  | .uni, .var => kit_379_204 P
  | .uni, .bot => kit_379_272 P
  | .uni, .inst => kit_379_338 P
  | .uni, .uni => kit_379_379 P
  | .uni, .none => kit_379_298 P
  | .none, .var => kit_298_204 P
  | .none, .bot => kit_298_272 P
  | .none, .inst => kit_298_338 P
  | .none, .uni => kit_298_379 P
  | .none, .none => kit_298_298 P
theorem isdKd (P : Params) : ∀ (D : Kd), isiOk (KP P) D.cls = true
  | .var => isd_204 P
  | .bot => isd_272 P
  | .inst => isd_338 P
  | .uni => isd_379 P
  | .none => isd_298 P
theorem kitAny (P : Params) : ∀ (D : Kd), kitOne (KP P) (.ref D.cls) (.ref 238) = some false
  | .var => kit_204_238 P
  | .bot => kit_272_238 P
  | .inst => kit_338_238 P
  | .uni => kit_379_238 P
  | .none => kit_298_238 P
theorem T.isiTy {c : Cx} {ρ : Str → Option Value} {M : Mem} {x C' : Addr} {s : Tr} {Q : Post Value} (O : c.Ok (KP w.params) n) (hW : Wk g Z X) (h : TyR g X x s) (C : Kd) (hC : C' = C.cls) (k : Q (.bool (s.kd.is C)) g ρ M) : T prog w c (call (.builtin "isinstance") [.ref x, .ref C']) Q g ρ M := by
  obtain ⟨kv, I⟩ := h.inst hW
  subst hC
  exact T.isinst O I (isdKd _ _) (isi_top _) (kitKd _ _ _) k
theorem T.isiAny {c : Cx} {ρ : Str → Option Value} {M : Mem} {x : Addr} {s : Tr} {Q : Post Value} (O : c.Ok (KP w.params) n) (hW : Wk g Z X) (h : TyR g X x s) (k : Q (.bool false) g ρ M) : T prog w c (call (.builtin "isinstance") [.ref x, .ref 238]) Q g ρ M := by
  obtain ⟨kv, I⟩ := h.inst hW
  exact T.isinst O I (isdKd _ _) (isi_top _) (kitAny _ _) k

end
section
variable {prog : Program} {w : World} {g : G} {n : Nat} {Z : Wm} {X : Wa}
def IsEq (prog : Program) (w : World) (m : Nat) (x y : Addr) (b1 b2 : Bool) (g : G) : Prop := Pu prog w (KP w.params) (m + 1) (call (.ref 567) [.ref x, .ref y]) (fun r g' => r = .bool (b1 && b2)) g
theorem mapSelf {x C : Addr} {as : List Addr} (hx : InstOf g x C as) (hC : Cl g C) : Pu prog w (KP w.params) 3 (call (.ref 524) [.ref x, .ref C]) (fun r g' => r = .ref x ∧ g' = g) g := by
  obtain ⟨e, I, _⟩ := hx
  obtain ⟨dC, hdC⟩ := hC
  refine Fn.def (f := 524) (n := 2) (binds := [("instance", .ref x), ("superclass", .ref C)]) rfl ⟨rfl, rfl, rfl, rfl, rfl, rfl, by kernel_rfl, by decide +kernel, by kernel_rfl⟩ rfl (fun s X => BindsTo.of_eq rfl) rfl fun c O W hS => ?_
  dsimp only [ofBinds, List.foldl_cons, List.foldl_nil] at hS ⊢
  tb_start
  refine T.isRef hdC hdC (fun _ q => nomatch q) (fun _ q => nomatch q) ?_
  rw [decide_eq_true rfl]
  tb_start
  exact ⟨rfl, rfl⟩
theorem mapBare {x C D : Addr} {as : List Addr} {nm : Str} {bs mro : List Addr} (hx : InstOf g x C as) (hC : Cl g C) (hD : ClsA g D nm [] bs mro) (hne : C ≠ D) :
    Pu prog w (KP w.params) 9 (call (.ref 524) [.ref x, .ref D]) (fun r g' => ∃ y, r = .ref y ∧ InstOf g' y D []) g := by
  obtain ⟨e, I, _⟩ := hx
  obtain ⟨dC, hdC⟩ := hC
  obtain ⟨dD, hdD⟩ := hD.cl
  obtain ⟨t0, dd, tvl, nml, bl, ml, names, o1, o2, o3, o4, o5, o6, o7⟩ := hD.obj
  have hn : names = [] := List.eq_nil_of_length_eq_zero (by simpa using o5)
  subst hn
  refine Fn.def (f := 524) (n := 8) (binds := [("instance", .ref x), ("superclass", .ref D)]) rfl ⟨rfl, rfl, rfl, rfl, rfl, rfl, by kernel_rfl, by decide +kernel, by kernel_rfl⟩ rfl (fun s X => BindsTo.of_eq rfl) rfl fun c O W hS => ?_
  dsimp only [ofBinds, List.foldl_cons, List.foldl_nil] at hS ⊢
  tb_start
  refine T.isRef hdC hdD (fun _ q => nomatch q) (fun _ q => nomatch q) ?_
  rw [decide_eq_false hne]
  tb_start
  refine T.truthyL (.inl o4) (by simp) ?_
  tb_start
  refine T.newListF (by simp) fun a ha => ?_
  tb_start
  refine T.pu O (mk_Instance (vs := []) setG_self (by simp)) (by omega) fun r g' l ⟨y, e', q1, q2, q3⟩ => ?_
  tb_start
  exact ⟨y, q1, e', q2, q3⟩
theorem checkPar {m v : Nat} {x y : Addr} {s : Tr} {tk : Tok} {b1 b2 : Bool} (hm : 5 ≤ m) (hW : Wk g Z X) (hx : TyR g X x s) (hv : 4 ≤ v) (hv2 : v ≤ 6) (h : ∀ g', Le g g' → isSubC prog w m x y b1 g' ∧ isSubC prog w m y x b2 g') :
    Pu prog w (KP w.params) (m + 2) (call (.ref 584) [.ref x, .ref y, .int (vrc v) tk, .bool false]) (fun r g' => r = .bool (if v == 4 then b1 else if v == 5 then b2 else b1 && b2)) g := by
  obtain ⟨k0, gi⟩ := gl_INVARIANT w.params
  obtain ⟨k1, gc⟩ := gl_COVARIANT w.params
  obtain ⟨k2, gd⟩ := gl_CONTRAVARIANT w.params
  have hv3 : v = 4 ∨ v = 5 ∨ v = 6 := by omega
  refine Fn.def (f := 584) (n := (m + 1)) (binds := [("left", .ref x), ("right", .ref y), ("variance", .int (vrc v) tk), ("proper_subtype", .bool false)]) rfl ⟨rfl, rfl, rfl, rfl, rfl, rfl, by kernel_rfl, by decide +kernel, by kernel_rfl⟩ rfl (fun s X => BindsTo.of_eq rfl) rfl fun c O W hS => ?_
  dsimp only [ofBinds, List.foldl_cons, List.foldl_nil] at hS ⊢
  rcases hv3 with rfl | rfl | rfl
  · have e : vrc 4 = 1 := rfl
    rw [e]
    tb_start
    refine T.glob O hS gi (by kernel_rfl) (by kernel_rfl) ?_
    tb_start
    refine T.glob O hS gc (by kernel_rfl) (by kernel_rfl) ?_
    tb_start
    refine T.pu O (h _ (Le.refl _)).1.2 (by omega) fun r g' l q => ?_
    tb_start
    exact q
  · have e : vrc 5 = 2 := rfl
    rw [e]
    tb_start
    refine T.glob O hS gi (by kernel_rfl) (by kernel_rfl) ?_
    tb_start
    refine T.glob O hS gc (by kernel_rfl) (by kernel_rfl) ?_
    tb_start
    refine T.glob O hS gd (by kernel_rfl) (by kernel_rfl) ?_
    tb_start
    refine T.pu O (h _ (Le.refl _)).2.2 (by omega) fun r g' l q => ?_
    tb_start
    exact q
  · have e : vrc 6 = 0 := rfl
    rw [e]
    tb_start
    refine T.glob O hS gi (by kernel_rfl) (by kernel_rfl) ?_
    tb_start
    refine T.isiTy O hW hx .bot rfl ?_
    tb_start
    have eqv : IsEq prog w m x y b1 b2 g := isEquiv (h _ (Le.refl _)).1 fun g' l => (h g' l).2
    refine IfK.split (fun q => ?_) fun q => ?_
    · cases hx with
      | cls => cases q
      | app => cases q
      | var => cases q
      | none => cases q
      | uni => cases q
      | bot I =>
        tb_start
        refine T.glob O hS gc (by kernel_rfl) (by kernel_rfl) ?_
        tb_start
        refine T.glob O hS gd (by kernel_rfl) (by kernel_rfl) ?_
        tb_start
        refine T.pu O eqv (by omega) fun r g' l q => ?_
        tb_start
        exact q
    · tb_start
      refine T.glob O hS gc (by kernel_rfl) (by kernel_rfl) ?_
      tb_start
      refine T.glob O hS gd (by kernel_rfl) (by kernel_rfl) ?_
      tb_start
      refine T.pu O eqv (by omega) fun r g' l q => ?_
      tb_start
      exact q
/-- the names along the mro of a type's class -/
def namesOf (Z : Wm) : Tr → List Str | .cls k => (Z.up k).map nmK | .app v _ => [nmK v, nmK 0] | _ => []
theorem nmK_inj {u v : Nat} (hu : u < 7) (hv : v < 7) (h : nmK u = nmK v) : u = v := by
  have := List.all_eq_true.mp (show ((List.range 7).all fun u => (List.range 7).all fun v => !(nmK u == nmK v) || u == v) = true by decide +kernel) u (List.mem_range.mpr hu)
  have := List.all_eq_true.mp this v (List.mem_range.mpr hv)
  rw [h] at this
  simpa using this
theorem upAny (hW : Wk g Z X) {k l : Nat} (hk : k < 4) (hl : l < 7) : ((Z.up k).map nmK).any (· == nmK l) = (Z.up k).contains l := by
  rw [Bool.eq_iff_iff, List.any_eq_true]
  constructor
  · rintro ⟨s, hs, e⟩
    obtain ⟨j, hj, rfl⟩ := List.mem_map.mp hs
    have hj4 := hW.upk k hk j hj
    have := nmK_inj (by omega) hl (beq_iff_eq.mp e)
    subst this
    simpa using hj
  · intro h
    exact ⟨nmK l, List.mem_map.mpr ⟨l, by simpa using h, rfl⟩, by simp⟩
theorem visitRaw {m : Nat} {V x y C D : Addr} {as bs cs tvsC bsC mro tvsD bsD mroD : List Addr} {nmC nmD : Str} {nms : List Str} {e : Nat → Bool} (hm : 5 ≤ m) (hV : Inst g V 648 [("right", .ref y), ("proper_subtype", .bool false)]) (hx : InstOf g x C as) (hC : ClsA g C nmC tvsC bsC mro) (hM : MroN g mro nms)
    (hy : InstOf g y D bs) (hD : ClsA g D nmD tvsD bsD mroD) (hl : bs.length = tvsD.length)
    (hmap : nms.any (· == nmD) = true → cs.length = tvsD.length ∧ (∀ g', Le g g' → Pu prog w (KP w.params) m (call (.ref 524) [.ref x, .ref D]) (fun r g' => ∃ y, r = .ref y ∧ InstOf g' y D cs) g') ∧
      ∀ (g' : G) (j : Nat) (a b tv : Addr), Le g g' → cs[j]? = some a → bs[j]? = some b → tvsD[j]? = some tv → ∃ nm t0 d ub vl v t1, Inst g' tv 204 [("name", .str nm t0), ("id", .ref d), ("upper_bound", .ref ub), ("values", .ref vl), ("variance", .int v t1)] ∧ Pu prog w (KP w.params) m (call (.ref 584) [.ref a, .ref b, .int v t1, .bool false]) (fun r _ => r = .bool (e j)) g') :
    Pu prog w (KP w.params) (m + 1) (call (.ref 633) [.ref V, .ref x]) (fun r g' => r = .bool (nms.any (· == nmD) && (List.range tvsD.length).all e)) g := by
  obtain ⟨ex, Ix, Ex⟩ := hx
  obtain ⟨ey, Iy, Ey⟩ := hy
  obtain ⟨t0, dd, tvl, nml, bl, ml, names, o1, o2, o3, o4, o5, o6, o7⟩ := hC.obj
  obtain ⟨t0', dd', tvl', nml', bl', ml', names', p1, p2, p3, p4, p5, p6, p7⟩ := hD.obj
  refine Fn.def (f := 633) (n := m) (binds := [("self", .ref V), ("left", .ref x)]) rfl ⟨rfl, rfl, rfl, rfl, rfl, rfl, by kernel_rfl, by decide +kernel, by kernel_rfl⟩ rfl (fun s X => BindsTo.of_eq rfl) rfl fun c O W hS => ?_
  dsimp only [ofBinds, List.foldl_cons, List.foldl_nil] at hS ⊢
  tb_start
  refine T.pu O (hasBase hC hM) (by omega) fun r g1 l1 q => ?_
  subst q
  tb_start
  refine IfK.split (fun q => ?_) fun q => ?_
  · obtain ⟨hc, hpu, hchk⟩ := hmap q
    rw [q, Bool.true_and]
    tb_start
    refine T.pu O (hpu g1 l1) (Nat.le_refl _) fun r g2 l2 ⟨y2, q1, e2, I2, E2⟩ => ?_
    subst q1
    have l12 := l1.trans l2
    have Iy2 := Iy.mono l12
    have Ey2 := Ey.mono l12
    have p1' := p1.mono l12
    have p2' := p2.mono l12
    have p3' := p3.mono l12
    have hV' := hV.mono l12
    tb_start
    refine T.zipTTL E2 Ey2 p3' fun z TI TO i1 i2 i3 => ?_
    tb_start
    refine T.for_ O W hS (fun _ => rfl) ?_
    tb_start
    refine Seqs.zip (m := tvsD.length) O (fun d hd => ?_) (fun d hd => ?_) (by simp) ⟨fun j g' ρ' M => ρ' "nominal" = some (.bool ((List.range j).all e)) ∧ ρ' "self" = some (.ref V) ∧ M = [], ⟨by show _ = some (Value.bool true); k_subL, by k_subL, rfl⟩, ?_, ?_⟩
    · simp only [List.mem_cons, List.not_mem_nil, or_false] at hd
      rcases hd with rfl | rfl | rfl
      · exact E2
      · exact Ey2
      · exact p3'
    · simp only [List.mem_cons, List.not_mem_nil, or_false] at hd
      rcases hd with rfl | rfl | rfl
      · simp [hc]
      · simp [hl]
      · simp
    · rintro c' O' W' hS' j v g' ρ' M hj ⟨T0, vals, rfl, hv, hT0⟩ l ⟨v1, v2, rfl⟩
      have hu : j < cs.length := by omega
      have hw : j < bs.length := by omega
      have hvals : vals = [.ref cs[j], .ref bs[j], .ref tvsD[j]] := by
        have : vals.map some = [some (Value.ref cs[j]), some (.ref bs[j]), some (.ref tvsD[j])] := by
          rw [hv]; simp [List.getElem?_eq_getElem hj, List.getElem?_eq_getElem hu, List.getElem?_eq_getElem hw]
        exact List.map_inj_right (f := some) (fun _ _ h => Option.some.inj h) |>.mp this
      subst hvals
      obtain ⟨nm, t3, d, ub, vl, vv, t4, Iv, hck⟩ := hchk g' j cs[j] bs[j] tvsD[j] (l12.trans l) (List.getElem?_eq_getElem hu) (List.getElem?_eq_getElem hw) (List.getElem?_eq_getElem hj)
      have hV2 := hV'.mono l
      generalize tvsD[j] = tv at hT0 Iv
      generalize cs[j] = ba at hT0 hck
      generalize bs[j] = bb at hT0 hck
      refine T.unpackT O' (.inl hT0) rfl rfl ?_
      refine T.inOrder_cons (T.assign_stored ?_)
      tb_start
      refine T.inOrder_cons (T.assign_stored ?_)
      tb_start
      refine T.inOrder_cons (T.assign_stored ?_)
      tb_start
      refine T.inOrder_nil ?_
      tb_start
      refine T.pu O' hck (Nat.le_refl _) fun r g5 l5 q => ?_
      subst q
      tb_start
      have hr : (List.range (j + 1)).all e = ((List.range j).all e && e j) := by rw [List.range_succ, List.all_append]; simp
      refine IfK.split (fun q => ?_) fun q => ?_
      · have q' : e j = false := by simpa using q
        tb_start
        exact ⟨by rw [hr, q', Bool.and_false]; k_subL, by k_subL, rfl⟩
      · have q' : e j = true := by simpa using q
        tb_start
        exact ⟨by rw [hr, q', Bool.and_true]; k_subL, by k_subL, rfl⟩
    · rintro g' ρ' M l ⟨v1, v2, rfl⟩
      refine ExecK.next ?_
      tb_start
      rfl
  · tb_start
    rw [q]; rfl
theorem visitNoI {m : Nat} {V x y : Addr} {s t : Tr} (hW : Wk g Z X) (hV : Inst g V 648 [("right", .ref y), ("proper_subtype", .bool false)]) (hy : TyR g X y t) (hs : t.kd ≠ .inst) :
    Pu prog w (KP w.params) (m + 1) (call (.ref 633) [.ref V, .ref x]) (fun r g' => r = .bool false) g := by
  have e : t.kd.is .inst = false := by cases q : t.kd <;> first | rfl | exact absurd q hs
  refine Fn.def (f := 633) (n := m) (binds := [("self", .ref V), ("left", .ref x)]) rfl ⟨rfl, rfl, rfl, rfl, rfl, rfl, by kernel_rfl, by decide +kernel, by kernel_rfl⟩ rfl (fun s X => BindsTo.of_eq rfl) rfl fun c O W hS => ?_
  dsimp only [ofBinds, List.foldl_cons, List.foldl_nil] at hS ⊢
  tb_start
  refine T.isiTy O hW hy .inst rfl ?_
  rw [e]
  tb_start
  rfl
theorem visitInst {m : Nat} {V x y : Addr} {s t : Tr} (hm : 12 ≤ m) (hW : Wk g Z X) (hV : Inst g V 648 [("right", .ref y), ("proper_subtype", .bool false)]) (hx : TyR g X x s) (hy : TyR g X y t) (hs : s.kd = .inst) (htU : t.kd ≠ .uni)
    (h : ∀ (g' : G) (x' y' : Addr) (v : Nat) (s' t' : Tr), Le g g' → s = .app v s' → t = .app v t' → TyR g' X x' s' → TyR g' X y' t' → isSubC prog w m x' y' (B Z s' t') g' ∧ isSubC prog w m y' x' (B Z t' s') g') :
    Pu prog w (KP w.params) (m + 3) (call (.ref 633) [.ref V, .ref x]) (fun r g' => r = .bool (B Z s t)) g := by
  cases hx with
  | var => cases hs
  | none => cases hs
  | bot => cases hs
  | uni => cases hs
  | @cls _ k hk i =>
    obtain ⟨bsC, mro, cC, hM⟩ := hW.cls k hk
    cases hy with
    | @cls _ l hl j =>
      obtain ⟨bsD, mroD, cD, hMD⟩ := hW.cls l hl
      refine ((visitRaw (m := m) (cs := []) (e := fun _ => true) (by omega) hV i cC hM j cD rfl fun q => ⟨rfl, fun g' lg => ?_, fun g' j a b tv _ ha => by simp at ha⟩).of_room (by omega)).mono (Nat.le_refl _) fun r g' _ q => ?_
      · by_cases e : k = l
        · subst e
          exact ((mapSelf (i.mono lg) (cC.cl.mono lg)).of_room (by omega)).mono (Nat.le_refl _) fun r g' l ⟨q1, q2⟩ => ⟨x, q1, by subst q2; exact i.mono lg⟩
        · exact (mapBare (i.mono lg) (cC.cl.mono lg) (cD.mono lg) (fun z => e (hW.inj k l (by omega) (by omega) z))).of_room (by omega)
      · rw [q, upAny hW hk (by omega), B]; simp
    | @app _ y' u t hu hu2 j hy' =>
      obtain ⟨tv, bsD, mroD, nm, t0, d, ub, vl, t1, cD, hMD, Itv⟩ := hW.app u hu hu2
      have e : ((Z.up k).map nmK).any (· == nmK u) = false := by
        rw [upAny hW hk (by omega)]
        by_cases q : (Z.up k).contains u = true
        · have := hW.upk k hk u (by simpa using q); omega
        · simpa using q
      refine ((visitRaw (m := m) (cs := []) (e := fun _ => true) (by omega) hV i cC hM j cD rfl fun q => by rw [e] at q; cases q).of_room (by omega)).mono (Nat.le_refl _) fun r g' _ q => ?_
      rw [q, e, B]; rfl
    | var hv => exact ((visitNoI (m := 0) (s := .cls k) hW hV (.var hv) (fun z => nomatch z)).of_room (by omega)).mono (Nat.le_refl _) fun r g' _ q => by rw [q, B]
    | none I => exact ((visitNoI (m := 0) (s := .cls k) hW hV (.none I) (fun z => nomatch z)).of_room (by omega)).mono (Nat.le_refl _) fun r g' _ q => by rw [q, B]
    | bot I => exact ((visitNoI (m := 0) (s := .cls k) hW hV (.bot I) (fun z => nomatch z)).of_room (by omega)).mono (Nat.le_refl _) fun r g' _ q => by rw [q, B]
    | uni => exact absurd rfl htU
  | @app _ x' v s hv hv2 i hx' =>
    obtain ⟨tvv, bsC, mro, nmv, t0v, dv, ubv, vlv, t1v, cC, hM, Itvv⟩ := hW.app v hv hv2
    have any2 : ∀ l, l < 7 → ([nmK v, nmK 0]).any (· == nmK l) = (l == v || l == 0) := fun l hl => by
      rw [Bool.eq_iff_iff]
      simp only [List.any_cons, List.any_nil, Bool.or_false, Bool.or_eq_true, beq_iff_eq]
      exact ⟨fun h => h.imp (fun h => nmK_inj hl (by omega) h.symm) fun h => nmK_inj hl (by omega) h.symm, fun h => h.imp (fun h => by rw [h]) fun h => by rw [h]⟩
    cases hy with
    | @cls _ l hl j =>
      obtain ⟨bsD, mroD, cD, hMD⟩ := hW.cls l hl
      refine ((visitRaw (m := m) (cs := []) (e := fun _ => true) (by omega) hV i cC hM j cD rfl fun q => ⟨rfl, fun g' lg => ?_, fun g' j a b tv _ ha => by simp at ha⟩).of_room (by omega)).mono (Nat.le_refl _) fun r g' _ q => ?_
      · exact (mapBare (i.mono lg) (cC.cl.mono lg) (cD.mono lg) (fun z => by have := hW.inj v l (by omega) (by omega) z; omega)).of_room (by omega)
      · rw [q, any2 l (by omega), B]
        have : (l == v) = false := by rw [beq_eq_false_iff_ne]; omega
        rw [this]; simp
    | @app _ y' u t hu hu2 j hy' =>
      obtain ⟨tv, bsD, mroD, nm, t0, d, ub, vl, t1, cD, hMD, Itv⟩ := hW.app u hu hu2
      have e0 : (u == 0) = false := by rw [beq_eq_false_iff_ne]; omega
      refine (visitRaw (m := m + 2) (cs := [x']) (e := fun _ => if v == 4 then B Z s t else if v == 5 then B Z t s else B Z s t && B Z t s) (by omega) hV i cC hM j cD rfl fun q => ?_).mono (Nat.le_refl _) fun r g' _ q => ?_
      · rw [any2 u (by omega), e0, Bool.or_false] at q
        have q' : u = v := by simpa using q
        subst q'
        refine ⟨rfl, fun g' lg => ((mapSelf (i.mono lg) (cC.cl.mono lg)).of_room (by omega)).mono (Nat.le_refl _) fun r g' l ⟨q1, q2⟩ => ⟨x, q1, by subst q2; exact i.mono lg⟩, fun g' jj a b tv' lg ha hb htv => ?_⟩
        have hj : jj = 0 := by
          have := (List.getElem?_eq_some_iff.mp ha).1
          simpa using this
        subst hj
        cases ha
        cases hb
        cases htv
        exact ⟨nm, t0, d, ub, vl, vrc u, t1, Itv.mono lg, checkPar (by omega) (hW.mono lg) (hx'.mono lg) hu hu2 fun g2 l2 => h g2 x' y' u s t (lg.trans l2) rfl rfl (hx'.mono (lg.trans l2)) (hy'.mono (lg.trans l2))⟩
      · rw [q, any2 u (by omega), e0, Bool.or_false, B]
        simp
    | var hv => exact ((visitNoI (m := 0) (s := .app v s) hW hV (.var hv) (fun z => nomatch z)).of_room (by omega)).mono (Nat.le_refl _) fun r g' _ q => by rw [q, B]
    | none I => exact ((visitNoI (m := 0) (s := .app v s) hW hV (.none I) (fun z => nomatch z)).of_room (by omega)).mono (Nat.le_refl _) fun r g' _ q => by rw [q, B]
    | bot I => exact ((visitNoI (m := 0) (s := .app v s) hW hV (.bot I) (fun z => nomatch z)).of_room (by omega)).mono (Nat.le_refl _) fun r g' _ q => by rw [q, B]
    | uni => exact absurd rfl htU

end
section
variable {prog : Program} {w : World} {g : G} {n : Nat} {Z : Wm} {X : Wa}
def accF : Kd → Addr | .var => 194 | .bot => 262 | .inst => 321 | .uni => 376 | .none => 295
theorem mtAcc (P : Params) : ∀ D : Kd, methOk (KP P) D.cls "accept" (accF D) = true
  | .var => by kernel_rfl
  | .bot => by kernel_rfl
  | .inst => by kernel_rfl
  | .uni => by kernel_rfl
  | .none => by kernel_rfl
theorem kpAcc (P : Params) : ∀ D : Kd, keepIn (KP P) (.ref (accF D)) = true
  | .var => kp_194 P
  | .bot => kp_262 P
  | .inst => kp_321 P
  | .uni => kp_376 P
  | .none => kp_295 P
theorem TyR.kv {x : Addr} {s : Tr} (hW : Wk g Z X) (h : TyR g X x s) : ∃ kv, Inst g x s.kd.cls kv ∧ kv.lookup ("accept" : Str) = Option.none := by
  cases h with
  | cls _ i => obtain ⟨_, I, _⟩ := i; exact ⟨_, I, by kernel_rfl⟩
  | app _ _ i => obtain ⟨_, I, _⟩ := i; exact ⟨_, I, by kernel_rfl⟩
  | var hv => obtain ⟨_, _, _, _, _, _, I, _⟩ := hW.var _ hv; exact ⟨_, I, by kernel_rfl⟩
  | none I => exact ⟨_, I, rfl⟩
  | bot I => exact ⟨_, I, by kernel_rfl⟩
  | uni I => exact ⟨_, I, by kernel_rfl⟩
theorem T.accM {c : Cx} {ρ : Str → Option Value} {M : Mem} {x : Addr} {s : Tr} {pl : Sem Bool} {Q : Post (Value × List Value)} (O : c.Ok (KP w.params) n) (hW : Wk g Z X) (h : TyR g X x s) (k : Q (.ref (accF s.kd), [.ref x]) g ρ M) : T prog w c (getMethod (.ref x) "accept" pl) Q g ρ M := by
  obtain ⟨kv, I, e⟩ := h.kv hW
  exact T.method O I (mtAcc _ _) e k
def Acc (prog : Program) (w : World) (m : Nat) (x y : Addr) (s : Tr) (b : Bool) (g : G) : Prop := ∀ g' V, Le g g' → Inst g' V 648 [("right", .ref y), ("proper_subtype", .bool false)] → Pu prog w (KP w.params) m (call (.ref (accF s.kd)) [.ref x, .ref V] []) (fun r g' => r = .bool b) g'
theorem Kd.is_refl (C : Kd) : C.is C = true := by cases C <;> rfl
theorem Kd.is_ne {C D : Kd} (h : C ≠ D) : C.is D = false := by cases C <;> cases D <;> first | exact absurd rfl h | rfl
/-- _is_subtype where the right one is no union, or both are -/
theorem isSubA {m : Nat} {x y : Addr} {s t : Tr} {b : Bool} (hm : 5 ≤ m) (hW : Wk g Z X) (hx : TyR g X x s) (hy : TyR g X y t) (hk : t.kd ≠ .uni ∨ s.kd = .uni) (h : Acc prog w m x y s b g) :
    Pu prog w (KP w.params) (m + 1) (call (.ref 577) [.ref x, .ref y, .bool false]) (fun r g' => r = .bool b) g := by
  refine Fn.def (f := 577) (n := m) (binds := [("left", .ref x), ("right", .ref y), ("proper_subtype", .bool false)]) rfl ⟨rfl, rfl, rfl, rfl, rfl, rfl, by kernel_rfl, by decide +kernel, by kernel_rfl⟩ rfl (fun s X => BindsTo.of_eq rfl) rfl fun c O W hS => ?_
  dsimp only [ofBinds, List.foldl_cons, List.foldl_nil] at hS ⊢
  tb_start
  refine T.isiAny O hW hy ?_
  tb_start
  refine T.isiTy O hW hy .uni rfl ?_
  tb_start
  refine IfK.split (fun q => ?_) fun q => ?_
  · have hs : s.kd = .uni := hk.resolve_left fun h => by rw [Kd.is_ne h] at q; cases q
    have ht : t.kd = .uni := by
      by_cases h : t.kd = .uni
      · exact h
      · rw [Kd.is_ne h] at q; cases q
    tb_start
    refine T.isiTy O hW hx .uni rfl ?_
    rw [hs]
    tb_start
    refine T.isiTy O hW hy .var rfl ?_
    rw [ht]
    tb_start
    refine T.accM O hW hx ?_
    refine T.cw1K O (kpAcc _ _) (by kernel_rfl) ?_
    tb_start
    refine T.pu O mk_SubtypeVisitor (by omega) fun r g' l ⟨V, q1, q2⟩ => ?_
    subst q1
    tb_start
    refine T.pu O (h g' V l q2) (Nat.le_refl _) fun r g2 l2 q => ?_
    tb_start
    exact q
  · tb_start
    refine T.isiTy O hW hy .var rfl ?_
    tb_start
    have fin : ∀ {ρ : Str → Option Value}, True := trivial
    refine IfK.split (fun q => ?_) fun q => ?_
    · cases hy with
      | cls => cases q
      | app => cases q
      | none => cases q
      | bot => cases q
      | uni => cases q
      | @var v hv =>
        obtain ⟨nm, t0, d, ub, vl, t1, I, hd, hl, hub, hb⟩ := hW.var v hv
        tb_start
        refine T.truthyL (.inl hl) (by simp) ?_
        tb_start
        refine T.accM O hW hx ?_
        refine T.cw1K O (kpAcc _ _) (by kernel_rfl) ?_
        tb_start
        refine T.pu O mk_SubtypeVisitor (by omega) fun r g' l ⟨V, q1, q2⟩ => ?_
        subst q1
        tb_start
        refine T.pu O (h g' V l q2) (Nat.le_refl _) fun r g2 l2 q => ?_
        tb_start
        exact q
    · tb_start
      refine T.accM O hW hx ?_
      refine T.cw1K O (kpAcc _ _) (by kernel_rfl) ?_
      tb_start
      refine T.pu O mk_SubtypeVisitor (by omega) fun r g' l ⟨V, q1, q2⟩ => ?_
      subst q1
      tb_start
      refine T.pu O (h g' V l q2) (Nat.le_refl _) fun r g2 l2 q => ?_
      tb_start
      exact q
/-- _is_subtype where the right one alone is a union -/
theorem isSubB {m : Nat} {x y l : Addr} {as : List Addr} {s a b : Tr} (hm : 5 ≤ m) (hW : Wk g Z X) (hx : TyR g X x s) (I : Inst g y 379 [("items", .ref l)]) (hl : Lst g l (as.map .ref)) (hz : as.length ≤ 400) (ha : TysR g X as (Tr.uni a b).leaves) (hs : s.isUni = false)
    (hi : ∀ g' y' t', Le g g' → t' ∈ (Tr.uni a b).leaves → TyR g' X y' t' → isSubC prog w m x y' (B Z s t') g')
    (h : s.kd = .var → B Z s (.uni a b) = false → ∀ g', Le g g' → Acc prog w m x y s false g') :
    Pu prog w (KP w.params) (m + 1) (call (.ref 577) [.ref x, .ref y, .bool false]) (fun r g' => r = .bool (B Z s (.uni a b))) g := by
  have hsk : s.kd.is .uni = false := Kd.is_ne (by cases s <;> first | (cases hs; done) | (intro z; cases z))
  have hy : TyR g X y (.uni a b) := .uni I hl hz ha
  refine Fn.def (f := 577) (n := m) (binds := [("left", .ref x), ("right", .ref y), ("proper_subtype", .bool false)]) rfl ⟨rfl, rfl, rfl, rfl, rfl, rfl, by kernel_rfl, by decide +kernel, by kernel_rfl⟩ rfl (fun s X => BindsTo.of_eq rfl) rfl fun c O W hS => ?_
  dsimp only [ofBinds, List.foldl_cons, List.foldl_nil] at hS ⊢
  tb_start
  refine T.isiTy O hW hx .uni rfl ?_
  rw [hsk]
  tb_start
  refine T.lc O hS (by kernel_rfl) (by kernel_rfl) (fun _ => rfl) ?_
  tb_start
  refine Seqs.list O hl (LcK.map (fun i v g' => ∃ t, (Tr.uni a b).leaves[i]? = some t ∧ v = .bool (B Z s t)) (fun _ _ _ _ _ h => h) (by kernel_rfl) (by rw [List.length_map]; omega) ?_ ?_)
  · intro D' c' O' hS' i v g' ρ' acc hi' hv l' hρ
    obtain ⟨z, hz', rfl⟩ := refs_get hv
    obtain ⟨t, et, htr⟩ := ha.get hz'
    have e1 : ρ' "left" = some (.ref x) := (hρ "left" (by kernel_rfl)).trans (by k_subL)
    have e2 : ρ' "proper_subtype" = some (.bool false) := (hρ "proper_subtype" (by kernel_rfl)).trans (by k_subL)
    tb_start
    refine T.pu O' (hi g' z t l' (List.mem_of_getElem? et) (htr.mono l')).2 (Nat.le_refl _) fun r g2 l2 q => ?_
    exact ⟨rfl, t, et, q⟩
  intro L1 ys g1 l1 hlen hys
  have e1 := bools_of (f := fun t => B Z s t) (ts := (Tr.uni a b).leaves) (by rw [hlen, List.length_map, ha.length]) hys
  subst e1
  tb_start
  refine T.anyB O (.inr (.head _)) ?_
  rw [any_map_id, ← B_leavesR hs]
  tb_start
  refine T.isiTy O (hW.mono l1) (hx.mono l1) .var rfl ?_
  tb_start
  by_cases hv : s.kd = .var
  · rw [hv]
    tb_start
    refine IfK.split (fun q => ?_) fun q => ?_
    · tb_start
      rw [q]; rfl
    · tb_start
      refine T.accM O (hW.mono l1) (hx.mono l1) ?_
      refine T.cw1K O (kpAcc _ _) (by kernel_rfl) ?_
      tb_start
      refine T.pu O mk_SubtypeVisitor (by omega) fun r g' l ⟨V, q1, q2⟩ => ?_
      subst q1
      tb_start
      refine T.pu O (h hv q g1 l1 g' V l q2) (Nat.le_refl _) fun r g2 l2 q' => ?_
      tb_start
      rw [q]; exact q'
  · rw [Kd.is_ne hv]
    tb_start
    rfl

end
section
variable {prog : Program} {w : World} {g : G} {n : Nat} {Z : Wm} {X : Wa}
def VisR (g : G) (V y : Addr) : Prop := Inst g V 648 [("right", .ref y), ("proper_subtype", .bool false)]
theorem namedInst {y : Addr} {t : Tr} {tk : Tok} (hW : Wk g Z X) (hy : TyR g X y t) : Pu prog w (KP w.params) 2 (call (.ref 388) [.ref y, .str "builtins.object" tk]) (fun r g' => r = .bool (match t with | .cls l => l == 0 | _ => false)) g := by
  refine Fn.def (f := 388) (n := 1) (binds := [("t", .ref y), ("fullname", .str "builtins.object" tk)]) rfl ⟨rfl, rfl, rfl, rfl, rfl, rfl, by kernel_rfl, by decide +kernel, by kernel_rfl⟩ rfl (fun s X => BindsTo.of_eq rfl) rfl fun c O W hS => ?_
  dsimp only [ofBinds, List.foldl_cons, List.foldl_nil] at hS ⊢
  tb_start
  refine T.isiTy O hW hy .inst rfl ?_
  tb_start
  cases hy with
  | @cls _ l hl j =>
    obtain ⟨e, I, _⟩ := j
    obtain ⟨bsD, mroD, cD, hMD⟩ := hW.cls l hl
    obtain ⟨t0, dd, tvl, nml, bl, ml, names, o1, o2, o3, o4, o5, o6, o7⟩ := cD.obj
    rw [show (Tr.cls l).kd.is .inst = true from rfl]
    tb_start
    show Value.bool _ = .bool (l == 0)
    congr 1
    rw [Bool.eq_iff_iff, beq_iff_eq, beq_iff_eq]
    exact ⟨fun h => nmK_inj (u := l) (v := 0) (by omega) (by omega) h, fun h => by rw [h]; rfl⟩
  | @app _ x' v t hv hv2 j hx' =>
    obtain ⟨e, I, _⟩ := j
    obtain ⟨tv, bsD, mroD, nm, t0', d, ub, vl, t1, cD, hMD, Itv⟩ := hW.app v hv hv2
    obtain ⟨t0, dd, tvl, nml, bl, ml, names, o1, o2, o3, o4, o5, o6, o7⟩ := cD.obj
    rw [show (Tr.app v t).kd.is .inst = true from rfl]
    tb_start
    show Value.bool _ = .bool false
    congr 1
    rw [beq_eq_false_iff_ne]
    intro h
    have := nmK_inj (u := v) (v := 0) (by omega) (by omega) h
    omega
  | var hv => rw [show (Tr.var _).kd.is .inst = false from rfl]; tb_start; rfl
  | none I => rw [show Tr.none.kd.is .inst = false from rfl]; tb_start; rfl
  | bot I => rw [show Tr.bot.kd.is .inst = false from rfl]; tb_start; rfl
  | uni I => rw [show (Tr.uni _ _).kd.is .inst = false from rfl]; tb_start; rfl
theorem accNone {x y : Addr} {t : Tr} (hW : Wk g Z X) (I : Inst g x 298 []) (hy : TyR g X y t) (htU : t.kd ≠ .uni) : Acc prog w 6 x y .none (B Z .none t) g := by
  intro g1 V l1 hV
  have hW1 := hW.mono l1
  have hy1 := hy.mono l1
  have vis : Pu prog w (KP w.params) 5 (call (.ref 619) [.ref V, .ref x] []) (fun r g' => r = .bool (B Z .none t)) g1 := by
    refine Fn.def (f := 619) (n := 4) (binds := [("self", .ref V), ("left", .ref x)]) rfl ⟨rfl, rfl, rfl, rfl, rfl, rfl, by kernel_rfl, by decide +kernel, by kernel_rfl⟩ rfl (fun s X => BindsTo.of_eq rfl) rfl fun c O W hS => ?_
    dsimp only [ofBinds, List.foldl_cons, List.foldl_nil] at hS ⊢
    tb_start
    refine T.isiTy O hW1 hy1 .none rfl ?_
    tb_start
    refine IfK.split (fun q => ?_) fun q => ?_
    · cases t with
      | none => show Value.bool _ = _; rw [q, B]
      | _ => cases q
    · tb_start
      refine T.pu O (namedInst hW1 hy1) (by omega) fun r g' l q' => ?_
      subst q'
      show Value.bool _ = _
      cases t with
      | none => cases q
      | uni => exact absurd rfl htU
      | cls l => rw [B]
      | app v t => rw [B]
      | var v => rw [B]
      | bot => rw [B]
  have I1 := I.mono l1
  refine Fn.def (f := 295) (n := 5) (binds := [("self", .ref x), ("visitor", .ref V)]) rfl ⟨rfl, rfl, rfl, rfl, rfl, rfl, by kernel_rfl, by decide +kernel, by kernel_rfl⟩ rfl (fun s X => BindsTo.of_eq rfl) rfl fun c O W hS => ?_
  dsimp only [ofBinds, List.foldl_cons, List.foldl_nil] at hS ⊢
  tb_start
  refine T.pu O vis (by omega) fun r g' l q => ?_
  tb_start
  exact q
theorem accBot {x y : Addr} {t : Tr} (I : Inst g x 272 [("ambiguous", .bool false)]) : Acc prog w 6 x y .bot (B Z .bot t) g := by
  intro g1 V l1 hV
  have vis : Pu prog w (KP w.params) 5 (call (.ref 626) [.ref V, .ref x] []) (fun r g' => r = .bool (B Z .bot t)) g1 := by
    refine Fn.def (f := 626) (n := 4) (binds := [("self", .ref V), ("left", .ref x)]) rfl ⟨rfl, rfl, rfl, rfl, rfl, rfl, by kernel_rfl, by decide +kernel, by kernel_rfl⟩ rfl (fun s X => BindsTo.of_eq rfl) rfl fun c O W hS => ?_
    dsimp only [ofBinds, List.foldl_cons, List.foldl_nil] at hS ⊢
    tb_start
    rw [B_bot]; rfl
  have I1 := I.mono l1
  refine Fn.def (f := 262) (n := 5) (binds := [("self", .ref x), ("visitor", .ref V)]) rfl ⟨rfl, rfl, rfl, rfl, rfl, rfl, by kernel_rfl, by decide +kernel, by kernel_rfl⟩ rfl (fun s X => BindsTo.of_eq rfl) rfl fun c O W hS => ?_
  dsimp only [ofBinds, List.foldl_cons, List.foldl_nil] at hS ⊢
  tb_start
  refine T.pu O vis (by omega) fun r g' l q => ?_
  tb_start
  exact q
theorem subM {m : Nat} {V x y z : Addr} {b : Bool} (hV : Inst g V 648 [("right", .ref z), ("proper_subtype", .bool false)]) (h : isSubC prog w m x y b g) : Pu prog w (KP w.params) (m + 1) (call (.ref 605) [.ref V, .ref x, .ref y] []) (fun r g' => r = .bool b) g := by
  refine Fn.def (f := 605) (n := m) (binds := [("self", .ref V), ("left", .ref x), ("right", .ref y)]) rfl ⟨rfl, rfl, rfl, rfl, rfl, rfl, by kernel_rfl, by decide +kernel, by kernel_rfl⟩ rfl (fun s X => BindsTo.of_eq rfl) rfl fun c O W hS => ?_
  dsimp only [ofBinds, List.foldl_cons, List.foldl_nil] at hS ⊢
  tb_start
  refine T.pu O h.2 (by omega) fun r g' l q => ?_
  tb_start
  exact q
theorem accUni {m : Nat} {x y l : Addr} {as : List Addr} {a b t : Tr} (hm : 5 ≤ m) (I : Inst g x 379 [("items", .ref l)]) (hl : Lst g l (as.map .ref)) (hz : as.length ≤ 400) (ha : TysR g X as (Tr.uni a b).leaves)
    (hi : ∀ g' x' s', Le g g' → s' ∈ (Tr.uni a b).leaves → TyR g' X x' s' → isSubC prog w m x' y (B Z s' t) g') : Acc prog w (m + 3) x y (.uni a b) (B Z (.uni a b) t) g := by
  intro g1 V l1 hV
  have I1 := I.mono l1
  have hl1 := hl.mono l1
  have ha1 := ha.mono l1
  have vis : Pu prog w (KP w.params) (m + 2) (call (.ref 645) [.ref V, .ref x] []) (fun r g' => r = .bool (B Z (.uni a b) t)) g1 := by
    refine Fn.def (f := 645) (n := (m + 1)) (binds := [("self", .ref V), ("left", .ref x)]) rfl ⟨rfl, rfl, rfl, rfl, rfl, rfl, by kernel_rfl, by decide +kernel, by kernel_rfl⟩ rfl (fun s X => BindsTo.of_eq rfl) rfl fun c O W hS => ?_
    dsimp only [ofBinds, List.foldl_cons, List.foldl_nil] at hS ⊢
    tb_start
    refine T.lc O hS (by kernel_rfl) (by kernel_rfl) (fun _ => rfl) ?_
    tb_start
    refine Seqs.list O hl1 (LcK.map (fun i v g' => ∃ s, (Tr.uni a b).leaves[i]? = some s ∧ v = .bool (B Z s t)) (fun _ _ _ _ _ h => h) (by kernel_rfl) (by rw [List.length_map]; omega) ?_ ?_)
    · intro D' c' O' hS' i v g' ρ' acc hi' hv l' hρ
      obtain ⟨z, hz', rfl⟩ := refs_get hv
      obtain ⟨s, es, hsr⟩ := ha1.get hz'
      have e1 : ρ' "self" = some (.ref V) := (hρ "self" (by kernel_rfl)).trans (by k_subL)
      have hV' := hV.mono l'
      tb_start
      refine T.pu O' (subM hV' (hi g' z s (l1.trans l') (List.mem_of_getElem? es) (hsr.mono l'))) (by omega) fun r g2 l2 q => ?_
      exact ⟨rfl, s, es, q⟩
    intro L1 ys g2 l2 hlen hys
    have e1 := bools_of (f := fun s => B Z s t) (ts := (Tr.uni a b).leaves) (by rw [hlen, List.length_map, ha1.length]) hys
    subst e1
    tb_start
    refine T.allB O (.inr (.head _)) ?_
    rw [all_map_id, ← B_leavesL]
    rfl
  refine Fn.def (f := 376) (n := (m + 2)) (binds := [("self", .ref x), ("visitor", .ref V)]) rfl ⟨rfl, rfl, rfl, rfl, rfl, rfl, by kernel_rfl, by decide +kernel, by kernel_rfl⟩ rfl (fun s X => BindsTo.of_eq rfl) rfl fun c O W hS => ?_
  dsimp only [ofBinds, List.foldl_cons, List.foldl_nil] at hS ⊢
  tb_start
  refine T.pu O vis (by omega) fun r g' l q => ?_
  tb_start
  exact q
theorem accVar {m u : Nat} {y : Addr} {t : Tr} {b : Bool} (hm : 5 ≤ m) (hW : Wk g Z X) (hu : u < 2) (hy : TyR g X y t) (hne : t ≠ .var u)
    (hi : ∀ g' ub, Le g g' → TyR g' X ub (.cls (Z.bnd u)) → isSubC prog w m ub y b g') : Acc prog w (m + 3) (X.V u) y (.var u) b g := by
  intro g1 V l1 hV
  obtain ⟨nm, t0, d, ub, vl, t1, I, hd, hl, hub, hbd⟩ := (hW.mono l1).var u hu
  have hW1 := hW.mono l1
  have hy1 := hy.mono l1
  have vis : Pu prog w (KP w.params) (m + 2) (call (.ref 640) [.ref V, .ref (X.V u)] []) (fun r g' => r = .bool b) g1 := by
    refine Fn.def (f := 640) (n := (m + 1)) (binds := [("self", .ref V), ("left", .ref (X.V u))]) rfl ⟨rfl, rfl, rfl, rfl, rfl, rfl, by kernel_rfl, by decide +kernel, by kernel_rfl⟩ rfl (fun s X => BindsTo.of_eq rfl) rfl fun c O W hS => ?_
    dsimp only [ofBinds, List.foldl_cons, List.foldl_nil] at hS ⊢
    tb_start
    refine T.isiTy O hW1 hy1 .var rfl ?_
    tb_start
    refine IfK.split (fun q => ?_) fun q => ?_
    · cases hy1 with
      | cls => cases q
      | app => cases q
      | none => cases q
      | bot => cases q
      | uni => cases q
      | @var v hv =>
        obtain ⟨nm', t0', d', ub', vl', t1', I', hd', hl', hub', hbd'⟩ := hW1.var v hv
        have hne' : ¬ (u : Int) = v := fun h => hne (by have : u = v := by omega
                                                        rw [this])
        tb_start
        refine T.pu_same O (eqTvId hd hd') (by omega) ?_
        rw [beq_eq_false_iff_ne.mpr hne']
        tb_start
        refine T.truthyL (.inl hl) (by simp) ?_
        tb_start
        refine T.pu O (subM hV (hi g1 ub l1 (.cls hbd hub))) (by omega) fun r g2 l2 q => ?_
        tb_start
        exact q
    · tb_start
      refine T.truthyL (.inl hl) (by simp) ?_
      tb_start
      refine T.pu O (subM hV (hi g1 ub l1 (.cls hbd hub))) (by omega) fun r g2 l2 q => ?_
      tb_start
      exact q
  refine Fn.def (f := 194) (n := (m + 2)) (binds := [("self", .ref (X.V u)), ("visitor", .ref V)]) rfl ⟨rfl, rfl, rfl, rfl, rfl, rfl, by kernel_rfl, by decide +kernel, by kernel_rfl⟩ rfl (fun s X => BindsTo.of_eq rfl) rfl fun c O W hS => ?_
  dsimp only [ofBinds, List.foldl_cons, List.foldl_nil] at hS ⊢
  tb_start
  refine T.pu O vis (by omega) fun r g' l q => ?_
  tb_start
  exact q
theorem accInst {m : Nat} {x y : Addr} {s t : Tr} (hm : 12 ≤ m) (hW : Wk g Z X) (hx : TyR g X x s) (hy : TyR g X y t) (hs : s.kd = .inst) (htU : t.kd ≠ .uni)
    (h : ∀ (g' : G) (x' y' : Addr) (v : Nat) (s' t' : Tr), Le g g' → s = .app v s' → t = .app v t' → TyR g' X x' s' → TyR g' X y' t' → isSubC prog w m x' y' (B Z s' t') g' ∧ isSubC prog w m y' x' (B Z t' s') g') : Acc prog w (m + 4) x y s (B Z s t) g := by
  intro g1 V l1 hV
  have vis := visitInst (V := V) hm (hW.mono l1) hV (hx.mono l1) (hy.mono l1) hs htU fun g' x' y' v s' t' l' => h g' x' y' v s' t' (l1.trans l')
  obtain ⟨kv, I, e⟩ := hx.kv hW
  rw [hs] at I ⊢
  have I1 := I.mono l1
  show Pu prog w (KP w.params) (m + 4) (call (.ref 321) [.ref x, .ref V] []) _ g1
  refine Fn.def (f := 321) (n := (m + 3)) (binds := [("self", .ref x), ("visitor", .ref V)]) rfl ⟨rfl, rfl, rfl, rfl, rfl, rfl, by kernel_rfl, by decide +kernel, by kernel_rfl⟩ rfl (fun s X => BindsTo.of_eq rfl) rfl fun c O W hS => ?_
  dsimp only [ofBinds, List.foldl_cons, List.foldl_nil] at hS ⊢
  tb_start
  refine T.pu O vis (by omega) fun r g' l q => ?_
  tb_start
  exact q

end
section
variable {prog : Program} {w : World} {g : G} {n : Nat} {Z : Wm} {X : Wa}
theorem mu_le (t : Tr) : t.mu ≤ 2 * t.dep + 1 := by
  cases t <;> first | (show 1 ≤ 2 * _ + 1; omega) | exact Nat.le_succ _
theorem mu_leaf {a b x : Tr} (h : x ∈ (Tr.uni a b).leaves) : x.mu < (Tr.uni a b).mu := by
  have h1 := leaf_dep2 h
  have h2 := mu_le x
  show x.mu < 2 * (Tr.uni a b).dep
  omega
theorem mu_app {v : Nat} {t : Tr} : t.mu < (Tr.app v t).mu := by
  have h2 := mu_le t
  show t.mu < 2 * (t.dep + 1)
  omega
theorem B_bnd {u : Nat} : ∀ t : Tr, B Z (.cls (Z.bnd u)) t = true → B Z (.var u) t = true
  | .uni a b, h => by
    rw [B_uniR rfl, Bool.or_eq_true] at h ⊢
    exact h.imp (B_bnd a) (B_bnd b)
  | .cls l, h => by
    rw [B] at h
    rw [B]
    exact h
  | .app v t, h => by rw [B] at h; cases h
  | .var v, h => by rw [B] at h; cases h
  | .none, h => by rw [B] at h; cases h
  | .bot, h => by rw [B] at h; cases h
theorem B_var {u : Nat} {t : Tr} (h : t ≠ .var u) (hu : t.kd ≠ .uni) : B Z (.var u) t = B Z (.cls (Z.bnd u)) t := by
  cases t with
  | uni => exact absurd rfl hu
  | cls l => rw [B, B]
  | app v t => rw [B, B]
  | var v =>
    rw [B, B]
    rw [beq_eq_false_iff_ne]
    exact fun e => h (by rw [e])
  | none => rw [B, B]
  | bot => rw [B, B]
theorem isSubC.room {m m' : Nat} {x y : Addr} {b : Bool} (h : isSubC prog w m x y b g) (hm : m ≤ m') : isSubC prog w m' x y b g := ⟨h.1.of_room hm, h.2.of_room hm⟩
theorem isSubC.eq {m : Nat} {x y : Addr} {b b' : Bool} (h : isSubC prog w m x y b g) (e : b = b') : isSubC prog w m x y b' g := e ▸ h
theorem Acc.room {m m' : Nat} {x y : Addr} {s : Tr} {b : Bool} (h : Acc prog w m x y s b g) (hm : m ≤ m') : Acc prog w m' x y s b g := fun g' V l hV => (h g' V l hV).of_room hm
theorem kd_uni {t : Tr} (h : t.kd = .uni) : ∃ a b, t = .uni a b := by
  cases t with
  | uni a b => exact ⟨a, b, rfl⟩
  | _ => cases h
theorem subAll : ∀ N : Nat, SubOk prog w Z X (30 * N + 100) N := by
  intro N
  induction N using Nat.strongRecOn with
  | _ N ih =>
  intro g x y s t hW hx hy d1 d2 hN
  -- what is asked of smaller ones
  have rec_ : ∀ (g' : G) (x' y' : Addr) (s' t' : Tr), Le g g' → TyR g' X x' s' → TyR g' X y' t' → s'.dep ≤ 6 → t'.dep ≤ 6 → s'.mu + t'.mu < N → isSubC prog w (30 * N + 70) x' y' (B Z s' t') g' := fun g' x' y' s' t' l hx' hy' e1 e2 hlt =>
    (ih (N - 1) (by omega) g' x' y' s' t' (hW.mono l) hx' hy' e1 e2 (by omega)).room (by omega)
  refine (isSubW (m := 30 * N + 80) (by omega) hW hx hy d1 d2 fun hteq => ?_).room (by omega)
  by_cases hsu : s.kd = .uni
  · have hx0 := hx
    obtain ⟨a, b, rfl⟩ := kd_uni hsu
    cases hx0 with
    | @uni _ l as _ _ I L z hs =>
      refine (isSubA (m := 30 * N + 75) (by omega) hW hx hy (.inr hsu) ((accUni (m := 30 * N + 70) (by omega) I L z hs fun g' x' s' l' hm hx' => ?_).room (by omega))).of_room (by omega)
      have h1 := mu_leaf hm
      have h2 := leaf_dep2 hm
      exact rec_ g' x' y s' t l' hx' (hy.mono l') (by omega) d2 (by omega)
  · by_cases htu : t.kd = .uni
    · have hy0 := hy
      obtain ⟨a, b, rfl⟩ := kd_uni htu
      cases hy0 with
      | @uni _ l as _ _ I L z ht =>
        have hsU : s.isUni = false := by cases s <;> first | rfl | exact absurd rfl hsu
        refine (isSubB (m := 30 * N + 75) (by omega) hW hx I L z ht hsU (fun g' y' t' l' hm hy' => ?_) fun hv hf g' l' => ?_).of_room (by omega)
        · have h1 := mu_leaf hm
          have h2 := leaf_dep2 hm
          exact (rec_ g' x y' s t' l' (hx.mono l') hy' d1 (by omega) (by omega)).room (by omega)
        · cases hx with
          | cls => cases hv
          | app => cases hv
          | none => cases hv
          | bot => cases hv
          | uni => cases hv
          | @var u hu =>
            refine (accVar (m := 30 * N + 70) (by omega) (hW.mono l') hu (hy.mono l') (fun z => nomatch z) fun g2 ub l2 hub => ?_).room (by omega)
            have hb0 : B Z (.cls (Z.bnd u)) (.uni a b) = false := by
              by_cases q : B Z (.cls (Z.bnd u)) (.uni a b) = true
              · rw [B_bnd _ q] at hf; cases hf
              · simpa using q
            refine (rec_ g2 ub y _ _ (l'.trans l2) hub (hy.mono (l'.trans l2)) (Nat.zero_le _) d2 ?_).eq hb0
            show 0 + _ < N
            have : (Tr.var u).mu = 1 := rfl
            omega
    · refine (isSubA (m := 30 * N + 75) (by omega) hW hx hy (.inl htu) ?_).of_room (by omega)
      by_cases hsi : s.kd = .inst
      · refine (accInst (m := 30 * N + 70) (by omega) hW hx hy hsi htu fun g' x' y' v s' t' l' e1 e2 hx' hy' => ?_).room (by omega)
        subst e1 e2
        have h1 : s'.mu < (Tr.app v s').mu := mu_app
        have h2 : t'.mu < (Tr.app v t').mu := mu_app
        rw [dep_app] at d1 d2
        exact ⟨rec_ g' x' y' s' t' l' hx' hy' (by omega) (by omega) (by omega), rec_ g' y' x' t' s' l' hy' hx' (by omega) (by omega) (by omega)⟩
      · cases hx with
        | cls => exact absurd rfl hsi
        | app => exact absurd rfl hsi
        | uni => exact absurd rfl hsu
        | none I => exact (accNone hW I hy htu).room (by omega)
        | bot I => exact (accBot I).room (by omega)
        | @var u hu =>
          have hne : t ≠ .var u := fun e => by
            subst e
            rw [show teq 7 (.var u) (.var u) = (u == u) from rfl] at hteq
            simp at hteq
          rw [B_var hne htu]
          refine (accVar (m := 30 * N + 70) (by omega) hW hu hy hne fun g2 ub l2 hub => ?_).room (by omega)
          refine rec_ g2 ub y _ _ l2 hub (hy.mono l2) (Nat.zero_le _) d2 ?_
          show 0 + _ < N
          have : (Tr.var u).mu = 1 := rfl
          omega

end
section
variable {prog : Program} {w : World} {g : G} {n : Nat} {Z : Wm} {X : Wa}
def flat (ts : List Tr) : List Tr := ts.flatMap Tr.leaves
theorem flat_cons {t : Tr} {ts : List Tr} : flat (t :: ts) = t.leaves ++ flat ts := rfl
theorem flat_app {ts us : List Tr} : flat (ts ++ us) = flat ts ++ flat us := by unfold flat; rw [List.flatMap_append]
theorem leaves_one {t : Tr} (h : t.isUni = false) : t.leaves = [t] := by cases t <;> first | rfl | cases h
theorem flat_same : ∀ {ts : List Tr}, (∀ t ∈ ts, t.isUni = false) → flat ts = ts
  | [], _ => rfl
  | t :: ts, h => by rw [flat_cons, flat_same fun t ht => h t (.tail _ ht), leaves_one (h t (.head _))]; rfl
theorem TysR.snoc {as : List Addr} {ts : List Tr} {a : Addr} {t : Tr} (h : TysR g X as ts) (k : TyR g X a t) : TysR g X (as ++ [a]) (ts ++ [t]) := h.app (.cons k .nil)
theorem TysR.take {X : Wa} : ∀ {as : List Addr} {ts : List Tr} (j : Nat), TysR g X as ts → TysR g X (as.take j) (ts.take j)
  | _, _, 0, _ => .nil
  | _, _, _ + 1, .nil => .nil
  | _, _, j + 1, .cons h t => .cons h (t.take j)
/-- flatten_nested_unions where nothing is a union -/
theorem flat0 {l : Addr} {as : List Addr} {ts : List Tr} (hW : Wk g Z X) (hl : Lst g l (as.map .ref)) (ha : TysR g X as ts) (hz : as.length ≤ 900) (hu : ∀ t ∈ ts, t.isUni = false) :
    Pu prog w (KP w.params) 2 (call (.ref 395) [.ref l]) (fun r g' => ∃ l', r = .ref l' ∧ Lst g' l' (as.map .ref)) g := by
  refine Fn.defM (f := 395) (n := 1) (binds := [("types", .ref l)]) rfl ⟨rfl, rfl, rfl, rfl, rfl, rfl, by kernel_rfl, by decide +kernel, by kernel_rfl⟩ rfl (fun s X => BindsTo.of_eq rfl) rfl fun c O W hS => ?_
  dsimp only [ofBinds, List.foldl_cons, List.foldl_nil] at hS ⊢
  tb_start
  refine T.newList (by simp) fun R => ?_
  tb_start
  refine T.for_ O W hS (fun _ => rfl) ?_
  tb_start
  refine Seqs.list O hl ⟨fun j g' ρ' M => ρ' "flat_items" = some (.ref R) ∧ M = [(R, .list ((as.take j).map .ref))], ⟨by k_subL, by simp⟩, ?_, ?_⟩
  · rintro c' O' W' hS' j v g' ρ' M hj hv l' ⟨v1, rfl⟩
    obtain ⟨a, haj, rfl⟩ := refs_get hv
    obtain ⟨t, et, htr⟩ := ha.get haj
    have hnu := hu t (List.mem_of_getElem? et)
    have hk : t.kd.is .uni = false := Kd.is_ne (by cases t <;> first | (cases hnu; done) | (intro z; cases z))
    refine T.assign_stored ?_
    tb_start
    refine T.isiTy O' (hW.mono l') (htr.mono l') .uni rfl ?_
    rw [hk]
    tb_start
    refine T.methodL (.inr (.head _)) F.slot_list_append F.type_list_append ?_
    tb_start
    refine T.appendL (pre := []) O' (by rw [List.length_map, List.length_take]; omega) ?_
    tb_start
    refine ⟨rfl, ?_⟩
    tb_start
    exact ⟨by k_subL, by rw [List.take_add_one, haj, List.map_append]; rfl⟩
  · rintro g' ρ' M l' ⟨v1, rfl⟩
    refine ExecK.next ?_
    tb_start
    rw [List.length_map, List.take_length]
    exact fun g'' l2 hM => ⟨R, rfl, hM _ (.head _)⟩
theorem flat1 {l : Addr} {as : List Addr} {ts : List Tr} (hW : Wk g Z X) (hl : Lst g l (as.map .ref)) (ha : TysR g X as ts) (hz : (flat ts).length ≤ 400) :
    Pu prog w (KP w.params) 3 (call (.ref 395) [.ref l]) (fun r g' => ∃ l' bs, r = .ref l' ∧ Lst g' l' (bs.map .ref) ∧ TysR g' X bs (flat ts)) g := by
  have hpre : ∀ j, (flat (ts.take j)).length ≤ 400 := fun j => by
    have : flat ts = flat (ts.take j) ++ flat (ts.drop j) := by rw [← flat_app, List.take_append_drop]
    rw [this, List.length_append] at hz
    omega
  refine Fn.defM (f := 395) (n := 2) (binds := [("types", .ref l)]) rfl ⟨rfl, rfl, rfl, rfl, rfl, rfl, by kernel_rfl, by decide +kernel, by kernel_rfl⟩ rfl (fun s X => BindsTo.of_eq rfl) rfl fun c O W hS => ?_
  dsimp only [ofBinds, List.foldl_cons, List.foldl_nil] at hS ⊢
  tb_start
  refine T.newList (by simp) fun R => ?_
  tb_start
  refine T.for_ O W hS (fun _ => rfl) ?_
  tb_start
  refine Seqs.list O hl ⟨fun j g' ρ' M => ρ' "flat_items" = some (.ref R) ∧ ∃ bs, M = [(R, .list (bs.map .ref))] ∧ TysR g' X bs (flat (ts.take j)), ⟨by k_subL, [], rfl, by simp [flat]; exact .nil⟩, ?_, ?_⟩
  · rintro c' O' W' hS' j v g' ρ' M hj hv l' ⟨v1, bs, rfl, hb⟩
    obtain ⟨a, haj, rfl⟩ := refs_get hv
    obtain ⟨t, et, htr⟩ := ha.get haj
    have e1 : flat (ts.take (j + 1)) = flat (ts.take j) ++ t.leaves := by
      rw [List.take_add_one, et, flat_app]
      show _ ++ flat [t] = _
      rw [flat_cons]; simp [flat]
    have hlen := hpre (j + 1)
    rw [e1, List.length_append] at hlen
    have htr' := htr.mono l'
    refine T.assign_stored ?_
    tb_start
    refine T.isiTy O' (hW.mono l') htr' .uni rfl ?_
    tb_start
    refine IfK.split (fun q => ?_) fun q => ?_
    · cases htr' with
      | cls => cases q
      | app => cases q
      | var => cases q
      | none => cases q
      | bot => cases q
      | @uni _ il is p q' I L z hs =>
        tb_start
        refine T.methodL (.inr (.head _)) F.slot_list_extend F.type_list_extend ?_
        tb_start
        refine T.pu O' (flat0 (hW.mono l') L hs (by omega) (leaves_notUni _)) (by omega) fun r g2 l2 ⟨il', q1, q2⟩ => ?_
        subst q1
        tb_start
        have hl1 := hs.length
        refine T.extendL (pre := []) O' (.inl q2) (by rw [List.length_map, List.length_map, hb.length, hl1]; omega) ?_
        tb_start
        refine ⟨rfl, ?_⟩
        tb_start
        exact ⟨by k_subL, bs ++ is, by rw [List.map_append]; rfl, by rw [e1]; exact (hb.mono l2).app (hs.mono l2)⟩
    · have hnu : t.isUni = false := by cases t <;> first | rfl | cases q
      rw [leaves_one hnu] at e1 hlen
      tb_start
      refine T.methodL (.inr (.head _)) F.slot_list_append F.type_list_append ?_
      tb_start
      refine T.appendL (pre := []) O' (by rw [List.length_map, hb.length]; omega) ?_
      tb_start
      refine ⟨rfl, ?_⟩
      tb_start
      exact ⟨by k_subL, bs ++ [a], by rw [List.map_append]; rfl, by rw [e1]; exact hb.snoc htr'⟩
  · rintro g' ρ' M l' ⟨v1, bs, rfl, hb⟩
    refine ExecK.next ?_
    tb_start
    rw [List.length_map, ha.length, List.take_length] at hb
    exact fun g'' l2 hM => ⟨R, bs, rfl, hM _ (.head _), hb.mono l2⟩
theorem mk_Union {l : Addr} {as : List Addr} {ts : List Tr} {p q : Tr} (hW : Wk g Z X) (hl : Lst g l (as.map .ref)) (ha : TysR g X as ts) (hz : (flat ts).length ≤ 400) (e : (Tr.uni p q).leaves = flat ts) :
    Pu prog w (KP w.params) 8 (call (.ref 379) [.ref l] []) (fun r g' => ∃ x, r = .ref x ∧ TyR g' X x (.uni p q)) g := by
  refine Pu.make (n := 6) (fI := 354) (binds := fun x => [("self", .ref x), ("items", .ref l)]) (mk_379 _) (in_379 _) (ty_354 _) rfl ⟨rfl, rfl, rfl, rfl, rfl, rfl, by kernel_rfl, by decide +kernel, by kernel_rfl⟩ rfl (fun s x X => BindsTo.of_eq rfl) (fun x => rfl) fun x d c O W hS hx hd => ?_
  dsimp only [ofBinds, List.foldl_cons, List.foldl_nil] at hS ⊢
  tb_start
  have lx := Le.setG (m := .inst 379 d) hx
  refine T.pu O (flat1 (hW.mono lx) (hl.mono lx) (ha.mono lx) hz) (by omega) fun r g1 l1 ⟨l', bs, q1, q2, q3⟩ => ?_
  subst q1
  have hxg : g1 x = some (.inst 379 d) := l1 _ _ setG_self
  tb_start
  refine ⟨rfl, _, rfl, fun g'' lz I => ⟨x, rfl, .uni I (q2.mono lz) (by rw [q3.length]; exact hz) (e ▸ q3.mono lz)⟩⟩

end
section
variable {prog : Program} {w : World} {g : G} {n : Nat} {Z : Wm} {X : Wa}
theorem T.clsStatic {c : Cx} {K : Frag} {ρ : Str → Option Value} {M : Mem} {C p : Addr} {f : Value} {rest : List Value} {name : Str} {pl : Sem Bool} {Q : Post (Value × List Value)} (O : c.Ok K n) (hg : specialIn K (.ref C) "__getattribute__" = some (some (.builtin "type.__getattribute__"))) (hr : readsIn K C (.type "type") = true)
    (e : findCls K (.ref C) (.type "type") name = some (.get (.builtin "staticmethod.__get__") (.ref p) .none (.ref C))) (hp : recIn K p "staticmethod" = some (f :: rest)) (hv : handedIn f = true) (h : Q (f, []) g ρ M) : T prog w c (getMethod (.ref C) name pl) Q g ρ M := T.tok fun s hA R k => by
  have X := (hA.wd O).X
  exact method_cls X hg (cls_bind X hr e (wpAny_call (sm_get (s := { s with toks := s.toks + 1 }) X hp (handed_on hv (k _ _ h)))))
/-- a list of types as one -/
def mkU : List Tr → Tr | [] => .bot | [t] => t | t :: u :: r => .uni t (mkU (u :: r))
theorem mkU_leaves : ∀ {ts : List Tr}, ts ≠ [] → (∀ t ∈ ts, t.isUni = false) → (mkU ts).leaves = ts
  | [], h, _ => absurd rfl h
  | [t], _, h => leaves_one (h t (.head _))
  | t :: u :: r, _, h => by
    rw [mkU, Tr.leaves, leaves_one (h t (.head _)), mkU_leaves (by simp) fun x hx => h x (.tail _ hx)]
    rfl
theorem mkU_ud {k : Nat} : ∀ {ts : List Tr}, (∀ t ∈ ts, t.ud ≤ k) → (mkU ts).ud ≤ k
  | [], _ => Nat.zero_le _
  | [t], h => h t (.head _)
  | t :: u :: r, h => by
    rw [mkU, Tr.ud]
    exact Nat.max_le.mpr ⟨h t (.head _), mkU_ud fun x hx => h x (.tail _ hx)⟩
theorem makeUnion {l : Addr} {as : List Addr} {ts : List Tr} (hW : Wk g Z X) (hl : Lst g l (as.map .ref)) (ha : TysR g X as ts) (hz : ts.length ≤ 300) (hne : ts ≠ []) (hu : ∀ t ∈ ts, t.isUni = false) :
    Pu prog w (KP w.params) 9 (call (.ref 366) [.ref l]) (fun r g' => ∃ y, r = .ref y ∧ TyR g' X y (mkU ts)) g := by
  refine Fn.def (f := 366) (n := 8) (binds := [("items", .ref l)]) rfl ⟨rfl, rfl, rfl, rfl, rfl, rfl, by kernel_rfl, by decide +kernel, by kernel_rfl⟩ rfl (fun s X => BindsTo.of_eq rfl) rfl fun c O W hS => ?_
  dsimp only [ofBinds, List.foldl_cons, List.foldl_nil] at hS ⊢
  tb_start
  refine T.lenL (.inl hl) (by rw [List.length_map, ha.length]; omega) fun t1 => ?_
  tb_start
  refine T.gtI ?_
  tb_start
  rw [List.length_map, ha.length]
  refine IfK.split (fun q => ?_) fun q => ?_
  · have h2 : 1 < ts.length := by have := of_decide_eq_true q; omega
    obtain ⟨t, u, r, rfl⟩ : ∃ t u r, ts = t :: u :: r := by
      cases ts with
      | nil => simp at h2
      | cons t ts => cases ts with
        | nil => simp at h2
        | cons u r => exact ⟨t, u, r, rfl⟩
    tb_start
    have hfl : flat (t :: u :: r) = t :: u :: r := flat_same hu
    refine T.pu O (mk_Union (p := t) (q := mkU (u :: r)) hW hl ha (by rw [hfl]; omega) ?_) (by omega) fun r' g' l' ⟨x, q1, q2⟩ => ?_
    · rw [hfl]; exact mkU_leaves hne hu
    · tb_start
      exact ⟨x, q1, q2⟩
  · have h2 : ts.length = 1 := by
      have h3 : ¬ (1 < (ts.length : Int)) := of_decide_eq_false q
      have h4 : ts.length ≠ 0 := fun h => hne (List.eq_nil_of_length_eq_zero h)
      omega
    obtain ⟨t, rfl⟩ : ∃ t, ts = [t] := by
      cases ts with
      | nil => simp at h2
      | cons t ts => cases ts with
        | nil => exact ⟨t, rfl⟩
        | cons => simp at h2
    cases ha with
    | @cons a _ _ _ ha ha' =>
    cases ha'
    tb_start
    refine T.lenL (.inl hl) (by simp) fun t2 => ?_
    tb_start
    refine T.itemL (.inl hl) (by decide) (by decide) rfl (by rfl) ?_
    tb_start
    exact ⟨a, rfl, ha⟩
/-- what remove_trivial gives back -/
structure Rt (Z : Wm) (us ts : List Tr) : Prop where
  eq : EqL Z us ts
  ne : us ≠ []
  sub : ∀ u ∈ us, u ∈ ts ∨ u = .bot
  len : us.length ≤ max 1 ts.length
theorem EqL.botR {xs ys : List Tr} (h : EqL Z xs ys) : EqL Z xs (ys ++ [.bot]) := by
  refine h.trans ⟨fun t => by rw [List.all_append]; simp [B_bot], fun s hu hb => ?_⟩
  rw [List.any_append]
  have := (EqL.bot (W := Z) (xs := [])).2 s hu hb
  rw [this]; simp
theorem EqL.symm {xs ys : List Tr} (h : EqL Z xs ys) : EqL Z ys xs := ⟨fun t => (h.1 t).symm, fun s a b => (h.2 s a b).symm⟩
theorem removeTrivial {l : Addr} {as : List Addr} {ts : List Tr} (hW : Wk g Z X) (hl : Lst g l (as.map .ref)) (ha : TysR g X as ts) (hz : ts.length ≤ 300) (hu : ∀ t ∈ ts, t.isUni = false) (hd : ∀ t ∈ ts, t.dep ≤ 6) :
    Pu prog w (KP w.params) 70 (call (.ref 517) [.ref l]) (fun r g' => ∃ l' bs us, r = .ref l' ∧ Lst g' l' (bs.map .ref) ∧ TysR g' X bs us ∧ Rt Z us ts) g := by
  refine Fn.defM (f := 517) (n := 69) (binds := [("types", .ref l)]) rfl ⟨rfl, rfl, rfl, rfl, rfl, rfl, by kernel_rfl, by decide +kernel, by kernel_rfl⟩ rfl (fun s X => BindsTo.of_eq rfl) rfl fun c O W hS => ?_
  dsimp only [ofBinds, List.foldl_cons, List.foldl_nil] at hS ⊢
  tb_start
  refine T.newList (by simp) fun R => ?_
  tb_start
  refine T.for_ O W hS (fun _ => rfl) ?_
  tb_start
  refine Seqs.list O hl ⟨fun j g' ρ' M => ρ' "new_types" = some (.ref R) ∧ ∃ bs us, M = [(R, .list (bs.map .ref))] ∧ TysR g' X bs us ∧ EqL Z us (ts.take j) ∧ (∀ u ∈ us, u ∈ ts) ∧ us.length ≤ j, ⟨by k_subL, [], [], rfl, .nil, .refl _, (fun _ h => nomatch h), Nat.le_refl _⟩, ?_, ?_⟩
  · rintro c' O' W' hS' j v g' ρ' M hj hv l' ⟨v1, bs, us, rfl, hb, he, hsub, hlen⟩
    obtain ⟨a, haj, rfl⟩ := refs_get hv
    obtain ⟨t, et, htr⟩ := ha.get haj
    have htm := List.mem_of_getElem? et
    have hnu := hu t htm
    have htd := hd t htm
    have e1 : ts.take (j + 1) = ts.take j ++ [t] := by rw [List.take_add_one, et]; rfl
    have htr' := htr.mono l'
    have hW' := hW.mono l'
    have hjl : j < ts.length := (List.getElem?_eq_some_iff.mp et).1
    refine T.assign_stored ?_
    tb_start
    refine T.isiTy O' hW' htr' .bot rfl ?_
    tb_start
    refine IfK.split (fun q => ?_) fun q => ?_
    · have : t = .bot := by cases t <;> first | rfl | cases q
      subst this
      tb_start
      exact ⟨by k_subL, bs, us, rfl, hb, by rw [e1]; exact he.botR, hsub, by omega⟩
    · tb_start
      refine T.isiTy O' hW' htr' .inst rfl ?_
      tb_start
      -- what is done with one that is neither bottom nor the root
      have rest : ∀ {Q : Post Bool}, (∀ b g₀, Le g' g₀ → (b = false → ∃ u ∈ us, teq 7 u t = true) → Q b g₀ (put ρ' "t" (.ref a)) [(R, .list (bs.map .ref))]) → T prog w c' (compareOp .NotIn (.ref a) (.ref R)) (fun v g ρ M => T prog w c' (truthy v) Q g ρ M) g' (put ρ' "t" (.ref a)) [(R, .list (bs.map .ref))] := by
        intro Q hQ
        refine T.lend (pre := []) fun hR => ?_
        have lR : Le g' (setG g' R (.list (bs.map .ref))) := Le.setG hR
        refine T.pu_same O' (inTys (k := 7) (m := 60) (hW'.mono lR) setG_self (hb.mono lR) (htr'.mono lR) (by omega) (fun u hu' => by have := hd u (hsub u hu'); omega) fun h1 h2 => eqTy (hW'.mono lR) 6 h1 (htr'.mono lR) (hd _ (hsub _ h2)) htd).2 (by omega) ?_
        intro g₀ l₀ hn₀ _
        refine T.truthy_bool (hQ _ g₀ l₀ fun e => ?_)
        have : us.any (fun u => teq 7 u t) = true := by simpa using e
        obtain ⟨u, h1, h2⟩ := List.any_eq_true.mp this
        exact ⟨u, h1, h2⟩
      refine IfK.split (fun q1 => ?_) fun q1 => ?_
      · cases htr' with
        | var => cases q1
        | none => cases q1
        | bot => cases q1
        | uni => cases q1
        | @cls _ k hk i =>
          obtain ⟨e0, I, E0⟩ := i
          obtain ⟨bsC, mro, cC, hM⟩ := hW'.cls k hk
          obtain ⟨t0, dd, tvl, nml, bl, ml, names, o1, o2, o3, o4, o5, o6, o7⟩ := cC.obj
          have htr' : TyR g' X a (.cls k) := htr.mono l'
          tb_start
          refine IfK.split (fun q2 => ?_) fun q2 => ?_
          · have hk0 : k = 0 := nmK_inj (by omega) (by omega) (beq_iff_eq.mp q2)
            subst hk0
            tb_start
            refine T.newListF (by simp) fun L1 hL1 => ?_
            have lL := Le.setG (m := .list [Value.ref a]) hL1
            tb_start
            exact fun g'' l2 hM => ⟨L1, [a], [.cls 0], rfl, l2 _ _ setG_self, .cons (htr'.mono (lL.trans l2)) .nil, (EqL.root htm).symm, by simp, (fun u h => .inl (by rw [List.mem_singleton.mp h]; exact htm)), Nat.le_max_left ..⟩
          · tb_start
            refine rest fun b g₀ l₀ hb₀ => ?_
            refine IfK.split (fun q2 => ?_) fun q2 => ?_
            · tb_start
              refine T.methodL (.inr (.head _)) F.slot_list_append F.type_list_append ?_
              tb_start
              refine T.appendL (pre := []) O' (by rw [List.length_map, hb.length]; omega) ?_
              tb_start
              refine ⟨rfl, ?_⟩
              tb_start
              exact ⟨by k_subL, bs ++ [a], us ++ [_], by rw [List.map_append]; rfl, (hb.mono l₀).snoc (htr'.mono l₀), by rw [e1]; exact he.app (.refl _), (fun u h => by rcases List.mem_append.mp h with h | h; exact hsub u h; rw [List.mem_singleton.mp h]; exact htm), by rw [List.length_append]; simp; omega⟩
            · tb_start
              obtain ⟨u, hu1, hu2⟩ := hb₀ q2
              exact ⟨by k_subL, bs, us, rfl, hb.mono l₀, by rw [e1]; exact (EqL.dup hu1 (teq_eqv 7 hu2)).symm.trans (he.app (.refl _)), hsub, by omega⟩
        | @app _ x' v t' hv1 hv2 i hx' =>
          obtain ⟨e0, I, E0⟩ := i
          obtain ⟨tv, bsD, mroD, nm, t0', d0, ub, vl, t1, cD, hMD, Itv⟩ := hW'.app v hv1 hv2
          obtain ⟨t0, dd, tvl, nml, bl, ml, names, o1, o2, o3, o4, o5, o6, o7⟩ := cD.obj
          have htr' : TyR g' X a (.app v t') := htr.mono l'
          have hnn : (nmK v == ("builtins.object" : Str)) = false := by
            rw [beq_eq_false_iff_ne]
            intro h
            have := nmK_inj (u := v) (v := 0) (by omega) (by omega) h
            omega
          tb_start
          rw [hnn]
          tb_start
          refine rest fun b g₀ l₀ hb₀ => ?_
          refine IfK.split (fun q2 => ?_) fun q2 => ?_
          · tb_start
            refine T.methodL (.inr (.head _)) F.slot_list_append F.type_list_append ?_
            tb_start
            refine T.appendL (pre := []) O' (by rw [List.length_map, hb.length]; omega) ?_
            tb_start
            refine ⟨rfl, ?_⟩
            tb_start
            exact ⟨by k_subL, bs ++ [a], us ++ [_], by rw [List.map_append]; rfl, (hb.mono l₀).snoc (htr'.mono l₀), by rw [e1]; exact he.app (.refl _), (fun u h => by rcases List.mem_append.mp h with h | h; exact hsub u h; rw [List.mem_singleton.mp h]; exact htm), by rw [List.length_append]; simp; omega⟩
          · tb_start
            obtain ⟨u, hu1, hu2⟩ := hb₀ q2
            exact ⟨by k_subL, bs, us, rfl, hb.mono l₀, by rw [e1]; exact (EqL.dup hu1 (teq_eqv 7 hu2)).symm.trans (he.app (.refl _)), hsub, by omega⟩
      · tb_start
        refine rest fun b g₀ l₀ hb₀ => ?_
        refine IfK.split (fun q2 => ?_) fun q2 => ?_
        · tb_start
          refine T.methodL (.inr (.head _)) F.slot_list_append F.type_list_append ?_
          tb_start
          refine T.appendL (pre := []) O' (by rw [List.length_map, hb.length]; omega) ?_
          tb_start
          refine ⟨rfl, ?_⟩
          tb_start
          exact ⟨by k_subL, bs ++ [a], us ++ [_], by rw [List.map_append]; rfl, (hb.mono l₀).snoc (htr'.mono l₀), by rw [e1]; exact he.app (.refl _), (fun u h => by rcases List.mem_append.mp h with h | h; exact hsub u h; rw [List.mem_singleton.mp h]; exact htm), by rw [List.length_append]; simp; omega⟩
        · tb_start
          obtain ⟨u, hu1, hu2⟩ := hb₀ q2
          exact ⟨by k_subL, bs, us, rfl, hb.mono l₀, by rw [e1]; exact (EqL.dup hu1 (teq_eqv 7 hu2)).symm.trans (he.app (.refl _)), hsub, by omega⟩
  · rintro g' ρ' M l' ⟨v1, bs, us, rfl, hb, he, hsub, hlen⟩
    refine ExecK.next ?_
    tb_start
    rw [List.length_map, ha.length, List.take_length] at he
    refine T.truthyL (.inr (.head _)) (by rw [List.length_map, hb.length]; rw [List.length_map, ha.length] at hlen; omega) ?_
    refine IfK.split (fun q => ?_) fun q => ?_
    · tb_start
      refine fun g'' l2 hM => ⟨R, bs, us, rfl, hM _ (.head _), hb.mono l2, he, fun h => ?_, fun u h => .inl (hsub u h), ?_⟩
      · subst h
        cases hb
        simp at q
      · rw [List.length_map, ha.length] at hlen; exact Nat.le_trans hlen (Nat.le_max_right ..)
    · have hus : us = [] := by
        cases bs with
        | nil => cases hb; rfl
        | cons => simp at q
      subst hus
      tb_start
      refine T.pu O mk_Bot (by omega) fun r g2 l2 ⟨x, q1, q2⟩ => ?_
      subst q1
      tb_start
      refine T.newListF (by simp) fun L1 hL1 => ?_
      have lL := Le.setG (m := .list [Value.ref x]) hL1
      tb_start
      exact fun g'' l3 hM => ⟨L1, [x], [.bot], rfl, l3 _ _ setG_self, .cons (.bot (q2.mono (lL.trans l3))) .nil, EqL.bot.trans he, by simp, (fun u h => .inr (List.mem_singleton.mp h)), Nat.le_max_left ..⟩

end
section
variable {prog : Program} {w : World} {g : G} {n : Nat} {Z : Wm} {X : Wa}
def Tr.sz : Tr → Nat | .uni a b => a.sz + b.sz | .app _ t => t.sz | .cls _ => 1 | .var _ => 1 | .none => 1 | .bot => 1
theorem sz_pos : ∀ t : Tr, 1 ≤ t.sz
  | .uni a b => by have := sz_pos a; rw [Tr.sz]; omega
  | .app _ t => sz_pos t
  | .cls _ => Nat.le_refl _
  | .var _ => Nat.le_refl _
  | .none => Nat.le_refl _
  | .bot => Nat.le_refl _
theorem leaves_sz : ∀ t : Tr, t.leaves.length ≤ t.sz
  | .uni a b => by have := leaves_sz a; have := leaves_sz b; rw [Tr.leaves, Tr.sz, List.length_append]; omega
  | .app _ t => sz_pos t
  | .cls _ => Nat.le_refl _
  | .var _ => Nat.le_refl _
  | .none => Nat.le_refl _
  | .bot => Nat.le_refl _
theorem leaf_sz : ∀ (t : Tr), ∀ x ∈ t.leaves, x.sz ≤ t.sz
  | .uni a b, x, h => by
    rw [Tr.leaves] at h
    rw [Tr.sz]
    rcases List.mem_append.mp h with h | h
    · have := leaf_sz a x h; omega
    · have := leaf_sz b x h; omega
  | .cls _, x, h => by rw [Tr.leaves, List.mem_singleton] at h; rw [h]; exact Nat.le_refl _
  | .app _ _, x, h => by rw [Tr.leaves, List.mem_singleton] at h; rw [h]; exact Nat.le_refl _
  | .var _, x, h => by rw [Tr.leaves, List.mem_singleton] at h; rw [h]; exact Nat.le_refl _
  | .none, x, h => by rw [Tr.leaves, List.mem_singleton] at h; rw [h]; exact Nat.le_refl _
  | .bot, x, h => by rw [Tr.leaves, List.mem_singleton] at h; rw [h]; exact Nat.le_refl _
theorem put_leaves {ch : Nat → Tr} : ∀ t : Tr, (t.put ch).leaves = t.leaves.flatMap fun x => (x.put ch).leaves
  | .uni a b => by
    show (a.put ch).leaves ++ (b.put ch).leaves = _
    rw [Tr.leaves, List.flatMap_append, put_leaves a, put_leaves b]
  | .cls _ => rfl
  | .app _ _ => rfl
  | .var v => by show (ch v).leaves = [Tr.var v].flatMap _; simp [Tr.put]
  | .none => rfl
  | .bot => rfl
/-- the dict of a visitor -/
structure EnvD (g : G) (X : Wa) (D : Addr) (ch : Nat → Tr) : Prop where
  ex : ∃ d0 d1 e0 e1, g D = some (.vd [(d0, 0, .ref e0), (d1, 1, .ref e1)]) ∧ TvId g d0 0 ∧ TvId g d1 1 ∧ (∃ nm t0 ub vl t1, Inst g (X.V 0) 204 [("name", .str nm t0), ("id", .ref d0), ("upper_bound", .ref ub), ("values", .ref vl), ("variance", .int 0 t1)]) ∧
    (∃ nm t0 ub vl t1, Inst g (X.V 1) 204 [("name", .str nm t0), ("id", .ref d1), ("upper_bound", .ref ub), ("values", .ref vl), ("variance", .int 0 t1)]) ∧ TyR g X e0 (ch 0) ∧ TyR g X e1 (ch 1)
theorem EnvD.mono {g g' : G} {X : Wa} {D : Addr} {ch : Nat → Tr} (h : EnvD g X D ch) (l : Le g g') : EnvD g' X D ch :=
  ⟨let ⟨d0, d1, e0, e1, a, b, c, ⟨p1, p2, p3, p4, p5, d⟩, ⟨q1, q2, q3, q4, q5, e⟩, f, i⟩ := h.ex; ⟨d0, d1, e0, e1, l _ _ a, b.mono l, c.mono l, ⟨p1, p2, p3, p4, p5, d.mono l⟩, ⟨q1, q2, q3, q4, q5, e.mono l⟩, f.mono l, i.mono l⟩⟩
structure ChOk (Z : Wm) (ch : Nat → Tr) : Prop where
  ud : ∀ v, v < 2 → (ch v).ud ≤ 1 ∧ (ch v).dep ≤ 1 ∧ (ch v).leaves.length ≤ 2
/-- what a type becomes -/
structure ExpR (g : G) (X : Wa) (Z : Wm) (ch : Nat → Tr) (s : Tr) (y : Addr) (s' : Tr) : Prop where
  ty : TyR g X y s'
  eq : Eqv Z s' (s.put ch)
  ud : s'.ud ≤ s.ud + 1
  dep : s'.dep ≤ s.dep + 1
  cnt : s'.leaves.length ≤ 2 * s.leaves.length
theorem ExpR.mono {g g' : G} {ch : Nat → Tr} {s s' : Tr} {y : Addr} (h : ExpR g X Z ch s y s') (l : Le g g') : ExpR g' X Z ch s y s' := ⟨h.ty.mono l, h.eq, h.ud, h.dep, h.cnt⟩
def VisE (g : G) (V D : Addr) : Prop := Inst g V 508 [("variables", .ref D)]
def ExpOk (prog : Program) (w : World) (Z : Wm) (X : Wa) (ch : Nat → Tr) (m k : Nat) : Prop := ∀ (g : G) (x V D : Addr) (s : Tr), Wk g Z X → TyR g X x s → VisE g V D → EnvD g X D ch → s.dep ≤ k → s.sz ≤ 100 → Pu prog w (KP w.params) m (call (.ref (accF s.kd)) [.ref x, .ref V] []) (fun r g' => ∃ y s', r = .ref y ∧ ExpR g' X Z ch s y s') g
theorem expVar {ch : Nat → Tr} {u : Nat} {V D : Addr} (hc : ChOk Z ch) (hW : Wk g Z X) (hu : u < 2) (hV : VisE g V D) (hD : EnvD g X D ch) : Pu prog w (KP w.params) 8 (call (.ref 194) [.ref (X.V u), .ref V] []) (fun r g' => ∃ y s', r = .ref y ∧ ExpR g' X Z ch (.var u) y s') g := by
  obtain ⟨nm, t0, d, ub, vl, t1, I, hd, hl, hub, hbd⟩ := hW.var u hu
  obtain ⟨d0, d1, e0, e1, hDx, h0, h1, ⟨p1, p2, p3, p4, p5, P0⟩, ⟨q1, q2, q3, q4, q5, P1⟩, E0, E1⟩ := hD.ex
  have hV0 : Inst g V 508 [("variables", .ref D)] := hV
  have hres : ∃ e, (u = 0 ∧ d = d0 ∧ e = e0 ∨ u = 1 ∧ d = d1 ∧ e = e1) ∧ TyR g X e (ch u) := by
    have h2 : u = 0 ∨ u = 1 := by omega
    rcases h2 with rfl | rfl
    · have := (I.same P0).2
      injection this with _ this
      injection this with a _
      injection a with _ a
      injection a with a
      exact ⟨e0, .inl ⟨rfl, a, rfl⟩, E0⟩
    · have := (I.same P1).2
      injection this with _ this
      injection this with a _
      injection a with _ a
      injection a with a
      exact ⟨e1, .inr ⟨rfl, a, rfl⟩, E1⟩
  obtain ⟨e, hcase, hty⟩ := hres
  have hne : d0 ≠ d1 := fun z => by subst z; have := h0.inj h1; omega
  have inner : Pu prog w (KP w.params) 7 (call (.ref 498) [.ref V, .ref (X.V u)] []) (fun r g' => r = .ref e ∧ g' = g) g := by
    refine Fn.def (f := 498) (n := 6) (binds := [("self", .ref V), ("t", .ref (X.V u))]) rfl ⟨rfl, rfl, rfl, rfl, rfl, rfl, by kernel_rfl, by decide +kernel, by kernel_rfl⟩ rfl (fun s X => BindsTo.of_eq rfl) rfl fun c O W hS => ?_
    dsimp only [ofBinds, List.foldl_cons, List.foldl_nil] at hS ⊢
    tb_start
    refine T.methodGetV (.inl hDx) ?_
    tb_start
    rcases hcase with ⟨rfl, rfl, rfl⟩ | ⟨rfl, rfl, rfl⟩
    · refine T.getV (n := 5) (j := 0) O (.inl hDx) rfl (by simp) (fun x hx hxa => ?_) ((hashTv h0 (by omega) (by omega)).of_room (by omega)) ?_
      · rcases List.mem_cons.mp hx with rfl | hx
        · rfl
        · rw [List.mem_singleton.mp hx] at hxa; exact absurd hxa.symm hne
      · tb_start
        exact ⟨rfl, rfl⟩
    · refine T.getV (n := 5) (j := 1) O (.inl hDx) rfl (by simp) (fun x hx hxa => ?_) ((hashTv h1 (by omega) (by omega)).of_room (by omega)) ?_
      · rcases List.mem_cons.mp hx with rfl | hx
        · exact absurd hxa hne
        · rw [List.mem_singleton.mp hx]
      · tb_start
        exact ⟨rfl, rfl⟩
  refine Fn.def (f := 194) (n := 7) (binds := [("self", .ref (X.V u)), ("visitor", .ref V)]) rfl ⟨rfl, rfl, rfl, rfl, rfl, rfl, by kernel_rfl, by decide +kernel, by kernel_rfl⟩ rfl (fun s X => BindsTo.of_eq rfl) rfl fun c O W hS => ?_
  dsimp only [ofBinds, List.foldl_cons, List.foldl_nil] at hS ⊢
  tb_start
  refine T.pu_same O inner (by omega) ?_
  tb_start
  have hb := hc.ud u hu
  exact ⟨e, ch u, rfl, hty, .refl _, hb.1, hb.2.1, hb.2.2⟩

end
section
variable {prog : Program} {w : World} {g : G} {n : Nat} {Z : Wm} {X : Wa}
/-- a run of types, each as it becomes -/
inductive ExpL (g : G) (X : Wa) (Z : Wm) (ch : Nat → Tr) : List Tr → List Addr → List Tr → Prop
  | nil : ExpL g X Z ch [] [] []
  | cons {t s' : Tr} {y : Addr} {ts us : List Tr} {ys : List Addr} : ExpR g X Z ch t y s' → ExpL g X Z ch ts ys us → ExpL g X Z ch (t :: ts) (y :: ys) (s' :: us)
theorem ExpL.mono {g g' : G} {ch : Nat → Tr} {ts us : List Tr} {ys : List Addr} (h : ExpL g X Z ch ts ys us) (l : Le g g') : ExpL g' X Z ch ts ys us := by
  induction h with
  | nil => exact .nil
  | cons a _ ih => exact .cons (a.mono l) ih
theorem ExpL.ty {ch : Nat → Tr} {ts us : List Tr} {ys : List Addr} (h : ExpL g X Z ch ts ys us) : TysR g X ys us := by
  induction h with
  | nil => exact .nil
  | cons a _ ih => exact .cons a.ty ih
theorem ExpL.eql {ch : Nat → Tr} {ts us : List Tr} {ys : List Addr} (h : ExpL g X Z ch ts ys us) : EqL Z (flat us) (ts.flatMap fun x => (x.put ch).leaves) := by
  induction h with
  | nil => exact .refl _
  | cons a _ ih => rw [flat_cons, List.flatMap_cons]; exact a.eq.leaves.app ih
theorem ExpL.cnt {ch : Nat → Tr} {ts us : List Tr} {ys : List Addr} (h : ExpL g X Z ch ts ys us) : (flat us).length ≤ 2 * (flat ts).length := by
  induction h with
  | nil => exact Nat.le_refl _
  | cons a _ ih => rw [flat_cons, flat_cons, List.length_append, List.length_append]; have := a.cnt; omega
theorem ExpL.ud {ch : Nat → Tr} {ts us : List Tr} {ys : List Addr} {k : Nat} (h : ExpL g X Z ch ts ys us) (hk : ∀ t ∈ ts, t.ud ≤ k) : ∀ u ∈ us, u.ud ≤ k + 1 := by
  induction h with
  | nil => exact fun _ h => nomatch h
  | cons a _ ih =>
    intro u hu
    rcases List.mem_cons.mp hu with rfl | hu
    · have := a.ud; have := hk _ (.head _); omega
    · exact ih (fun t ht => hk t (.tail _ ht)) u hu
theorem gatherX {ch : Nat → Tr} : ∀ {ts : List Tr} {ys : List Value}, ys.length = ts.length → (∀ (i : Nat) (y : Value), ys[i]? = some y → ∃ t a s', ts[i]? = some t ∧ y = .ref a ∧ ExpR g X Z ch t a s') → ∃ (bs : List Addr) (us : List Tr), ys = bs.map .ref ∧ ExpL g X Z ch ts bs us
  | [], [], _, _ => ⟨[], [], rfl, .nil⟩
  | [], _ :: _, h, _ => nomatch h
  | _ :: _, [], h, _ => nomatch h
  | t :: ts, y :: ys, hl, h => by
    obtain ⟨t', a, s', e, rfl, r⟩ := h 0 y rfl
    cases e
    obtain ⟨bs, us, e, rs⟩ := gatherX (by simpa using hl) fun i y q => h (i + 1) y (by simpa using q)
    exact ⟨a :: bs, s' :: us, by rw [e]; rfl, .cons r rs⟩
theorem flat_mem_ud {us : List Tr} {k : Nat} (h : ∀ u ∈ us, u.ud ≤ k) : ∀ x ∈ flat us, x.isUni = false ∧ x.ud ≤ k := by
  intro x hx
  obtain ⟨u, hu, hx⟩ := List.mem_flatMap.mp hx
  exact ⟨leaves_notUni _ x hx, Nat.le_trans (leaf_ud u x hx) (h u hu)⟩
theorem transList {ch : Nat → Tr} {m k : Nat} (ih : ExpOk prog w Z X ch m k) {e V D : Addr} {as : List Addr} {ts : List Tr} (hW : Wk g Z X) (hd : ∀ t ∈ ts, t.dep ≤ k) (hs : ∀ t ∈ ts, t.sz ≤ 100) (hz : ts.length ≤ 300) (he : Tup g e (as.map .ref) ∨ Lst g e (as.map .ref)) (ha : TysR g X as ts) (hV : VisE g V D) (hD : EnvD g X D ch) :
    Pu prog w (KP w.params) (m + 1) (call (.ref 449) [.ref V, .ref e]) (fun r g' => ∃ a bs us, r = .ref a ∧ Lst g' a (bs.map .ref) ∧ ExpL g' X Z ch ts bs us) g := by
  have hV0 : Inst g V 508 [("variables", .ref D)] := hV
  refine Fn.defM (f := 449) (n := m) (binds := [("self", .ref V), ("types", .ref e)]) rfl ⟨rfl, rfl, rfl, rfl, rfl, rfl, by kernel_rfl, by decide +kernel, by kernel_rfl⟩ rfl (fun s X => BindsTo.of_eq rfl) rfl fun c O W hS => ?_
  dsimp only [ofBinds, List.foldl_cons, List.foldl_nil] at hS ⊢
  tb_start
  refine T.lc O hS (by kernel_rfl) (by kernel_rfl) (fun _ => rfl) ?_
  tb_start
  refine he.elim (fun he => Seqs.tuple O he ?_) (fun he => Seqs.list O he ?_)
  all_goals refine (LcK.map (fun i v g' => ∃ t a s', ts[i]? = some t ∧ v = .ref a ∧ ExpR g' X Z ch t a s') (fun i v g1 g2 l ⟨t, a, s', e1, e2, r⟩ => ⟨t, a, s', e1, e2, r.mono l⟩) (by kernel_rfl) (by rw [List.length_map, ha.length]; omega) ?_ ?_)
  iterate 2
    · intro D' c' O' hS' i v g' ρ' acc hi hv l hρ
      obtain ⟨a, ha', rfl⟩ := refs_get hv
      obtain ⟨t, et, htr⟩ := ha.get ha'
      have htm := List.mem_of_getElem? et
      have hr := htr.mono l
      have hself : ρ' "self" = some (.ref V) := (hρ "self" (by kernel_rfl)).trans (by k_subL)
      tb_start
      refine T.accM O' (hW.mono l) hr ?_
      tb_start
      refine T.cw1K O' (kpAcc _ _) (by kernel_rfl) ?_
      tb_start
      refine T.pu O' (ih g' a V D t (hW.mono l) hr (hV.mono l) (hD.mono l) (hd t htm) (hs t htm)) (by omega) fun r g'' l' ⟨y, s', q1, q2⟩ => ?_
      exact ⟨rfl, t, y, s', et, q1, q2⟩
    · intro D' ys g' l hlen hys
      obtain ⟨bs, us, rfl, rs⟩ := gatherX (by rw [hlen, List.length_map, ha.length]) hys
      tb_start
      exact fun g'' l' hM => ⟨D', bs, us, rfl, hM _ (.head _), rs.mono l'⟩

end
section
variable {prog : Program} {w : World} {g : G} {n : Nat} {Z : Wm} {X : Wa}
theorem copyMod {x C e a : Addr} {vs : List Value} (I : Inst g x 338 [("type", .ref C), ("args", .ref e)]) (S : Lst g a vs) (hz : vs.length ≤ 900) :
    Pu prog w (KP w.params) 7 (call (.ref 335) [.ref x] [("args", .ref a)]) (fun r g' => ∃ y e, r = .ref y ∧ Inst g' y 338 [("type", .ref C), ("args", .ref e)] ∧ Tup g' e vs) g := by
  refine Fn.def (f := 335) (n := 6) (binds := [("self", .ref x), ("args", .ref a)]) rfl ⟨rfl, rfl, rfl, rfl, rfl, rfl, by kernel_rfl, by decide +kernel, by kernel_rfl⟩ rfl (fun s X => BindsTo.of_eq rfl) rfl fun c O W hS => ?_
  dsimp only [ofBinds, List.foldl_cons, List.foldl_nil] at hS ⊢
  tb_start
  refine T.pu O (mk_Instance S hz) (by omega) fun r g' l ⟨y, e', q1, q2, q3⟩ => ?_
  tb_start
  exact ⟨y, e', q1, q2, q3⟩
theorem ExpL.one {ch : Nat → Tr} {t : Tr} {us : List Tr} {ys : List Addr} (h : ExpL g X Z ch [t] ys us) : ∃ y s', ys = [y] ∧ us = [s'] ∧ ExpR g X Z ch t y s' := by
  cases h with
  | cons a b => cases b; exact ⟨_, _, rfl, rfl, a⟩
theorem expLeaf {ch : Nat → Tr} {s : Tr} {x : Addr} (hp : s.put ch = s) (hx : TyR g X x s) : ExpR g X Z ch s x s := ⟨hx, by rw [hp]; exact .refl _, by omega, by omega, by omega⟩
theorem expNone {ch : Nat → Tr} {x V D : Addr} (I : Inst g x 298 []) (hV : VisE g V D) : Pu prog w (KP w.params) 6 (call (.ref 295) [.ref x, .ref V]) (fun r g' => ∃ y s', r = .ref y ∧ ExpR g' X Z ch .none y s') g := by
  have hV0 : Inst g V 508 [("variables", .ref D)] := hV
  have vis : Pu prog w (KP w.params) 5 (call (.ref 416) [.ref V, .ref x] []) (fun r g' => r = .ref x ∧ g' = g) g := by
    refine Fn.def (f := 416) (n := 4) (binds := [("self", .ref V), ("t", .ref x)]) rfl ⟨rfl, rfl, rfl, rfl, rfl, rfl, by kernel_rfl, by decide +kernel, by kernel_rfl⟩ rfl (fun s X => BindsTo.of_eq rfl) rfl fun c O W hS => ?_
    dsimp only [ofBinds, List.foldl_cons, List.foldl_nil] at hS ⊢
    tb_start
    exact ⟨rfl, rfl⟩
  refine Fn.def (f := 295) (n := 5) (binds := [("self", .ref x), ("visitor", .ref V)]) rfl ⟨rfl, rfl, rfl, rfl, rfl, rfl, by kernel_rfl, by decide +kernel, by kernel_rfl⟩ rfl (fun s X => BindsTo.of_eq rfl) rfl fun c O W hS => ?_
  dsimp only [ofBinds, List.foldl_cons, List.foldl_nil] at hS ⊢
  tb_start
  refine T.pu_same O vis (by omega) ?_
  tb_start
  exact ⟨x, _, rfl, expLeaf rfl (.none I)⟩
theorem expBot {ch : Nat → Tr} {x V D : Addr} (I : Inst g x 272 [("ambiguous", .bool false)]) (hV : VisE g V D) : Pu prog w (KP w.params) 6 (call (.ref 262) [.ref x, .ref V]) (fun r g' => ∃ y s', r = .ref y ∧ ExpR g' X Z ch .bot y s') g := by
  have hV0 : Inst g V 508 [("variables", .ref D)] := hV
  have vis : Pu prog w (KP w.params) 5 (call (.ref 423) [.ref V, .ref x] []) (fun r g' => r = .ref x ∧ g' = g) g := by
    refine Fn.def (f := 423) (n := 4) (binds := [("self", .ref V), ("t", .ref x)]) rfl ⟨rfl, rfl, rfl, rfl, rfl, rfl, by kernel_rfl, by decide +kernel, by kernel_rfl⟩ rfl (fun s X => BindsTo.of_eq rfl) rfl fun c O W hS => ?_
    dsimp only [ofBinds, List.foldl_cons, List.foldl_nil] at hS ⊢
    tb_start
    exact ⟨rfl, rfl⟩
  refine Fn.def (f := 262) (n := 5) (binds := [("self", .ref x), ("visitor", .ref V)]) rfl ⟨rfl, rfl, rfl, rfl, rfl, rfl, by kernel_rfl, by decide +kernel, by kernel_rfl⟩ rfl (fun s X => BindsTo.of_eq rfl) rfl fun c O W hS => ?_
  dsimp only [ofBinds, List.foldl_cons, List.foldl_nil] at hS ⊢
  tb_start
  refine T.pu_same O vis (by omega) ?_
  tb_start
  exact ⟨x, _, rfl, expLeaf rfl (.bot I)⟩
theorem expCls {ch : Nat → Tr} {x V D : Addr} {k : Nat} (hk : k < 4) (hx : InstOf g x (X.I k) []) (hV : VisE g V D) : Pu prog w (KP w.params) 6 (call (.ref 321) [.ref x, .ref V]) (fun r g' => ∃ y s', r = .ref y ∧ ExpR g' X Z ch (.cls k) y s') g := by
  have hx0 := hx
  have hV0 : Inst g V 508 [("variables", .ref D)] := hV
  obtain ⟨e, I, E⟩ := hx
  have vis : Pu prog w (KP w.params) 5 (call (.ref 491) [.ref V, .ref x] []) (fun r g' => r = .ref x ∧ g' = g) g := by
    refine Fn.def (f := 491) (n := 4) (binds := [("self", .ref V), ("t", .ref x)]) rfl ⟨rfl, rfl, rfl, rfl, rfl, rfl, by kernel_rfl, by decide +kernel, by kernel_rfl⟩ rfl (fun s X => BindsTo.of_eq rfl) rfl fun c O W hS => ?_
    dsimp only [ofBinds, List.foldl_cons, List.foldl_nil] at hS ⊢
    tb_start
    refine T.lenT E (by simp) fun t1 => ?_
    tb_start
    exact ⟨rfl, rfl⟩
  refine Fn.def (f := 321) (n := 5) (binds := [("self", .ref x), ("visitor", .ref V)]) rfl ⟨rfl, rfl, rfl, rfl, rfl, rfl, by kernel_rfl, by decide +kernel, by kernel_rfl⟩ rfl (fun s X => BindsTo.of_eq rfl) rfl fun c O W hS => ?_
  dsimp only [ofBinds, List.foldl_cons, List.foldl_nil] at hS ⊢
  tb_start
  refine T.pu_same O vis (by omega) ?_
  tb_start
  exact ⟨x, _, rfl, expLeaf rfl (.cls hk hx0)⟩
theorem expApp {ch : Nat → Tr} {m k : Nat} (hm : 8 ≤ m) (ih : ExpOk prog w Z X ch m k) {x y V D : Addr} {v : Nat} {t : Tr} (hW : Wk g Z X) (h4 : 4 ≤ v) (h6 : v ≤ 6) (hx : InstOf g x (X.I v) [y]) (hy : TyR g X y t) (hV : VisE g V D) (hD : EnvD g X D ch) (hd : t.dep ≤ k) (hs : t.sz ≤ 100) :
    Pu prog w (KP w.params) (m + 3) (call (.ref 321) [.ref x, .ref V]) (fun r g' => ∃ y s', r = .ref y ∧ ExpR g' X Z ch (.app v t) y s') g := by
  have hV0 : Inst g V 508 [("variables", .ref D)] := hV
  obtain ⟨e, I, E⟩ := hx
  have vis : Pu prog w (KP w.params) (m + 2) (call (.ref 491) [.ref V, .ref x] []) (fun r g' => ∃ y s', r = .ref y ∧ ExpR g' X Z ch (.app v t) y s') g := by
    refine Fn.def (f := 491) (n := (m + 1)) (binds := [("self", .ref V), ("t", .ref x)]) rfl ⟨rfl, rfl, rfl, rfl, rfl, rfl, by kernel_rfl, by decide +kernel, by kernel_rfl⟩ rfl (fun s X => BindsTo.of_eq rfl) rfl fun c O W hS => ?_
    dsimp only [ofBinds, List.foldl_cons, List.foldl_nil] at hS ⊢
    tb_start
    refine T.lenT E (by simp) fun t1 => ?_
    tb_start
    refine T.pu O (transList ih (ts := [t]) (as := [y]) hW (by simpa using hd) (by simpa using hs) (by simp) (.inl E) (.cons hy .nil) hV hD) (by omega) fun r g1 l1 ⟨a, bs, us, q1, q2, q3⟩ => ?_
    obtain ⟨z, t', rfl, rfl, hz⟩ := q3.one
    subst q1
    tb_start
    have I' := I.mono l1
    refine T.pu O (copyMod I' q2 (by simp)) (by omega) fun r g2 l2 ⟨u, e', p1, p2, p3⟩ => ?_
    tb_start
    have := hz.dep
    exact ⟨u, .app v t', p1, .app h4 h6 ⟨e', p2, p3⟩ (hz.ty.mono l2), hz.eq.app v, by show t'.dep + 1 ≤ t.dep + 1 + 1; omega, by rw [dep_app, dep_app]; omega, by show 1 ≤ 2 * 1; omega⟩
  refine Fn.def (f := 321) (n := (m + 2)) (binds := [("self", .ref x), ("visitor", .ref V)]) rfl ⟨rfl, rfl, rfl, rfl, rfl, rfl, by kernel_rfl, by decide +kernel, by kernel_rfl⟩ rfl (fun s X => BindsTo.of_eq rfl) rfl fun c O W hS => ?_
  dsimp only [ofBinds, List.foldl_cons, List.foldl_nil] at hS ⊢
  tb_start
  refine T.pu O vis (by omega) fun r g' l q => ?_
  tb_start
  exact q
theorem expUni {ch : Nat → Tr} {m k : Nat} (hm : 72 ≤ m) (hk5 : k ≤ 4) (ih : ExpOk prog w Z X ch m k) {x l V D : Addr} {as : List Addr} {p q : Tr} (hW : Wk g Z X) (I : Inst g x 379 [("items", .ref l)]) (hl : Lst g l (as.map .ref)) (ha : TysR g X as (Tr.uni p q).leaves) (hV : VisE g V D) (hD : EnvD g X D ch) (hd : (Tr.uni p q).dep ≤ k + 1) (hs : (Tr.uni p q).sz ≤ 100) :
    Pu prog w (KP w.params) (m + 3) (call (.ref 376) [.ref x, .ref V]) (fun r g' => ∃ y s', r = .ref y ∧ ExpR g' X Z ch (.uni p q) y s') g := by
  have hV0 : Inst g V 508 [("variables", .ref D)] := hV
  have hcnt : (Tr.uni p q).leaves.length ≤ 100 := Nat.le_trans (leaves_sz _) hs
  have hflat : flat (Tr.uni p q).leaves = (Tr.uni p q).leaves := flat_same (leaves_notUni _)
  have hud : ∀ t ∈ (Tr.uni p q).leaves, t.ud ≤ (Tr.uni p q).ud := leaf_ud _
  have hdud : (Tr.uni p q).dep = (Tr.uni p q).ud + 1 := rfl
  have vis : Pu prog w (KP w.params) (m + 2) (call (.ref 505) [.ref V, .ref x] []) (fun r g' => ∃ y s', r = .ref y ∧ ExpR g' X Z ch (.uni p q) y s') g := by
    refine Fn.def (f := 505) (n := (m + 1)) (binds := [("self", .ref V), ("t", .ref x)]) rfl ⟨rfl, rfl, rfl, rfl, rfl, rfl, by kernel_rfl, by decide +kernel, by kernel_rfl⟩ rfl (fun s X => BindsTo.of_eq rfl) rfl fun c O W hS => ?_
    dsimp only [ofBinds, List.foldl_cons, List.foldl_nil] at hS ⊢
    tb_start
    refine T.pu O (transList ih hW (fun t ht => by have := leaf_dep2 ht; omega) (fun t ht => Nat.le_trans (leaf_sz _ t ht) hs) (by omega) (.inr hl) ha hV hD) (by omega) fun r g1 l1 ⟨a, bs, us, q1, q2, q3⟩ => ?_
    subst q1
    have hfl := q3.cnt
    rw [hflat] at hfl
    have hfu := flat_mem_ud (q3.ud hud)
    tb_start
    refine T.clsStatic (C := 379) (p := 368) (f := .ref 366) (rest := [.bool false]) O (by kernel_rfl) (by kernel_rfl) (by kernel_rfl) (by kernel_rfl) (by kernel_rfl) ?_
    refine T.cw0K O (by kernel_rfl) (by kernel_rfl) ?_
    tb_start
    refine T.pu O (flat1 (hW.mono l1) q2 q3.ty (by omega)) (by omega) fun r g2 l2 ⟨a2, bs2, q4, q5, q6⟩ => ?_
    subst q4
    tb_start
    refine T.pu O (removeTrivial (hW.mono (l1.trans l2)) q5 q6 (by omega) (fun t ht => (hfu t ht).1) (fun t ht => by rw [dep_leaf (hfu t ht).1]; have := (hfu t ht).2; omega)) (by omega) fun r g3 l3 ⟨a3, bs3, vs, q7, q8, q9, q10⟩ => ?_
    subst q7
    have hvu : ∀ u ∈ vs, u.isUni = false ∧ u.ud ≤ (Tr.uni p q).ud + 1 := fun u hu => by
      rcases q10.sub u hu with h | rfl
      · exact hfu u h
      · exact ⟨rfl, Nat.zero_le _⟩
    have hlen := q10.len
    tb_start
    refine T.pu O (makeUnion (hW.mono ((l1.trans l2).trans l3)) q8 q9 (by omega) q10.ne fun t ht => (hvu t ht).1) (by omega) fun r g4 l4 ⟨y, q11, q12⟩ => ?_
    subst q11
    tb_start
    have hml := mkU_leaves q10.ne fun t ht => (hvu t ht).1
    have hmu : (mkU vs).ud ≤ (Tr.uni p q).ud + 1 := mkU_ud fun t ht => (hvu t ht).2
    refine ⟨y, mkU vs, rfl, q12, EqL.tr (by rw [hml, put_leaves]; exact q10.eq.trans q3.eql) (leaves_ne _) (leaves_ne _), hmu, ?_, ?_⟩
    · unfold Tr.dep
      show _ ≤ (Tr.uni p q).ud + 1 + 1
      split <;> omega
    · rw [hml]
      have : (Tr.uni p q).leaves.length ≠ 0 := fun h => leaves_ne (.uni p q) (List.eq_nil_of_length_eq_zero h)
      omega
  refine Fn.def (f := 376) (n := (m + 2)) (binds := [("self", .ref x), ("visitor", .ref V)]) rfl ⟨rfl, rfl, rfl, rfl, rfl, rfl, by kernel_rfl, by decide +kernel, by kernel_rfl⟩ rfl (fun s X => BindsTo.of_eq rfl) rfl fun c O W hS => ?_
  dsimp only [ofBinds, List.foldl_cons, List.foldl_nil] at hS ⊢
  tb_start
  refine T.pu O vis (by omega) fun r g' l q => ?_
  tb_start
  exact q
theorem expAll {ch : Nat → Tr} (hc : ChOk Z ch) : ∀ k, k ≤ 5 → ExpOk prog w Z X ch (3 * k + 72) k
  | 0, _ => fun g x V D s hW hx hV hD hd hs => by
    cases hx with
    | cls hk i => exact (expCls hk i hV).of_room (by omega)
    | app _ _ _ h => rw [dep_app] at hd; omega
    | var hu => exact (expVar hc hW hu hV hD).of_room (by omega)
    | none I => exact (expNone I hV).of_room (by omega)
    | bot I => exact (expBot I hV).of_room (by omega)
    | uni => rw [dep_uni] at hd; omega
  | k + 1, h5 => fun g x V D s hW hx hV hD hd hs => by
    cases hx with
    | cls hk i => exact (expCls hk i hV).of_room (by omega)
    | app h4 h6 i h => exact (expApp (by omega) (expAll hc k (by omega)) hW h4 h6 i h hV hD (by rw [dep_app] at hd; omega) hs).of_room (by omega)
    | var hu => exact (expVar hc hW hu hV hD).of_room (by omega)
    | none I => exact (expNone I hV).of_room (by omega)
    | bot I => exact (expBot I hV).of_room (by omega)
    | uni I L z hs' => exact (expUni (by omega) (by omega) (expAll hc k (by omega)) hW I L hs' hV hD hd hs).of_room (by omega)
theorem expandType {ch : Nat → Tr} (hc : ChOk Z ch) {x D : Addr} {s : Tr} (hW : Wk g Z X) (hx : TyR g X x s) (hD : EnvD g X D ch) (hd : s.dep ≤ 5) (hs : s.sz ≤ 100) : Pu prog w (KP w.params) 90 (call (.ref 463) [.ref x, .ref D]) (fun r g' => ∃ y s', r = .ref y ∧ ExpR g' X Z ch s y s') g := by
  refine Fn.def (f := 463) (n := 89) (binds := [("typ", .ref x), ("env", .ref D)]) rfl ⟨rfl, rfl, rfl, rfl, rfl, rfl, by kernel_rfl, by decide +kernel, by kernel_rfl⟩ rfl (fun s X => BindsTo.of_eq rfl) rfl fun c O W hS => ?_
  dsimp only [ofBinds, List.foldl_cons, List.foldl_nil] at hS ⊢
  tb_start
  refine T.accM O hW hx ?_
  tb_start
  refine T.cw1K O (kpAcc _ _) (by kernel_rfl) ?_
  tb_start
  refine T.pu O mk_ExpandTypeVisitor (by omega) fun r g1 l1 ⟨V, q1, q2⟩ => ?_
  subst q1
  tb_start
  refine T.pu O (expAll hc 5 (by omega) g1 x V D s (hW.mono l1) (hx.mono l1) q2 (hD.mono l1) hd hs) (by omega) fun r g' l q => ?_
  tb_start
  exact q

end
section
variable {prog : Program} {w : World} {g : G} {n : Nat}
/-- which classes of a list have bases -/
def FlB (g : G) (mb : List Addr) (fl : Addr → Bool) : Prop := ∀ x ∈ mb, ∃ nm tvs bs m, ClsA g x nm tvs bs m ∧ fl x = !bs.isEmpty
theorem FlB.mono {g g' : G} {mb : List Addr} {fl : Addr → Bool} (h : FlB g mb fl) (l : Le g g') : FlB g' mb fl := fun x hx => let ⟨a, b, c, d, e, f⟩ := h x hx; ⟨a, b, c, d, e.mono l, f⟩
theorem mk_TypeInfo {nm : Str} {t : Tok} {tvl bl : Addr} {tvs bs mb : List Addr} {fl : Addr → Bool} (hT : NamV g tvs) (hl : Lst g tvl (tvs.map .ref)) (hb : Lst g bl (bs.map .ref)) (hz : tvs.length ≤ 9) (hzb : mb.length ≤ 90)
    (hB : (bs = [] ∧ mb = []) ∨ ∃ b B hd nmB tvB bsB, bs = [b] ∧ InstOf g b B hd ∧ ClsA g B nmB tvB bsB mb) (hnd : mb.Nodup) (hfl : FlB g mb fl) (hmb : mb.filter fl ++ mb.filter (fun x => !fl x) = mb) :
    Pu prog w (KP w.params) 10 (call (.ref 64) [.str nm t, .ref tvl, .ref bl] []) (fun r g' => ∃ C, r = .ref C ∧ g C = none ∧ ClsA g' C nm tvs bs (C :: mb)) g := by
  have hbz : bs.length ≤ 1 := by
    rcases hB with ⟨rfl, _⟩ | ⟨b, _, _, _, _, _, rfl, _⟩ <;> simp
  refine Pu.make (n := 8) (fI := 54) (binds := fun x => [("self", .ref x), ("fullname", .str nm t), ("type_vars", .ref tvl), ("bases", .ref bl)]) (mk_64 _) (in_64 _) (ty_54 _) rfl ⟨rfl, rfl, rfl, rfl, rfl, rfl, by kernel_rfl, by decide +kernel, by kernel_rfl⟩ rfl (fun s x X => BindsTo.of_eq rfl) (fun x => rfl) fun x d c O W hS hx hd => ?_
  dsimp only [ofBinds, List.foldl_cons, List.foldl_nil] at hS ⊢
  tb_start
  have lx := Le.setG (m := .inst 64 d) hx
  refine T.pu O mk_ClassDef (by omega) fun r g1 l1 ⟨dd, q1, q2⟩ => ?_
  subst q1
  have l01 := lx.trans l1
  have hxg : g1 x = some (.inst 64 d) := l1 _ _ setG_self
  tb_start
  refine T.lc O hS (by kernel_rfl) (by kernel_rfl) (fun _ => rfl) ?_
  tb_start
  refine Seqs.list O (hl.mono l01) (LcK.map (fun i v g' => True) (fun _ _ _ _ _ _ => trivial) (by kernel_rfl) (by rw [List.length_map]; omega) ?_ ?_)
  · intro D' c' O' hS' i v g' ρ' acc hi hv l hρ
    obtain ⟨a, ha', rfl⟩ := refs_get hv
    obtain ⟨nm0, t0, d0, ub, vl, vv, t1, Iv⟩ := (hT.mono (l01.trans l)) i a ha'
    tb_start
    exact ⟨rfl, trivial⟩
  intro NL names g2 l2 hnl _
  refine T.freeze0 fun hNL => ?_
  have SN : Lst (setG g2 NL (.list names)) NL names := setG_self
  have l3 : Le g2 (setG g2 NL (.list names)) := Le.setG hNL
  have hxg3 := (l2.trans l3) _ _ hxg
  have l03 := l01.trans (l2.trans l3)
  have q3 := q2.mono (l2.trans l3)
  generalize setG g2 NL (.list names) = g3 at SN l3 hxg3 l03 q3
  tb_start
  refine T.newList (by simp) fun ab => ?_
  tb_start
  refine T.for_ O W hS (fun _ => rfl) ?_
  tb_start
  have KV : List (Str × Value) := []
  refine Seqs.list O (hb.mono l03) ⟨fun j g' ρ' M => ρ' "self" = some (.ref x) ∧ ρ' "above" = some (.ref ab) ∧ ∃ kv, kv = [(("fullname" : Str), Value.str nm t), ("defn", .ref dd), ("type_vars", .ref NL), ("bases", .ref bl)] ∧ (j = 0 → M = [(ab, .list []), (d, .sd kv)]) ∧ (j = 1 → M = [(ab, .list (mb.map .ref)), (d, .sd kv)]),
    ⟨by k_subL, by k_subL, _, rfl, fun _ => rfl, fun e => by cases e⟩, ?_, ?_⟩
  · rintro c' O' W' hS' j v g' ρ' M hj hv l ⟨v1, v2, kv, rfl, m0, _⟩
    have hj0 : j = 0 := by rw [List.length_map] at hj; omega
    subst hj0
    have hM := m0 rfl
    subst hM
    rcases hB with ⟨rfl, _⟩ | ⟨b, B, hd, nmB, tvB, bsB, rfl, tb, cB⟩
    · cases hv
    have hv' : v = .ref b := by simpa using hv.symm
    subst hv'
    have l0 := l03.trans l
    have tb' := tb.mono l0
    obtain ⟨eb, Ib, Eb⟩ := tb'
    obtain ⟨t0, dd', tvl', nml, bl', ml, names', o1, o2, o3, o4, o5, o6, o7⟩ := (cB.mono l0).obj
    refine T.assign_stored ?_
    tb_start
    refine T.for_ O' W' hS' (fun _ => rfl) ?_
    tb_start
    refine Seqs.list O' o7 ⟨fun j g' ρ' M => ρ' "self" = some (.ref x) ∧ ρ' "above" = some (.ref ab) ∧ M = [(ab, .list ((mb.take j).map .ref)), (d, .sd [(("fullname" : Str), Value.str nm t), ("defn", .ref dd), ("type_vars", .ref NL), ("bases", .ref bl)])],
      ⟨by k_subL, by k_subL, rfl⟩, ?_, ?_⟩
    · rintro c2 O2 W2 hS2 i v g4 ρ4 M4 hi hv l4 ⟨u1, u2, rfl⟩
      obtain ⟨c0, hc0, rfl⟩ := refs_get hv
      have hiz := (List.getElem?_eq_some_iff.mp hc0).1
      refine T.assign_stored ?_
      tb_start
      refine T.lend (pre := []) fun hab => ?_
      refine T.lc O2 hS2 (by kernel_rfl) (by kernel_rfl) (fun _ => rfl) ?_
      tb_start
      refine Seqs.list O2 (setG_self : Lst (setG g4 ab (.list ((mb.take i).map .ref))) ab _) (LcK.refs (fun _ => false) (by kernel_rfl) (by rw [List.length_take]; omega) ?_ ?_)
      · intro D3 c3 O3 hS3 a g5 ρ5 acc ha l5 hρ
        have hcls : ρ5 "cls" = some (.ref c0) := (hρ "cls" (by kernel_rfl)).trans (by k_subL)
        have hne : a ≠ c0 := fun q => by
          obtain ⟨m, hm⟩ := List.mem_iff_getElem?.mp ha
          have hmi : m < i := by
            have := (List.getElem?_eq_some_iff.mp hm).1
            rw [List.length_take] at this; omega
          rw [List.getElem?_take_of_lt hmi, q, ← hc0] at hm
          have := (List.getElem?_inj (by have := (List.getElem?_eq_some_iff.mp hc0).1; omega) hnd).mp hm
          omega
        have l05 : Le g g5 := (l0.trans l4).trans ((Le.setG hab).trans l5)
        obtain ⟨_, _, _, _, ca, _⟩ := (hfl.mono l05) a (List.mem_of_mem_take ha)
        obtain ⟨_, _, _, _, cc, _⟩ := (hfl.mono l05) c0 (List.mem_of_getElem? hc0)
        obtain ⟨da, hda⟩ := ca.cl
        obtain ⟨dc, hdc⟩ := cc.cl
        tb_start
        refine T.isRef hda hdc (fun _ q => nomatch q) (fun _ q => nomatch q) ?_
        rw [decide_eq_false hne]
        tb_start
        exact ⟨rfl, rfl, fun e => nomatch e⟩
      · intro D3 g5 l5
        rw [List.filter_eq_nil_iff.mpr (fun _ _ => Bool.false_ne_true), List.map_nil]
        intro g6 l6 hg6 e6
        refine T.lend (pre := [(ab, _)]) fun hD3 => T.truthyL (.inl setG_self) (by simp) fun g7 l7 hg7 e7 => ?_
        show IfK _ _ _
        have e8 : (mb.take (i + 1)).map Value.ref = (mb.take i).map .ref ++ [.ref c0] := by rw [List.take_add_one, hc0, List.map_append]; rfl
        refine IfK.t (T.drop ?_)
        tb_start
        refine T.methodL (.inr (.head _)) F.slot_list_append F.type_list_append ?_
        tb_start
        refine T.appendL (pre := []) O2 (by rw [List.length_map, List.length_take]; omega) ?_
        tb_start
        refine ⟨rfl, ?_⟩
        tb_start
        exact ⟨by k_subL, by k_subL, by rw [e8]; rfl⟩
    · rintro g4 ρ4 M4 l4 ⟨u1, u2, rfl⟩
      refine ExecK.next ?_
      tb_start
      rw [List.length_map, List.take_length]
      exact ⟨u1, u2, _, rfl, (fun e => by cases e), fun _ => rfl⟩
  · rintro g' ρ' M l ⟨v1, v2, kv, rfl, m0, m1⟩
    have hM : M = [(ab, .list (mb.map .ref)), (d, .sd [(("fullname" : Str), Value.str nm t), ("defn", .ref dd), ("type_vars", .ref NL), ("bases", .ref bl)])] := by
      rcases hB with ⟨rfl, rfl⟩ | ⟨b, B, hd, nmB, tvB, bsB, rfl, tb, cB⟩
      · exact m0 rfl
      · exact m1 rfl
    subst hM
    refine ExecK.next (T.freeze0 fun hab => ?_)
    have SA : Lst (setG g' ab (.list (mb.map .ref))) ab (mb.map .ref) := setG_self
    have l4 : Le g' (setG g' ab (.list (mb.map .ref))) := Le.setG hab
    have l04 := l03.trans (l.trans l4)
    have hxg4 := (l.trans l4) _ _ hxg3
    have SN4 := SN.mono (l.trans l4)
    have q4 := q3.mono (l.trans l4)
    generalize setG g' ab (.list (mb.map .ref)) = g4 at SA l4 l04 hxg4 SN4 q4
    tb_start
    refine T.newListF (by simp) fun L1 hL1 => ?_
    have S1 : Lst (setG g4 L1 (.list [.ref x])) L1 [.ref x] := setG_self
    have l5 : Le g4 (setG g4 L1 (.list [.ref x])) := Le.setG hL1
    have l05 := l04.trans l5
    have SA5 := SA.mono l5
    generalize setG g4 L1 (.list [.ref x]) = g5 at S1 l5 l05 SA5
    tb_start
    refine T.lc O hS (by kernel_rfl) (by kernel_rfl) (fun _ => rfl) ?_
    tb_start
    refine Seqs.list O SA5 (LcK.refs fl (by kernel_rfl) (by omega) ?_ ?_)
    · intro D3 c3 O3 hS3 a g6 ρ6 acc ha l6 hρ
      obtain ⟨_, _, _, _, ca, ef⟩ := (hfl.mono (l05.trans l6)) a ha
      obtain ⟨t0, dd', tvl', nml, bl', ml, names', o1, o2, o3, o4, o5, o6, o7⟩ := ca.obj
      tb_start
      refine T.truthyL (.inl o6) (by have := ca.few; rw [List.length_map]; omega) ?_
      refine ⟨by rw [ef]; simp, rfl, fun _ => ?_⟩
      tb_start
      exact ⟨rfl, rfl⟩
    intro F1 g6 l6
    refine T.freeze0 fun hF1 => ?_
    have S2 : Lst (setG g6 F1 (.list ((mb.filter fl).map .ref))) F1 ((mb.filter fl).map .ref) := setG_self
    have l7 : Le g6 (setG g6 F1 (.list ((mb.filter fl).map .ref))) := Le.setG hF1
    have l57 := l6.trans l7
    generalize setG g6 F1 (.list ((mb.filter fl).map .ref)) = g7 at S2 l7 l57
    refine T.addL (.inl (S1.mono l57)) (.inl S2) (by have := List.length_filter_le fl mb; simp; omega) fun L2 hL2 => ?_
    have S3 : Lst (setG g7 L2 (.list ([.ref x] ++ (mb.filter fl).map .ref))) L2 ([.ref x] ++ (mb.filter fl).map .ref) := setG_self
    have l8 : Le g7 (setG g7 L2 (.list ([.ref x] ++ (mb.filter fl).map .ref))) := Le.setG hL2
    have l58 := l57.trans l8
    generalize setG g7 L2 (.list ([.ref x] ++ (mb.filter fl).map .ref)) = g8 at S3 l8 l58
    refine T.lc O hS (by kernel_rfl) (by kernel_rfl) (fun _ => rfl) ?_
    tb_start
    refine Seqs.list O (SA5.mono l58) (LcK.refs (fun a => !fl a) (by kernel_rfl) (by omega) ?_ ?_)
    · intro D3 c3 O3 hS3 a g9 ρ9 acc ha l9 hρ
      obtain ⟨_, _, _, _, ca, ef⟩ := (hfl.mono ((l05.trans l58).trans l9)) a ha
      obtain ⟨t0, dd', tvl', nml, bl', ml, names', o1, o2, o3, o4, o5, o6, o7⟩ := ca.obj
      tb_start
      refine T.truthyL (.inl o6) (by have := ca.few; rw [List.length_map]; omega) ?_
      refine ⟨by rw [ef]; simp, rfl, fun _ => ?_⟩
      tb_start
      exact ⟨rfl, rfl⟩
    intro F2 g9 l9
    refine T.freeze0 fun hF2 => ?_
    have S4 : Lst (setG g9 F2 (.list ((mb.filter fun a => !fl a).map .ref))) F2 ((mb.filter fun a => !fl a).map .ref) := setG_self
    have l10 : Le g9 (setG g9 F2 (.list ((mb.filter fun a => !fl a).map .ref))) := Le.setG hF2
    have l510 := l58.trans (l9.trans l10)
    have l810 := l9.trans l10
    generalize setG g9 F2 (.list ((mb.filter fun a => !fl a).map .ref)) = g10 at S4 l10 l510 l810
    refine T.addL (.inl (S3.mono l810)) (.inl S4) (by have h1 := List.length_filter_le fl mb; have h2 := List.length_filter_le (fun a => !fl a) mb; simp; omega) fun L3 hL3 => ?_
    have em : ([.ref x] ++ (mb.filter fl).map Value.ref) ++ (mb.filter fun a => !fl a).map .ref = (x :: mb).map .ref := by
      rw [List.append_assoc, ← List.map_append, hmb]; rfl
    rw [em]
    have S5 : Lst (setG g10 L3 (.list ((x :: mb).map .ref))) L3 ((x :: mb).map .ref) := setG_self
    have l11 : Le g10 (setG g10 L3 (.list ((x :: mb).map .ref))) := Le.setG hL3
    have hxg11 := l11 _ _ (l510 _ _ (l5 _ _ hxg4))
    have l411 := l5.trans (l510.trans l11)
    generalize setG g10 L3 (.list ((x :: mb).map .ref)) = g11 at S5 l11 hxg11 l411
    tb_start
    refine ⟨rfl, _, rfl, fun g'' lz I => ⟨x, rfl, hx, ⟨t, dd, tvl, NL, bl, L3, names, I, (q4.mono l411).mono lz, (hl.mono (l04.trans l411)).mono lz, (SN4.mono l411).mono lz, by rw [hnl, List.length_map], (hb.mono (l04.trans l411)).mono lz, S5.mono lz⟩, hz, by omega, by simp; omega⟩⟩
theorem filt1 {r : Addr} {l : List Addr} (hn : r ∉ l) : (l ++ [r]).filter (fun x => decide (x ≠ r)) ++ (l ++ [r]).filter (fun x => !decide (x ≠ r)) = l ++ [r] := by
  have ne : ∀ x ∈ l, x ≠ r := fun x hx q => hn (by rw [← q]; exact hx)
  have e1 : (l ++ [r]).filter (fun x => decide (x ≠ r)) = l := by
    rw [List.filter_append, List.filter_eq_self.mpr fun x hx => decide_eq_true (ne x hx)]
    simp
  have e2 : (l ++ [r]).filter (fun x => !decide (x ≠ r)) = [r] := by
    rw [List.filter_append, List.filter_eq_nil_iff.mpr fun x hx => by rw [decide_eq_true (ne x hx)]; exact Bool.false_ne_true]
    simp
  rw [e1, e2]
theorem mk_root {nm : Str} {t : Tok} {tvl bl : Addr} (hl : Lst g tvl []) (hb : Lst g bl []) :
    Pu prog w (KP w.params) 10 (call (.ref 64) [.str nm t, .ref tvl, .ref bl] []) (fun r g' => ∃ C, r = .ref C ∧ g C = none ∧ ClsA g' C nm [] [] [C]) g :=
  mk_TypeInfo (tvs := []) (bs := []) (mb := []) (fl := fun _ => true) (fun j tv e => by cases j <;> cases e) hl hb (by simp) (by simp) (.inl ⟨rfl, rfl⟩) List.nodup_nil (fun x hx => nomatch hx) rfl
theorem mk_one {nm nmB nmr : Str} {t : Tok} {tvl bl b B root : Addr} {hd : List Addr} {tvs tvB bsB l tvr mr : List Addr} (hT : NamV g tvs) (hl : Lst g tvl (tvs.map .ref)) (hb : Lst g bl [.ref b]) (hz : tvs.length ≤ 9) (hzl : l.length ≤ 80)
    (tb : InstOf g b B hd) (cB : ClsA g B nmB tvB bsB (l ++ [root])) (hs : ∀ x ∈ l, ∃ nm tvs c bs m, ClsA g x nm tvs (c :: bs) m) (hr : ClsA g root nmr tvr [] mr) (hnd : (l ++ [root]).Nodup) :
    Pu prog w (KP w.params) 10 (call (.ref 64) [.str nm t, .ref tvl, .ref bl] []) (fun r g' => ∃ C, r = .ref C ∧ g C = none ∧ ClsA g' C nm tvs [b] (C :: (l ++ [root]))) g := by
  have hn : root ∉ l := fun q => (List.nodup_append.mp hnd).2.2 _ q _ (.head _) rfl
  refine mk_TypeInfo (bs := [b]) (mb := l ++ [root]) (fl := fun x => decide (x ≠ root)) hT hl hb hz (by simp; omega) (.inr ⟨b, B, hd, nmB, tvB, bsB, rfl, tb, cB⟩) hnd (fun x hx => ?_) (filt1 hn)
  rcases List.mem_append.mp hx with hx | hx
  · obtain ⟨a1, a2, a3, a4, a5, a6⟩ := hs x hx
    exact ⟨a1, a2, a3 :: a4, a5, a6, (decide_eq_true (p := x ≠ root) (fun q => hn (by rw [← q]; exact hx))).trans rfl⟩
  · rw [List.mem_singleton.mp hx]
    exact ⟨nmr, tvr, [], mr, hr, by simp⟩

end
section
variable {prog : Program} {w : World} {g : G} {n : Nat} {Z : Wm} {X : Wa}
def Tr.tag : Tr → Int | .cls k => k | .app v _ => v | .var v => 7 + v | .none => 9 | .bot => 10 | .uni _ _ => 11
def Tr.kids : Tr → List Tr | .cls _ => [] | .app _ t => [t] | .var _ => [] | .none => [] | .bot => [] | .uni a b => [a, b]
def Tr.ok : Tr → Bool | .cls k => decide (k < 4) | .app v _ => decide (4 ≤ v ∧ v ≤ 6) | .var v => decide (v < 2) | .none => true | .bot => true | .uni _ _ => true
def Tr.val : Tr → Bool | .cls k => decide (k < 4) | .app v t => decide (4 ≤ v ∧ v ≤ 6) && t.val | .var v => decide (v < 2) | .none => true | .bot => true | .uni a b => a.val && b.val
def Tr.ht : Tr → Nat | .cls _ => 0 | .app _ t => t.ht + 1 | .var _ => 1 | .none => 0 | .bot => 0 | .uni a b => max a.ht b.ht + 1
def td : Tr → PyData | .cls k => .tuple [.int k] | .app v t => .tuple [.int v, td t] | .var v => .tuple [.int (7 + v)] | .none => .tuple [.int 9] | .bot => .tuple [.int 10] | .uni a b => .tuple [.int 11, td a, td b]
mutual
inductive TrR (g : G) : Addr → Tr → Prop
  | mk {a : Addr} {t : Tr} {tk : Tok} {as : List Addr} : Tup g a (.int t.tag tk :: as.map .ref) → t.ok = true → TrsR g as t.kids → TrR g a t
inductive TrsR (g : G) : List Addr → List Tr → Prop
  | nil : TrsR g [] []
  | cons {a : Addr} {t : Tr} {as : List Addr} {ts : List Tr} : TrR g a t → TrsR g as ts → TrsR g (a :: as) (t :: ts)
end
mutual
theorem TrR.mono {g g' : G} (l : Le g g') : ∀ {a : Addr} {t : Tr}, TrR g a t → TrR g' a t
  | _, _, .mk h k r => .mk (h.mono l) k (r.mono l)
theorem TrsR.mono {g g' : G} (l : Le g g') : ∀ {as : List Addr} {ts : List Tr}, TrsR g as ts → TrsR g' as ts
  | _, _, .nil => .nil
  | _, _, .cons h t => .cons (h.mono l) (t.mono l)
end
theorem TrsR.length : ∀ {as : List Addr} {ts : List Tr}, TrsR g as ts → as.length = ts.length
  | _, _, .nil => rfl
  | _, _, .cons _ t => congrArg (· + 1) t.length
theorem TrsR.get : ∀ {as : List Addr} {ts : List Tr} {j : Nat} {a : Addr}, TrsR g as ts → as[j]? = some a → ∃ t, ts[j]? = some t ∧ TrR g a t
  | _, _, 0, _, .cons h _, e => by cases e; exact ⟨_, rfl, h⟩
  | _, _, j + 1, _, .cons _ t, e => TrsR.get (j := j) t e
  | _, _, _, _, .nil, e => by simp at e
theorem TrsR.at : ∀ {as : List Addr} {ts : List Tr} {j : Nat} {t : Tr}, TrsR g as ts → ts[j]? = some t → ∃ a, as[j]? = some a ∧ TrR g a t
  | _, _, 0, _, .cons h _, e => by cases e; exact ⟨_, rfl, h⟩
  | _, _, j + 1, _, .cons _ t, e => TrsR.at (j := j) t e
  | _, _, _, _, .nil, e => by simp at e
theorem td_eq (t : Tr) : td t = .tuple (.int t.tag :: t.kids.map td) := by cases t <;> rfl
theorem kids_len (t : Tr) : t.kids.length ≤ 2 := by cases t <;> simp [Tr.kids]
mutual
theorem TrR.reads {P : Params} {h : Heap} (sb : Sub P g h) : ∀ {a : Addr} {t : Tr}, TrR g a t → ∃ xs, Reads h (.ref a) (td t) xs
  | _, t, .mk e _ r => by
    obtain ⟨as, ha⟩ := r.reads sb
    obtain ⟨_, ho, rfl⟩ := sb _ _ e
    rw [td_eq]
    exact ⟨_, reads_tuple_at ho rfl rfl (by simpa using ReadsAll.cons (.int _ _) ha)⟩
theorem TrsR.reads {P : Params} {h : Heap} (sb : Sub P g h) : ∀ {as : List Addr} {ts : List Tr}, TrsR g as ts → ∃ xs, ReadsAll h (as.map .ref) (ts.map td) xs
  | _, _, .nil => ⟨_, .nil⟩
  | _, _, .cons a r => by
    obtain ⟨as, ha⟩ := a.reads sb
    obtain ⟨bs, hb⟩ := r.reads sb
    exact ⟨_, .cons ha hb⟩
end
theorem val_ok {t : Tr} : t.val = (t.ok && t.kids.all Tr.val) := by
  cases t <;> simp [Tr.val, Tr.ok, Tr.kids]
mutual
theorem TrR.val : ∀ {a : Addr} {t : Tr}, TrR g a t → t.val = true
  | _, t, .mk e k r => by rw [val_ok, k, r.val]; rfl
theorem TrsR.val : ∀ {as : List Addr} {ts : List Tr}, TrsR g as ts → ts.all Tr.val = true
  | _, _, .nil => rfl
  | _, _, .cons a r => by rw [List.all_cons, a.val, r.val]; rfl
end
open Classical
theorem td_inj : ∀ {s t : Tr}, s.val = true → t.val = true → PyData.eqv (td s) (td t) = decide (s = t)
  | .cls k, t, h1, h2 => by
    rw [Bool.eq_iff_iff]
    cases t <;> simp [td, PyData.eqv, PyData.eqvAll, Tr.val] at * <;> omega
  | .app v s, t, h1, h2 => by
    cases t with
    | app u t =>
      simp only [Tr.val, Bool.and_eq_true, decide_eq_true_eq] at h1 h2
      simp only [td, PyData.eqv, PyData.eqvAll, td_inj h1.2 h2.2]
      rw [Bool.eq_iff_iff]
      simp
      exact fun _ => Int.ofNat_inj
    | _ => rw [Bool.eq_iff_iff]; simp [td, PyData.eqv, PyData.eqvAll, Tr.val] at *; try omega
  | .var v, t, h1, h2 => by
    rw [Bool.eq_iff_iff]
    cases t <;> simp [td, PyData.eqv, PyData.eqvAll, Tr.val] at * <;> omega
  | .none, t, h1, h2 => by
    rw [Bool.eq_iff_iff]
    cases t <;> simp [td, PyData.eqv, PyData.eqvAll, Tr.val] at * <;> omega
  | .bot, t, h1, h2 => by
    rw [Bool.eq_iff_iff]
    cases t <;> simp [td, PyData.eqv, PyData.eqvAll, Tr.val] at * <;> omega
  | .uni a b, t, h1, h2 => by
    cases t with
    | uni p q =>
      simp only [Tr.val, Bool.and_eq_true] at h1 h2
      simp only [td, PyData.eqv, PyData.eqvAll, td_inj h1.1 h2.1, td_inj h1.2 h2.2]
      simp
    | _ => rw [Bool.eq_iff_iff]; simp [td, PyData.eqv, PyData.eqvAll, Tr.val] at *; try omega
theorem td_lay : ∀ t : Tr, (td t).canLay0 = true ∧ (td t).depth ≤ t.ht + 1
  | .cls _ => by simp [td, PyData.canLay0, PyData.canLayAll0, PyData.depth, PyData.depthAll]
  | .var _ => by simp [td, PyData.canLay0, PyData.canLayAll0, PyData.depth, PyData.depthAll]
  | .none => by simp [td, PyData.canLay0, PyData.canLayAll0, PyData.depth, PyData.depthAll]
  | .bot => by simp [td, PyData.canLay0, PyData.canLayAll0, PyData.depth, PyData.depthAll]
  | .app v t => by
    obtain ⟨h1, h2⟩ := td_lay t
    simp [td, PyData.canLay0, PyData.canLayAll0, PyData.depth, PyData.depthAll, Tr.ht, h1]
    omega
  | .uni a b => by
    obtain ⟨h1, h2⟩ := td_lay a
    obtain ⟨h3, h4⟩ := td_lay b
    simp [td, PyData.canLay0, PyData.canLayAll0, PyData.depth, PyData.depthAll, Tr.ht, h1, h3]
    omega
theorem td_shaped {t : Tr} (h : t.ht ≤ 60) : SeqAt.shaped (td t) = true := by
  unfold SeqAt.shaped
  rw [(td_lay t).1, decide_eq_true (by have := (td_lay t).2; omega)]; rfl
/-- == of two trees -/
theorem T.eqTr {K : Frag} {c : Cx} {ρ : Str → Option Value} {M : Mem} {a b : Addr} {s t : Tr} {Q : Post Value} (O : c.Ok K (n + 8)) (ra : TrR g a s) (rb : TrR g b t) (hs : s.ht ≤ 60) (ht : t.ht ≤ 60) (h : Q (.bool (decide (s = t))) g ρ M) :
    T prog w c (compareOp .Eq (.ref a) (.ref b)) Q g ρ M := T.tok fun s' hA R k => by
  obtain ⟨as, ha⟩ := ra.reads hA.know
  obtain ⟨bs, hb⟩ := rb.reads hA.know
  exact eq_dataH ha hb (td_shaped hs) (td_shaped ht) (by have := O.room.units; omega) (k _ s'.toks (by rw [td_inj ra.val rb.val]; exact h))

end
section
variable {prog : Program} {w : World} {g : G} {n : Nat} {Z : Wm} {X : Wa}
def RestV (ys : List Value) : Prop := ys.length ≤ 63 ∧ ∀ v ∈ ys, ∃ i t, v = Value.int i t
theorem RestV.init {ys : List Value} {v : Value} (h : RestV (ys ++ [v])) : RestV ys ∧ ∃ i t, v = .int i t := ⟨⟨by have := h.1; rw [List.length_append] at this; omega, fun x hx => h.2 x (List.mem_append_left _ hx)⟩, h.2 v (by simp)⟩
theorem fmod_lt {i top : Int} (h : 0 < top) : 0 ≤ i.fmod top ∧ i.fmod top < top := ⟨Int.fmod_nonneg_of_pos i h, Int.fmod_lt_of_pos i h⟩
/-- a number out of the script -/
def Drawn (g : G) (top : Int) (r : Value) (ys : List Value) (g' : G) : Prop := ∃ (k : Int) (t : Tok), r = .int k t ∧ 0 ≤ k ∧ k < top ∧ RestV ys ∧ g' = g
theorem draw {R : Addr} {xs : List Value} {top : Int} {tk : Tok} (h : 0 < top) (hx : RestV xs) : PuL prog w (KP w.params) 3 (call (.ref 666) [.ref R, .int top tk]) R xs (Drawn g top) g := by
  refine Fn.defL (f := 666) (n := 2) (binds := [("rest", .ref R), ("top", .int top tk)]) rfl ⟨rfl, rfl, rfl, rfl, rfl, rfl, by kernel_rfl, by decide +kernel, by kernel_rfl⟩ rfl (fun s X => BindsTo.of_eq rfl) rfl fun c O W hS => ?_
  dsimp only [ofBinds, List.foldl_cons, List.foldl_nil] at hS ⊢
  tb_start
  refine T.truthyL (.inr (.head _)) (by have := hx.1; omega) ?_
  refine IfK.split (fun q => ?_) fun q => ?_
  · have hne : xs ≠ [] := by intro z; subst z; cases q
    obtain ⟨ys, v, rfl⟩ : ∃ ys v, xs = ys ++ [v] := ⟨xs.dropLast, xs.getLast hne, (List.dropLast_concat_getLast hne).symm⟩
    obtain ⟨hr, i, t, rfl⟩ := hx.init
    tb_start
    refine T.methodL (.inr (.head _)) F.slot_list_pop F.type_list_pop ?_
    tb_start
    refine T.popL (pre := []) O (by have := hr.1; omega) ?_
    tb_start
    refine T.modI (by omega) fun t1 => ?_
    tb_start
    exact ⟨ys, .head _, _, t1, rfl, (fmod_lt h).1, (fmod_lt h).2, hr, rfl⟩
  · tb_start
    exact ⟨xs, .head _, 0, _, rfl, Int.le_refl _, h, hx, rfl⟩
theorem lawNames : Pu prog w (KP w.params) 2 (call (.ref 659) []) (fun r g' => ∃ l vs, r = .ref l ∧ Lst g' l vs ∧ ∀ k, k < 7 → ∃ t, vs[k]? = some (.str (nmK k) t)) g := by
  refine Fn.def (f := 659) (n := 1) (binds := []) rfl ⟨rfl, rfl, rfl, rfl, rfl, rfl, by kernel_rfl, by decide +kernel, by kernel_rfl⟩ rfl (fun s X => BindsTo.of_eq rfl) rfl fun c O W hS => ?_
  dsimp only [ofBinds, List.foldl_cons, List.foldl_nil] at hS ⊢
  tb_start
  refine T.newListF (by simp) fun L hL => ?_
  tb_start
  refine ⟨L, _, rfl, setG_self, fun k hk => ?_⟩
  have : k = 0 ∨ k = 1 ∨ k = 2 ∨ k = 3 ∨ k = 4 ∨ k = 5 ∨ k = 6 := by omega
  rcases this with rfl | rfl | rfl | rfl | rfl | rfl | rfl <;> exact ⟨_, rfl⟩

end
section
variable {prog : Program} {w : World} {g : G} {n : Nat} {Z : Wm} {X : Wa}
/-- the law's lists of classes and of variables -/
structure InfR (g : G) (X : Wa) (il vl : Addr) : Prop where
  i : Lst g il ([X.I 0, X.I 1, X.I 2, X.I 3, X.I 4, X.I 5, X.I 6].map .ref)
  v : Lst g vl ([X.V 0, X.V 1].map .ref)
theorem InfR.mono {g g' : G} {il vl : Addr} (h : InfR g X il vl) (l : Le g g') : InfR g' X il vl := ⟨h.i.mono l, h.v.mono l⟩
theorem InfR.get {il vl : Addr} (h : InfR g X il vl) {k : Nat} (hk : k < 7) : ([X.I 0, X.I 1, X.I 2, X.I 3, X.I 4, X.I 5, X.I 6].map Value.ref)[k]? = some (.ref (X.I k)) := by
  have : k = 0 ∨ k = 1 ∨ k = 2 ∨ k = 3 ∨ k = 4 ∨ k = 5 ∨ k = 6 := by omega
  rcases this with rfl | rfl | rfl | rfl | rfl | rfl | rfl <;> rfl
def LtOk (prog : Program) (w : World) (Z : Wm) (X : Wa) (il vl : Addr) (m N : Nat) : Prop := ∀ (g : G) (a : Addr) (t : Tr), Wk g Z X → TrR g a t → InfR g X il vl → t.ht < N → t.sz ≤ 100 → Pu prog w (KP w.params) m (call (.ref 693) [.ref a, .ref il, .ref vl]) (fun r g' => ∃ y, r = .ref y ∧ TyR g' X y t) g
theorem gatherT {g : G} : ∀ {ts : List Tr} {ys : List Value}, ys.length = ts.length → (∀ (i : Nat) (y : Value), ys[i]? = some y → ∃ t a, ts[i]? = some t ∧ y = .ref a ∧ TyR g X a t) → ∃ bs : List Addr, ys = bs.map .ref ∧ TysR g X bs ts
  | [], [], _, _ => ⟨[], rfl, .nil⟩
  | [], _ :: _, h, _ => nomatch h
  | _ :: _, [], h, _ => nomatch h
  | t :: ts, y :: ys, hl, h => by
    obtain ⟨t', a, e, rfl, r⟩ := h 0 y rfl
    cases e
    obtain ⟨bs, e, rs⟩ := gatherT (by simpa using hl) fun i y q => h (i + 1) y (by simpa using q)
    exact ⟨a :: bs, by rw [e]; rfl, .cons r rs⟩
theorem ltUni {m N : Nat} {il vl : Addr} {a : Addr} {p q : Tr} (hm : 9 ≤ m) (ih : LtOk prog w Z X il vl m N) (hW : Wk g Z X) (ht : TrR g a (.uni p q)) (hI : InfR g X il vl) (hN : (Tr.uni p q).ht < N + 1) (hs : (Tr.uni p q).sz ≤ 100) : Pu prog w (KP w.params) (m + 1) (call (.ref 693) [.ref a, .ref il, .ref vl]) (fun r g' => ∃ y, r = .ref y ∧ TyR g' X y (.uni p q)) g := by
  cases ht with
  | @mk _ _ tk as e hok hks =>
  have e' : Tup g a (.int 11 tk :: as.map .ref) := e
  have hks' : TrsR g as [p, q] := hks
  have hal := hks'.length
  simp only [List.length_cons, List.length_nil] at hal
  have hht : p.ht < N ∧ q.ht < N := by rw [Tr.ht] at hN; omega
  have hsz : p.sz ≤ 100 ∧ q.sz ≤ 100 := by rw [Tr.sz] at hs; omega
  refine Fn.def (f := 693) (n := m) (binds := [("tree", .ref a), ("infos", .ref il), ("variables", .ref vl)]) rfl ⟨rfl, rfl, rfl, rfl, rfl, rfl, by kernel_rfl, by decide +kernel, by kernel_rfl⟩ rfl (fun s X => BindsTo.of_eq rfl) rfl fun c O W hS => ?_
  dsimp only [ofBinds, List.foldl_cons, List.foldl_nil] at hS ⊢
  tb_start
  refine T.itemT e' (by decide) (by decide) rfl (by rfl) ?_
  tb_start
  refine T.lc O hS (by kernel_rfl) (by kernel_rfl) (fun _ => rfl) ?_
  tb_start
  refine T.slice ?_
  tb_start
  refine ⟨_, _, rfl, fun sl0 => ?_⟩
  refine T.sliceT2 (i := 1) e' (by simp; omega) (Nat.le_refl _) (by simp) (by rfl) fun L1 hL1 => ?_
  have S1 : Tup (setG g L1 (.tup ((Value.int 11 tk :: as.map Value.ref).drop 1))) L1 (as.map .ref) := setG_self
  have l1 : Le g (setG g L1 (.tup ((Value.int 11 tk :: as.map Value.ref).drop 1))) := Le.setG hL1
  generalize setG g L1 (.tup ((Value.int 11 tk :: as.map Value.ref).drop 1)) = g1 at S1 l1
  refine Seqs.tuple O S1 (LcK.map (fun i v g' => ∃ t y, [p, q][i]? = some t ∧ v = .ref y ∧ TyR g' X y t) (fun i v g1 g2 l ⟨t, y, e1, e2, r⟩ => ⟨t, y, e1, e2, r.mono l⟩) (by kernel_rfl) (by rw [List.length_map]; omega) ?_ ?_)
  · intro D' c' O' hS' i v g' ρ' acc hi hv l hρ
    obtain ⟨b, hb', rfl⟩ := refs_get hv
    obtain ⟨t, et, htr⟩ := hks'.get hb'
    have htm := List.mem_of_getElem? et
    have hb : t.ht < N ∧ t.sz ≤ 100 := by
      rcases List.mem_cons.mp htm with rfl | htm
      · exact ⟨hht.1, hsz.1⟩
      · rw [List.mem_singleton.mp htm]; exact ⟨hht.2, hsz.2⟩
    have l0 := l1.trans l
    have e1 : ρ' "infos" = some (.ref il) := (hρ "infos" (by kernel_rfl)).trans (by k_subL)
    have e2 : ρ' "variables" = some (.ref vl) := (hρ "variables" (by kernel_rfl)).trans (by k_subL)
    tb_start
    refine T.pu O' (ih g' b t (hW.mono l0) (htr.mono l0) (hI.mono l0) hb.1 hb.2) (by omega) fun r g'' l' ⟨y, q1, q2⟩ => ?_
    exact ⟨rfl, t, y, et, q1, q2⟩
  · intro D' ys g' l hlen hys
    obtain ⟨bs, rfl, rs⟩ := gatherT (ts := [p, q]) (by rw [hlen, List.length_map]; simpa using hal) fun i y e => hys i y e
    refine T.freeze0 fun hD => ?_
    have l2 := Le.setG (m := .list (bs.map Value.ref)) hD
    have l02 := (l1.trans l).trans l2
    tb_start
    have hfl : flat [p, q] = (Tr.uni p q).leaves := by rw [Tr.leaves]; simp [flat]
    refine T.pu O (mk_Union (ts := [p, q]) (hW.mono l02) setG_self (rs.mono l2) (by rw [hfl]; exact Nat.le_trans (leaves_sz _) (by omega)) hfl.symm) (by omega) fun r g2 l3 ⟨x, q1, q2⟩ => ?_
    tb_start
    exact ⟨x, q1, q2⟩

end
section
variable {prog : Program} {w : World} {g : G} {n : Nat} {Z : Wm} {X : Wa}
theorem TyR.ofKids {y : Addr} {t : Tr} {kk : Nat} {bs : List Addr} (hk : t.kd = .inst) (hok : t.ok = true) (e : t.tag = kk) (i : InstOf g y (X.I kk) bs) (h : TysR g X bs t.kids) : TyR g X y t := by
  cases t with
  | cls k =>
    have : k = kk := by have : (k : Int) = kk := e; omega
    subst this
    cases h
    exact .cls (of_decide_eq_true hok) i
  | app v t =>
    have : v = kk := by have : (v : Int) = kk := e; omega
    subst this
    cases h with
    | cons a b =>
      cases b
      have := of_decide_eq_true hok
      exact .app this.1 this.2 i a
  | var _ => cases hk
  | none => cases hk
  | bot => cases hk
  | uni _ _ => cases hk
theorem ltInst {m N : Nat} {il vl : Addr} {a : Addr} {t : Tr} {kk : Nat} (hm : 9 ≤ m) (ih : LtOk prog w Z X il vl m N) (hkd : t.kd = .inst) (hkk : t.tag = kk) (h7 : kk < 7) (hW : Wk g Z X) (ht : TrR g a t) (hI : InfR g X il vl) (hN : ∀ u ∈ t.kids, u.ht < N) (hs : ∀ u ∈ t.kids, u.sz ≤ 100) : Pu prog w (KP w.params) (m + 1) (call (.ref 693) [.ref a, .ref il, .ref vl]) (fun r g' => ∃ y, r = .ref y ∧ TyR g' X y t) g := by
  cases ht with
  | @mk _ _ tk as e hok hks =>
  have hal := hks.length
  have hkl := kids_len t
  rw [hkk] at e
  have e11 : ((kk : Int) == 11) = false := by simp; omega
  have e10 : ((kk : Int) == 10) = false := by simp; omega
  have e9 : ((kk : Int) == 9) = false := by simp; omega
  have e7 : decide ((7 : Int) ≤ (kk : Int)) = false := by simp; omega
  refine Fn.def (f := 693) (n := m) (binds := [("tree", .ref a), ("infos", .ref il), ("variables", .ref vl)]) rfl ⟨rfl, rfl, rfl, rfl, rfl, rfl, by kernel_rfl, by decide +kernel, by kernel_rfl⟩ rfl (fun s X => BindsTo.of_eq rfl) rfl fun c O W hS => ?_
  dsimp only [ofBinds, List.foldl_cons, List.foldl_nil] at hS ⊢
  tb_start
  refine T.itemT e (by decide) (by decide) rfl (by rfl) ?_
  tb_start
  rw [e11]
  tb_start
  refine T.itemT e (by decide) (by decide) rfl (by rfl) ?_
  tb_start
  rw [e10]
  tb_start
  refine T.itemT e (by decide) (by decide) rfl (by rfl) ?_
  tb_start
  rw [e9]
  tb_start
  refine T.itemT e (by decide) (by decide) rfl (by rfl) ?_
  tb_start
  refine T.geI ?_
  rw [e7]
  tb_start
  refine T.itemT e (by decide) (by decide) rfl (by rfl) ?_
  tb_start
  refine T.itemL (.inl hI.i) (by omega) (by omega) (hI.get (k := kk) (by omega)) (by rfl) ?_
  tb_start
  refine T.lc O hS (by kernel_rfl) (by kernel_rfl) (fun _ => rfl) ?_
  tb_start
  refine T.slice ?_
  tb_start
  refine ⟨_, _, rfl, fun sl0 => ?_⟩
  refine T.sliceT2 (i := 1) e (by simp; omega) (Nat.le_refl _) (by simp) (by rfl) fun L1 hL1 => ?_
  have S1 : Tup (setG g L1 (.tup ((Value.int (kk : Int) tk :: as.map Value.ref).drop 1))) L1 (as.map .ref) := setG_self
  have l1 : Le g (setG g L1 (.tup ((Value.int (kk : Int) tk :: as.map Value.ref).drop 1))) := Le.setG hL1
  generalize setG g L1 (.tup ((Value.int (kk : Int) tk :: as.map Value.ref).drop 1)) = g1 at S1 l1
  refine Seqs.tuple O S1 (LcK.map (fun i v g' => ∃ u y, t.kids[i]? = some u ∧ v = .ref y ∧ TyR g' X y u) (fun i v g1 g2 l ⟨t, y, e1, e2, r⟩ => ⟨t, y, e1, e2, r.mono l⟩) (by kernel_rfl) (by rw [List.length_map]; omega) ?_ ?_)
  · intro D' c' O' hS' i v g' ρ' acc hi hv l hρ
    obtain ⟨b, hb', rfl⟩ := refs_get hv
    obtain ⟨u, et, htr⟩ := hks.get hb'
    have htm := List.mem_of_getElem? et
    have l0 := l1.trans l
    have e1 : ρ' "infos" = some (.ref il) := (hρ "infos" (by kernel_rfl)).trans (by k_subL)
    have e2 : ρ' "variables" = some (.ref vl) := (hρ "variables" (by kernel_rfl)).trans (by k_subL)
    tb_start
    refine T.pu O' (ih g' b u (hW.mono l0) (htr.mono l0) (hI.mono l0) (hN u htm) (hs u htm)) (by omega) fun r g'' l' ⟨y, q1, q2⟩ => ?_
    exact ⟨rfl, u, y, et, q1, q2⟩
  · intro D' ys g' l hlen hys
    obtain ⟨bs, rfl, rs⟩ := gatherT (ts := t.kids) (by rw [hlen, List.length_map]; simpa using hal) fun i y e => hys i y e
    refine T.freeze0 fun hD => ?_
    have l2 := Le.setG (m := .list (bs.map Value.ref)) hD
    tb_start
    refine T.pu O (mk_Instance (vs := bs.map .ref) setG_self (by rw [List.length_map, rs.length]; omega)) (by omega) fun r g2 l3 ⟨x, e2, q1, q2, q3⟩ => ?_
    tb_start
    exact ⟨x, q1, TyR.ofKids hkd hok hkk ⟨e2, q2, q3⟩ (rs.mono (l2.trans l3))⟩
theorem ltLeaf {m : Nat} {il vl : Addr} {a : Addr} {t : Tr} (hm : 9 ≤ m) (hkd : t = .none ∨ t = .bot ∨ ∃ v, t = .var v) (ht : TrR g a t) (hI : InfR g X il vl) : Pu prog w (KP w.params) (m + 1) (call (.ref 693) [.ref a, .ref il, .ref vl]) (fun r g' => ∃ y, r = .ref y ∧ TyR g' X y t) g := by
  cases ht with
  | @mk _ _ tk as e hok hks =>
  refine Fn.def (f := 693) (n := m) (binds := [("tree", .ref a), ("infos", .ref il), ("variables", .ref vl)]) rfl ⟨rfl, rfl, rfl, rfl, rfl, rfl, by kernel_rfl, by decide +kernel, by kernel_rfl⟩ rfl (fun s X => BindsTo.of_eq rfl) rfl fun c O W hS => ?_
  dsimp only [ofBinds, List.foldl_cons, List.foldl_nil] at hS ⊢
  rcases hkd with rfl | rfl | ⟨v, rfl⟩
  · have e' : Tup g a (.int 9 tk :: as.map .ref) := e
    tb_start
    refine T.itemT e' (by decide) (by decide) rfl (by rfl) ?_
    tb_start
    refine T.itemT e' (by decide) (by decide) rfl (by rfl) ?_
    tb_start
    refine T.itemT e' (by decide) (by decide) rfl (by rfl) ?_
    tb_start
    refine T.pu O mk_None (by omega) fun r g2 l3 ⟨x, q1, q2⟩ => ?_
    tb_start
    exact ⟨x, q1, .none q2⟩
  · have e' : Tup g a (.int 10 tk :: as.map .ref) := e
    tb_start
    refine T.itemT e' (by decide) (by decide) rfl (by rfl) ?_
    tb_start
    refine T.itemT e' (by decide) (by decide) rfl (by rfl) ?_
    tb_start
    refine T.pu O mk_Bot (by omega) fun r g2 l3 ⟨x, q1, q2⟩ => ?_
    tb_start
    exact ⟨x, q1, .bot q2⟩
  · have hv : v < 2 := of_decide_eq_true hok
    have hv2 : v = 0 ∨ v = 1 := by omega
    rcases hv2 with rfl | rfl
    · have e' : Tup g a (.int 7 tk :: as.map .ref) := e
      tb_start
      refine T.itemT e' (by decide) (by decide) rfl (by rfl) ?_
      tb_start
      refine T.itemT e' (by decide) (by decide) rfl (by rfl) ?_
      tb_start
      refine T.itemT e' (by decide) (by decide) rfl (by rfl) ?_
      tb_start
      refine T.itemT e' (by decide) (by decide) rfl (by rfl) ?_
      tb_start
      refine T.geI ?_
      tb_start
      refine T.itemT e' (by decide) (by decide) rfl (by rfl) ?_
      tb_start
      refine T.subI fun t1 => ?_
      tb_start
      refine T.itemL (v := .ref (X.V 0)) (.inl hI.v) (by decide) (by decide) rfl (by rfl) ?_
      tb_start
      exact ⟨X.V 0, rfl, .var (by omega)⟩
    · have e' : Tup g a (.int 8 tk :: as.map .ref) := e
      tb_start
      refine T.itemT e' (by decide) (by decide) rfl (by rfl) ?_
      tb_start
      refine T.itemT e' (by decide) (by decide) rfl (by rfl) ?_
      tb_start
      refine T.itemT e' (by decide) (by decide) rfl (by rfl) ?_
      tb_start
      refine T.itemT e' (by decide) (by decide) rfl (by rfl) ?_
      tb_start
      refine T.geI ?_
      tb_start
      refine T.itemT e' (by decide) (by decide) rfl (by rfl) ?_
      tb_start
      refine T.subI fun t1 => ?_
      tb_start
      refine T.itemL (v := .ref (X.V 1)) (.inl hI.v) (by decide) (by decide) rfl (by rfl) ?_
      tb_start
      exact ⟨X.V 1, rfl, .var (by omega)⟩
theorem lawType {il vl : Addr} : ∀ N, LtOk prog w Z X il vl (N + 9) N
  | 0 => fun g a t _ _ _ hN _ => absurd hN (Nat.not_lt_zero _)
  | N + 1 => fun g a t hW ht hI hN hs => by
    have hk : ∀ u ∈ t.kids, u.ht < N ∧ u.sz ≤ 100 := fun u hu => by
      cases t with
      | app v t => rw [List.mem_singleton.mp hu]; rw [Tr.ht] at hN; rw [Tr.sz] at hs; exact ⟨by omega, hs⟩
      | uni p q =>
        rw [Tr.ht] at hN; rw [Tr.sz] at hs
        rcases List.mem_cons.mp hu with rfl | hu
        · omega
        · rw [List.mem_singleton.mp hu]; omega
      | _ => cases hu
    have hok : t.ok = true := by cases ht with | mk _ hok _ => exact hok
    cases t with
    | cls k => exact ltInst (m := N + 9) (by omega) (lawType N) rfl rfl (by have := of_decide_eq_true hok; omega) hW ht hI (fun u h => (hk u h).1) fun u h => (hk u h).2
    | app v t => exact ltInst (m := N + 9) (by omega) (lawType N) rfl rfl (by have := of_decide_eq_true hok; omega) hW ht hI (fun u h => (hk u h).1) fun u h => (hk u h).2
    | var v => exact ltLeaf (m := N + 9) (by omega) (.inr (.inr ⟨v, rfl⟩)) ht hI
    | none => exact ltLeaf (m := N + 9) (by omega) (.inl rfl) ht hI
    | bot => exact ltLeaf (m := N + 9) (by omega) (.inr (.inl rfl)) ht hI
    | uni p q => exact ltUni (m := N + 9) (by omega) (lawType N) hW ht hI hN hs

end
section
variable {prog : Program} {w : World} {g : G} {n : Nat} {Z : Wm} {X : Wa}
/-- what is chosen for the variables -/
structure ChR (g : G) (cl : Addr) (ch : Nat → Tr) : Prop where
  ex : ∃ c0 c1, Lst g cl [.ref c0, .ref c1] ∧ TrR g c0 (ch 0) ∧ TrR g c1 (ch 1)
theorem ChR.mono {g g' : G} {cl : Addr} {ch : Nat → Tr} (h : ChR g cl ch) (l : Le g g') : ChR g' cl ch := let ⟨a, b, c, d, e⟩ := h.ex; ⟨a, b, c.mono l, d.mono l, e.mono l⟩
def LpOk (prog : Program) (w : World) (cl : Addr) (ch : Nat → Tr) (m N : Nat) : Prop := ∀ (g : G) (a : Addr) (t : Tr), TrR g a t → ChR g cl ch → t.ht < N → Pu prog w (KP w.params) m (call (.ref 683) [.ref a, .ref cl]) (fun r g' => ∃ y, r = .ref y ∧ TrR g' y (t.put ch)) g
theorem gatherR {g : G} : ∀ {ts : List Tr} {ys : List Value}, ys.length = ts.length → (∀ (i : Nat) (y : Value), ys[i]? = some y → ∃ t a, ts[i]? = some t ∧ y = .ref a ∧ TrR g a t) → ∃ bs : List Addr, ys = bs.map .ref ∧ TrsR g bs ts
  | [], [], _, _ => ⟨[], rfl, .nil⟩
  | [], _ :: _, h, _ => nomatch h
  | _ :: _, [], h, _ => nomatch h
  | t :: ts, y :: ys, hl, h => by
    obtain ⟨t', a, e, rfl, r⟩ := h 0 y rfl
    cases e
    obtain ⟨bs, e, rs⟩ := gatherR (by simpa using hl) fun i y q => h (i + 1) y (by simpa using q)
    exact ⟨a :: bs, by rw [e]; rfl, .cons r rs⟩
def Tr.isVar : Tr → Bool | .var _ => true | _ => false
theorem put_facts {ch : Nat → Tr} {t : Tr} (h : t.isVar = false) : (t.put ch).tag = t.tag ∧ (t.put ch).kids = t.kids.map (Tr.put ch) ∧ (t.put ch).ok = t.ok := by
  cases t <;> first | (cases h; done) | exact ⟨rfl, rfl, rfl⟩
theorem tag_notVar {t : Tr} (h : t.isVar = false) (hok : t.ok = true) : ([7, 8] : List Int).contains t.tag = false := by
  cases t with
  | cls k => have := of_decide_eq_true hok; simp [Tr.tag]; omega
  | app v t => have := of_decide_eq_true hok; simp [Tr.tag]; omega
  | var _ => cases h
  | _ => rfl
theorem kids_ht {t u : Tr} {N : Nat} (h : t.ht < N + 1) (hu : u ∈ t.kids) : u.ht < N := by
  cases t with
  | app v t => rw [List.mem_singleton.mp hu]; rw [Tr.ht] at h; omega
  | uni p q =>
    rw [Tr.ht] at h
    rcases List.mem_cons.mp hu with rfl | hu
    · omega
    · rw [List.mem_singleton.mp hu]; omega
  | _ => cases hu
theorem lawPut {cl : Addr} {ch : Nat → Tr} : ∀ N, LpOk prog w cl ch (N + 9) N
  | 0 => fun g a t _ _ hN => absurd hN (Nat.not_lt_zero _)
  | N + 1 => fun g a t ht hC hN => by
    have ih := lawPut (cl := cl) (ch := ch) N
    have hkh := fun u hu => kids_ht (u := u) hN hu
    cases ht with
    | @mk _ _ tk as e hok hks =>
    refine Fn.def (f := 683) (n := (N + 9)) (binds := [("tree", .ref a), ("chosen", .ref cl)]) rfl ⟨rfl, rfl, rfl, rfl, rfl, rfl, by kernel_rfl, by decide +kernel, by kernel_rfl⟩ rfl (fun s X => BindsTo.of_eq rfl) rfl fun c O W hS => ?_
    dsimp only [ofBinds, List.foldl_cons, List.foldl_nil] at hS ⊢
    tb_start
    refine T.itemT e (by decide) (by decide) rfl (by rfl) ?_
    tb_start
    refine T.newTupleE (by simp) fun b7 g1 l1 S7 => ?_
    tb_start
    refine T.inIT S7 (.cons 7 _ (.cons 8 _ .nil)) ?_
    by_cases hv : t.isVar = true
    · obtain ⟨v, rfl⟩ : ∃ v, t = .var v := by cases t <;> first | (cases hv; done) | exact ⟨_, rfl⟩
      have hv : v < 2 := of_decide_eq_true hok
      obtain ⟨c0, c1, C, C0, C1⟩ := (hC.mono l1).ex
      have hv2 : v = 0 ∨ v = 1 := by omega
      rcases hv2 with rfl | rfl
      · have e' : Tup g1 a (.int 7 tk :: as.map .ref) := e.mono l1
        tb_start
        refine T.itemT e' (by decide) (by decide) rfl (by rfl) ?_
        tb_start
        refine T.subI fun t1 => ?_
        tb_start
        refine T.itemL (v := .ref c0) (.inl C) (by decide) (by decide) rfl (by rfl) ?_
        tb_start
        exact ⟨c0, rfl, C0⟩
      · have e' : Tup g1 a (.int 8 tk :: as.map .ref) := e.mono l1
        tb_start
        refine T.itemT e' (by decide) (by decide) rfl (by rfl) ?_
        tb_start
        refine T.subI fun t1 => ?_
        tb_start
        refine T.itemL (v := .ref c1) (.inl C) (by decide) (by decide) rfl (by rfl) ?_
        tb_start
        exact ⟨c1, rfl, C1⟩
    · have hv : t.isVar = false := by simpa using hv
      rw [tag_notVar hv hok]
      have e1 := e.mono l1
      have hal := hks.length
      have hkl := kids_len t
      obtain ⟨f1, f2, f3⟩ := put_facts (ch := ch) hv
      tb_start
      refine T.itemT e1 (by decide) (by decide) rfl (by rfl) ?_
      tb_start
      refine T.newTupleE (by simp) fun b8 g2 l2 S8 => ?_
      tb_start
      have e2 := e1.mono l2
      refine T.lc O hS (by kernel_rfl) (by kernel_rfl) (fun _ => rfl) ?_
      tb_start
      refine T.slice ?_
      tb_start
      refine ⟨_, _, rfl, fun sl0 => ?_⟩
      refine T.sliceTE (i := 1) e2 (by simp; omega) (Nat.le_refl _) (by simp) (by rfl) fun L1 g3 l3 S1 => ?_
      have l03 := l1.trans (l2.trans l3)
      refine Seqs.tuple O S1 (LcK.map (fun i v g' => ∃ u y, (t.kids.map (Tr.put ch))[i]? = some u ∧ v = .ref y ∧ TrR g' y u) (fun i v g1 g2 l ⟨t, y, e1, e2, r⟩ => ⟨t, y, e1, e2, r.mono l⟩) (by kernel_rfl) (by simp; omega) ?_ ?_)
      · intro D' c' O' hS' i v g' ρ' acc hi hv l hρ
        obtain ⟨b, hb', rfl⟩ := refs_get (as := as) hv
        obtain ⟨u, et, htr⟩ := hks.get hb'
        have htm := List.mem_of_getElem? et
        have l0 := l03.trans l
        have q1 : ρ' "chosen" = some (.ref cl) := (hρ "chosen" (by kernel_rfl)).trans (by k_subL)
        tb_start
        refine T.pu O' (ih g' b u (htr.mono l0) (hC.mono l0) (hkh u htm)) (by omega) fun r g'' l' ⟨y, q1, q2⟩ => ?_
        exact ⟨rfl, _, y, by rw [List.getElem?_map, et]; rfl, q1, q2⟩
      · intro D' ys g' l hlen hys
        obtain ⟨bs, rfl, rs⟩ := gatherR (ts := t.kids.map (Tr.put ch)) (by rw [hlen, List.length_map]; simp; omega) fun i y e => hys i y e
        have hbl := rs.length
        rw [List.length_map] at hbl
        tb_start
        refine T.tupleOf (.inr (.head _)) (by rw [List.length_map]; omega) fun b9 hb9 => ?_
        have l4 := Le.setG (m := .tup (bs.map Value.ref)) hb9
        tb_start
        refine T.addT (S8.mono (l3.trans (l.trans l4))) setG_self (by simp; omega) (by simp) fun b10 g5 l5 S10 => ?_
        tb_start
        refine ⟨b10, rfl, .mk (tk := tk) (as := bs) ?_ (by rw [f3]; exact hok) (by rw [f2]; exact rs.mono (l4.trans l5))⟩
        rw [f1]; exact S10

end
section
open Classical
variable {prog : Program} {w : World} {g : G} {n : Nat} {Z : Wm} {X : Wa}
/-- the law's lists of what stands above each class, and of bounds -/
structure AbR (g : G) (Z : Wm) (al bl : Addr) : Prop where
  a : ∃ ls, Lst g al ls ∧ ∀ k, k < 4 → ∃ l vs, ls[k]? = some (.ref l) ∧ Lst g l vs ∧ IntsAre vs ((Z.up k).map Int.ofNat)
  b : ∃ t0 t1, Lst g bl [.int (Z.bnd 0) t0, .int (Z.bnd 1) t1]
  lt : ∀ v, v < 2 → Z.bnd v < 4
  up4 : ∀ k, k < 4 → ∀ j ∈ Z.up k, j < 4
  few : ∀ k, k < 4 → (Z.up k).length ≤ 9
theorem AbR.mono {g g' : G} {al bl : Addr} (h : AbR g Z al bl) (l : Le g g') : AbR g' Z al bl :=
  ⟨let ⟨ls, a, b⟩ := h.a; ⟨ls, a.mono l, fun k hk => let ⟨x, vs, y, z, u⟩ := b k hk; ⟨x, vs, y, z.mono l, u⟩⟩, let ⟨t0, t1, b⟩ := h.b; ⟨t0, t1, b.mono l⟩, h.lt, h.up4, h.few⟩
theorem ints_len : ∀ {vs : List Value} {ns : List Int}, IntsAre vs ns → vs.length = ns.length
  | _, _, .nil => rfl
  | _, _, .cons _ _ h => congrArg (· + 1) (ints_len h)
def LbOk (prog : Program) (w : World) (Z : Wm) (al bl : Addr) (m N : Nat) : Prop := ∀ (g : G) (a b : Addr) (s t : Tr), TrR g a s → TrR g b t → AbR g Z al bl → s.ht + t.ht < N → Pu prog w (KP w.params) m (call (.ref 688) [.ref a, .ref b, .ref al, .ref bl]) (fun r g' => r = .bool (B Z s t)) g
theorem tag11 {t : Tr} (hok : t.ok = true) : (t.tag == 11) = t.isUni := by
  cases t with
  | cls k => have := of_decide_eq_true hok; simp [Tr.tag, Tr.isUni]; omega
  | app v t => have := of_decide_eq_true hok; simp [Tr.tag, Tr.isUni]; omega
  | var v => have := of_decide_eq_true hok; simp [Tr.tag, Tr.isUni]; omega
  | none => rfl
  | bot => rfl
  | uni _ _ => rfl
/-- the left one is a union -/
theorem lbUniL {N : Nat} {al bl : Addr} {a b : Addr} {p q t : Tr} (ih : LbOk prog w Z al bl (N + 20) N) (hs : TrR g a (.uni p q)) (ht : TrR g b t) (hA : AbR g Z al bl) (hN : (Tr.uni p q).ht + t.ht < N + 1) : Pu prog w (KP w.params) (N + 1 + 20) (call (.ref 688) [.ref a, .ref b, .ref al, .ref bl]) (fun r g' => r = .bool (B Z (.uni p q) t)) g := by
  cases hs with
  | @mk _ _ tk as e hok hks =>
  have e' : Tup g a (.int 11 tk :: as.map .ref) := e
  have hks' : TrsR g as [p, q] := hks
  have hal := hks'.length
  simp only [List.length_cons, List.length_nil] at hal
  have hkh : ∀ u ∈ [p, q], u.ht + t.ht < N := fun u hu => by have := kids_ht (t := .uni p q) (N := (Tr.uni p q).ht) (Nat.lt_succ_self _) hu; omega
  refine Fn.def (f := 688) (n := (N + 20)) (binds := [("s", .ref a), ("t", .ref b), ("above", .ref al), ("bounds", .ref bl)]) rfl ⟨rfl, rfl, rfl, rfl, rfl, rfl, by kernel_rfl, by decide +kernel, by kernel_rfl⟩ rfl (fun s X => BindsTo.of_eq rfl) rfl fun c O W hS => ?_
  dsimp only [ofBinds, List.foldl_cons, List.foldl_nil] at hS ⊢
  tb_start
  refine T.itemT e' (by decide) (by decide) rfl (by rfl) ?_
  tb_start
  refine T.lc O hS (by kernel_rfl) (by kernel_rfl) (fun _ => rfl) ?_
  tb_start
  refine T.slice ?_
  tb_start
  refine ⟨_, _, rfl, fun sl0 => ?_⟩
  refine T.sliceTE (i := 1) e' (by simp; omega) (Nat.le_refl _) (by simp) (by rfl) fun L1 g1 l1 S1 => ?_
  refine Seqs.tuple O S1 (LcK.map (fun i v g' => ∃ u, [p, q][i]? = some u ∧ v = .bool (B Z u t)) (fun _ _ _ _ _ h => h) (by kernel_rfl) (by simp; omega) ?_ ?_)
  · intro D' c' O' hS' i v g' ρ' acc hi hv l hρ
    obtain ⟨x, hx', rfl⟩ := refs_get (as := as) hv
    obtain ⟨u, et, htr⟩ := hks'.get hx'
    have htm := List.mem_of_getElem? et
    have l0 := l1.trans l
    have q1 : ρ' "t" = some (.ref b) := (hρ "t" (by kernel_rfl)).trans (by k_subL)
    have q2 : ρ' "above" = some (.ref al) := (hρ "above" (by kernel_rfl)).trans (by k_subL)
    have q3 : ρ' "bounds" = some (.ref bl) := (hρ "bounds" (by kernel_rfl)).trans (by k_subL)
    tb_start
    refine T.pu O' (ih g' x b u t (htr.mono l0) (ht.mono l0) (hA.mono l0) (hkh u htm)) (by omega) fun r g'' l' q1 => ?_
    exact ⟨rfl, u, et, q1⟩
  · intro D' ys g' l hlen hys
    have e1 := bools_of (f := fun s => B Z s t) (ts := [p, q]) (by rw [hlen]; simp; omega) hys
    subst e1
    tb_start
    refine T.allB O (.inr (.head _)) ?_
    tb_start
    rw [B_uniL]
    simp
    rfl
/-- the answer where neither is a union, the two are not the same, the left one is not bottom and the right one not the root -/
structure Core (s t : Tr) : Prop where
  nus : s.isUni = false
  nut : t.isUni = false
  ne : s ≠ t
  nb : s ≠ .bot
  nr : t ≠ .cls 0
theorem B_cls_tag {k : Nat} {t : Tr} (hA : ∀ j ∈ Z.up k, j < 4) (hok : t.ok = true) (h : t.isUni = false) : ((Z.up k).map Int.ofNat).contains t.tag = B Z (.cls k) t := by
  have none : ∀ i : Nat, 4 ≤ i → ((Z.up k).map Int.ofNat).contains (i : Int) = false := fun i hi => by
    rw [Bool.eq_false_iff]
    intro h
    rw [List.contains_iff_mem] at h
    obtain ⟨j, hj, e⟩ := List.mem_map.mp h
    have := hA j hj
    have : (j : Int) = i := e
    omega
  cases t with
  | cls l =>
    rw [B, Bool.eq_iff_iff, List.contains_iff_mem, List.contains_iff_mem, List.mem_map]
    exact ⟨fun ⟨j, hj, e⟩ => by have : (j : Int) = l := e; have : j = l := by omega
                                exact this ▸ hj, fun h => ⟨l, h, rfl⟩⟩
  | app v t => rw [B]; exact none v (of_decide_eq_true hok).1
  | var v => rw [B]; exact none (7 + v) (by omega)
  | none => rw [B]; exact none 9 (by omega)
  | bot => rw [B]; exact none 10 (by omega)
  | uni _ _ => cases h
theorem lbR {N : Nat} {al bl : Addr} {a b : Addr} {s t : Tr} (hN6 : N ≤ 50) (ih : LbOk prog w Z al bl (N + 20) N) (hs : TrR g a s) (ht : TrR g b t) (hA : AbR g Z al bl) (hN : s.ht + t.ht < N + 1) (hus : s.isUni = false) : Pu prog w (KP w.params) (N + 1 + 20) (call (.ref 688) [.ref a, .ref b, .ref al, .ref bl]) (fun r g' => r = .bool (B Z s t)) g := by
  have hs0 := hs
  have ht0 := ht
  cases hs with
  | @mk _ _ tk as e hok hks =>
  cases ht with
  | @mk _ _ tk2 as2 e2 hok2 hks2 =>
  refine Fn.def (f := 688) (n := (N + 20)) (binds := [("s", .ref a), ("t", .ref b), ("above", .ref al), ("bounds", .ref bl)]) rfl ⟨rfl, rfl, rfl, rfl, rfl, rfl, by kernel_rfl, by decide +kernel, by kernel_rfl⟩ rfl (fun s X => BindsTo.of_eq rfl) rfl fun c O W hS => ?_
  dsimp only [ofBinds, List.foldl_cons, List.foldl_nil] at hS ⊢
  tb_start
  refine T.itemT e (by decide) (by decide) rfl (by rfl) ?_
  tb_start
  rw [tag11 hok, hus]
  tb_start
  refine T.eqTr (n := N + 12) O hs0 ht0 (by omega) (by omega) ?_
  tb_start
  refine IfK.split (fun q => ?_) fun q => ?_
  · have q' := of_decide_eq_true q
    subst q'
    tb_start
    rw [B_refl]; rfl
  tb_start
  refine T.newTupleE (by simp) fun b1 g1 l1 S1 => ?_
  tb_start
  refine T.eqTr (n := N + 12) (t := .bot) O (hs0.mono l1) (.mk (as := []) S1 rfl .nil) (by omega) (by decide) ?_
  tb_start
  refine IfK.split (fun q1 => ?_) fun q1 => ?_
  · have q' := of_decide_eq_true q1
    subst q'
    tb_start
    rw [B_bot]; rfl
  tb_start
  refine T.newTupleE (by simp) fun b2 g2 l2 S2 => ?_
  tb_start
  have l02 := l1.trans l2
  refine T.eqTr (n := N + 12) (t := .cls 0) O (ht0.mono l02) (.mk (as := []) S2 rfl .nil) (by omega) (by decide) ?_
  tb_start
  refine IfK.split (fun q2 => ?_) fun q2 => ?_
  · have q' := of_decide_eq_true q2
    subst q'
    tb_start
    rw [B_top]; rfl
  tb_start
  have e3 := e2.mono l02
  refine T.itemT e3 (by decide) (by decide) rfl (by rfl) ?_
  tb_start
  rw [tag11 hok2]
  refine IfK.split (fun q3 => ?_) fun q3 => ?_
  · obtain ⟨p, r0, rfl⟩ : ∃ p q, t = .uni p q := by cases t <;> first | (cases q3; done) | exact ⟨_, _, rfl⟩
    have hks' : TrsR g as2 [p, r0] := hks2
    have hal := hks'.length
    simp only [List.length_cons, List.length_nil] at hal
    have hkh : ∀ u ∈ [p, r0], s.ht + u.ht < N := fun u hu => by have := kids_ht (t := .uni p r0) (N := (Tr.uni p r0).ht) (Nat.lt_succ_self _) hu; omega
    tb_start
    refine T.lc O hS (by kernel_rfl) (by kernel_rfl) (fun _ => rfl) ?_
    tb_start
    refine T.slice ?_
    tb_start
    refine ⟨_, _, rfl, fun sl0 => ?_⟩
    refine T.sliceTE (i := 1) e3 (by simp; omega) (Nat.le_refl _) (by simp) (by rfl) fun L1 g3 l3 S3 => ?_
    have l03 := l02.trans l3
    refine Seqs.tuple O S3 (LcK.map (fun i v g' => ∃ u, [p, r0][i]? = some u ∧ v = .bool (B Z s u)) (fun _ _ _ _ _ h => h) (by kernel_rfl) (by simp; omega) ?_ ?_)
    · intro D' c' O' hS' i v g' ρ' acc hi hv l hρ
      obtain ⟨x, hx', rfl⟩ := refs_get (as := as2) hv
      obtain ⟨u, et, htr⟩ := hks'.get hx'
      have htm := List.mem_of_getElem? et
      have l0 := l03.trans l
      have q1 : ρ' "s" = some (.ref a) := (hρ "s" (by kernel_rfl)).trans (by k_subL)
      have q2 : ρ' "above" = some (.ref al) := (hρ "above" (by kernel_rfl)).trans (by k_subL)
      have q3 : ρ' "bounds" = some (.ref bl) := (hρ "bounds" (by kernel_rfl)).trans (by k_subL)
      tb_start
      refine T.pu O' (ih g' a x s u (hs0.mono l0) (htr.mono l0) (hA.mono l0) (hkh u htm)) (by omega) fun r g'' l' q1 => ?_
      exact ⟨rfl, u, et, q1⟩
    · intro D' ys g' l hlen hys
      have e1 := bools_of (f := fun u => B Z s u) (ts := [p, r0]) (by rw [hlen]; simp; omega) hys
      subst e1
      tb_start
      refine T.anyB O (.inr (.head _)) ?_
      tb_start
      rw [B_uniR hus]
      simp
      rfl
  have C : Core s t := ⟨hus, q3, of_decide_eq_false q, of_decide_eq_false q1, of_decide_eq_false q2⟩
  have e4 := e.mono l02
  tb_start
  refine T.itemT e4 (by decide) (by decide) rfl (by rfl) ?_
  tb_start
  refine T.newTupleE (by simp) fun b3 g3 l3 S3 => ?_
  have l03 := l02.trans l3
  tb_start
  refine T.inIT S3 (.cons 7 _ (.cons 8 _ .nil)) ?_
  have hA3 := hA.mono l03
  have ht3 := ht0.mono l03
  have e5 := e4.mono l3
  have e6 := e3.mono l3
  by_cases hv : s.isVar = true
  · obtain ⟨v, rfl⟩ : ∃ v, s = .var v := by cases s <;> first | (cases hv; done) | exact ⟨_, rfl⟩
    have hv : v < 2 := of_decide_eq_true hok
    obtain ⟨t0, t1, hB⟩ := hA3.b
    have hbd := hA.lt v hv
    have hBv : B Z (.var v) t = B Z (.cls (Z.bnd v)) t := B_var (fun z => C.ne z.symm) (fun z => by have := kd_uni z; obtain ⟨_, _, rfl⟩ := this; exact absurd C.nut Bool.noConfusion)
    have step : ∀ (g' : G) (x : Addr) (tk : Tok), Le g3 g' → Tup g' x [.int (Z.bnd v) tk] → Pu prog w (KP w.params) (N + 20) (call (.ref 688) [.ref x, .ref b, .ref al, .ref bl]) (fun r g' => r = .bool (B Z (.var v) t)) g' := fun g' x tk l hx => by
      rw [hBv]
      exact ih g' x b (.cls (Z.bnd v)) t (.mk (as := []) hx (decide_eq_true hbd) .nil) (ht3.mono l) (hA3.mono l) (by have h1 : (Tr.var v).ht = 1 := rfl; have h2 : (Tr.cls (Z.bnd v)).ht = 0 := rfl; omega)
    have hv2 : v = 0 ∨ v = 1 := by omega
    rcases hv2 with rfl | rfl
    · have e' : Tup g3 a (.int 7 tk :: as.map .ref) := e5
      tb_start
      refine T.itemT e' (by decide) (by decide) rfl (by rfl) ?_
      tb_start
      refine T.subI fun t1 => ?_
      tb_start
      refine T.itemL (.inl hB) (by decide) (by decide) rfl (by rfl) ?_
      tb_start
      refine T.newTupleE (by simp) fun b4 g4 l4 S4 => ?_
      tb_start
      refine T.pu O (step g4 b4 _ l4 S4) (by omega) fun r g5 l5 q => ?_
      tb_start
      exact q
    · have e' : Tup g3 a (.int 8 tk :: as.map .ref) := e5
      tb_start
      refine T.itemT e' (by decide) (by decide) rfl (by rfl) ?_
      tb_start
      refine T.subI fun t1 => ?_
      tb_start
      refine T.itemL (.inl hB) (by decide) (by decide) rfl (by rfl) ?_
      tb_start
      refine T.newTupleE (by simp) fun b4 g4 l4 S4 => ?_
      tb_start
      refine T.pu O (step g4 b4 _ l4 S4) (by omega) fun r g5 l5 q => ?_
      tb_start
      exact q
  have hv : s.isVar = false := by simpa using hv
  rw [tag_notVar hv hok]
  tb_start
  refine T.itemT e5 (by decide) (by decide) rfl (by rfl) ?_
  tb_start
  refine T.ltI ?_
  cases s with
  | var v => cases hv
  | uni => cases hus
  | bot => exact absurd rfl C.nb
  | cls k =>
    have hk : k < 4 := of_decide_eq_true hok
    obtain ⟨ls, hL, hls⟩ := hA3.a
    obtain ⟨l, vs, x1, x2, x3⟩ := hls k hk
    have : decide ((Tr.cls k).tag < 4) = true := decide_eq_true (by show (k : Int) < 4; omega)
    rw [this]
    tb_start
    refine T.itemT e6 (by decide) (by decide) rfl (by rfl) ?_
    tb_start
    refine T.itemT e5 (by decide) (by decide) rfl (by rfl) ?_
    tb_start
    refine T.itemL (.inl hL) (by show (0 : Int) ≤ (k : Int); omega) (by show (k : Int) < _; omega) x1 (by rfl) ?_
    tb_start
    refine T.inIL (.inl x2) x3 ?_
    tb_start
    rw [B_cls_tag (hA.up4 k hk) hok2 C.nut]
    rfl
  | none =>
    have e' : Tup g3 a (.int 9 tk :: as.map .ref) := e5
    have hne : ((9 : Int) != t.tag) = true ∧ B Z .none t = false := by
      cases t with
      | cls l => have h1 := of_decide_eq_true hok2; have h2 : l ≠ 0 := fun z => C.nr (by rw [z]); exact ⟨by simp [Tr.tag]; omega, by rw [B]; simpa using h2⟩
      | app v t => have h1 := of_decide_eq_true hok2; exact ⟨by simp [Tr.tag]; omega, by rw [B]⟩
      | var v => have h1 := of_decide_eq_true hok2; exact ⟨by simp [Tr.tag]; omega, by rw [B]⟩
      | none => exact absurd rfl C.ne
      | bot => exact ⟨rfl, by rw [B]⟩
      | uni => exact absurd C.nut Bool.noConfusion
    have : decide ((Tr.none).tag < 4) = false := rfl
    rw [this]
    tb_start
    refine T.itemT e' (by decide) (by decide) rfl (by rfl) ?_
    tb_start
    refine T.itemT e6 (by decide) (by decide) rfl (by rfl) ?_
    tb_start
    rw [hne.1]
    tb_start
    rw [hne.2]
    rfl
  | app v x =>
    have hv46 := of_decide_eq_true hok
    have e' : Tup g3 a (.int (v : Int) tk :: as.map .ref) := e5
    have : decide ((Tr.app v x).tag < 4) = false := decide_eq_false (by show ¬ (v : Int) < 4; omega)
    rw [this]
    tb_start
    refine T.itemT e' (by decide) (by decide) rfl (by rfl) ?_
    tb_start
    refine T.itemT e6 (by decide) (by decide) rfl (by rfl) ?_
    tb_start
    by_cases hvt : ∃ y, t = .app v y
    · obtain ⟨y, rfl⟩ := hvt
      have h1 : ((v : Int) != (Tr.app v y).tag) = false := by simp [Tr.tag]
      rw [h1]
      have hks' : TrsR g as [x] := hks
      have hks2' : TrsR g as2 [y] := hks2
      cases hks' with
      | @cons x' _ as' _ hx hnil =>
      cases hnil
      cases hks2' with
      | @cons y' _ as2' _ hy hnil =>
      cases hnil
      have e7 : Tup g3 a [.int (v : Int) tk, .ref x'] := e5
      have e8 : Tup g3 b [.int (v : Int) tk2, .ref y'] := e6
      have hxy : ∀ g', Le g3 g' → Pu prog w (KP w.params) (N + 20) (call (.ref 688) [.ref x', .ref y', .ref al, .ref bl]) (fun r g' => r = .bool (B Z x y)) g' := fun g' l =>
        ih g' x' y' x y (hx.mono (l03.trans l)) (hy.mono (l03.trans l)) (hA3.mono l) (by rw [Tr.ht, Tr.ht] at hN; omega)
      have hyx : ∀ g', Le g3 g' → Pu prog w (KP w.params) (N + 20) (call (.ref 688) [.ref y', .ref x', .ref al, .ref bl]) (fun r g' => r = .bool (B Z y x)) g' := fun g' l =>
        ih g' y' x' y x (hy.mono (l03.trans l)) (hx.mono (l03.trans l)) (hA3.mono l) (by rw [Tr.ht, Tr.ht] at hN; omega)
      have hB : B Z (.app v x) (.app v y) = if v == 4 then B Z x y else if v == 5 then B Z y x else B Z x y && B Z y x := by rw [B]; simp
      rw [hB]
      have hv3 : v = 4 ∨ v = 5 ∨ v = 6 := by omega
      rcases hv3 with rfl | rfl | rfl
      · have e7 : Tup g3 a [.int 4 tk, .ref x'] := e7
        have e8 : Tup g3 b [.int 4 tk2, .ref y'] := e8
        tb_start
        refine T.itemT e7 (by decide) (by decide) rfl (by rfl) ?_
        tb_start
        refine T.itemT e7 (by decide) (by decide) rfl (by rfl) ?_
        tb_start
        refine T.itemT e8 (by decide) (by decide) rfl (by rfl) ?_
        tb_start
        refine T.pu O (hxy _ (.refl _)) (by omega) fun r g5 l5 q => ?_
        tb_start
        exact q
      · have e7 : Tup g3 a [.int 5 tk, .ref x'] := e7
        have e8 : Tup g3 b [.int 5 tk2, .ref y'] := e8
        tb_start
        refine T.itemT e7 (by decide) (by decide) rfl (by rfl) ?_
        tb_start
        refine T.itemT e7 (by decide) (by decide) rfl (by rfl) ?_
        tb_start
        refine T.itemT e8 (by decide) (by decide) rfl (by rfl) ?_
        tb_start
        refine T.itemT e7 (by decide) (by decide) rfl (by rfl) ?_
        tb_start
        refine T.pu O (hyx _ (.refl _)) (by omega) fun r g5 l5 q => ?_
        tb_start
        exact q
      · have e7 : Tup g3 a [.int 6 tk, .ref x'] := e7
        have e8 : Tup g3 b [.int 6 tk2, .ref y'] := e8
        tb_start
        refine T.itemT e7 (by decide) (by decide) rfl (by rfl) ?_
        tb_start
        refine T.itemT e7 (by decide) (by decide) rfl (by rfl) ?_
        tb_start
        refine T.itemT e7 (by decide) (by decide) rfl (by rfl) ?_
        tb_start
        refine T.itemT e8 (by decide) (by decide) rfl (by rfl) ?_
        tb_start
        refine T.pu O (hxy _ (.refl _)) (by omega) fun r g5 l5 q => ?_
        subst q
        tb_start
        refine IfK.split (fun q => ?_) fun q => ?_
        · rw [q]
          tb_start
          refine T.itemT (e8.mono l5) (by decide) (by decide) rfl (by rfl) ?_
          tb_start
          refine T.itemT (e7.mono l5) (by decide) (by decide) rfl (by rfl) ?_
          tb_start
          refine T.pu O (hyx _ l5) (by omega) fun r g6 l6 q => ?_
          tb_start
          exact q
        · rw [q]
          tb_start
          rfl
    · have hne : ((v : Int) != t.tag) = true ∧ B Z (.app v x) t = false := by
        cases t with
        | cls l => have h1 := of_decide_eq_true hok2; have h2 : l ≠ 0 := fun z => C.nr (by rw [z]); exact ⟨by simp [Tr.tag]; omega, by rw [B]; simpa using h2⟩
        | app u t => have h1 : u ≠ v := fun z => hvt ⟨t, by rw [z]⟩; exact ⟨by simp [Tr.tag]; omega, by rw [B, beq_eq_false_iff_ne.mpr h1]; rfl⟩
        | var u => have h1 := of_decide_eq_true hok2; exact ⟨by simp [Tr.tag]; omega, by rw [B]⟩
        | none => exact ⟨by simp [Tr.tag]; omega, by rw [B]⟩
        | bot => exact ⟨by simp [Tr.tag]; omega, by rw [B]⟩
        | uni => exact absurd C.nut Bool.noConfusion
      rw [hne.1]
      tb_start
      rw [hne.2]
      rfl
theorem lawBelow {al bl : Addr} : ∀ N, N ≤ 50 → LbOk prog w Z al bl (N + 20) N
  | 0, _ => fun g a b s t _ _ _ hN => absurd hN (Nat.not_lt_zero _)
  | N + 1, h => fun g a b s t hs ht hA hN => by
    by_cases q : s.isUni = true
    · cases s with
      | uni p q => exact lbUniL (lawBelow N (by omega)) hs ht hA hN
      | _ => cases q
    · exact lbR (by omega) (lawBelow N (by omega)) hs ht hA hN (by simpa using q)

end
section
variable {prog : Program} {w : World} {g : G} {n : Nat} {Z : Wm} {X : Wa}
/-- a tree out of the script -/
def TreeQ (d m h : Nat) (r : Value) (ys : List Value) (g' : G) : Prop := ∃ a t, r = .ref a ∧ TrR g' a t ∧ RestV ys ∧ t.dep ≤ d ∧ t.sz ≤ m ∧ t.ht ≤ h
def TreeOk (prog : Program) (w : World) (d m h room : Nat) : Prop := ∀ (g : G) (R : Addr) (xs : List Value) (tk : Tok), RestV xs → PuL prog w (KP w.params) room (call (.ref 673) [.ref R, .int d tk]) R xs (TreeQ d m h) g
theorem nat_of {j : Int} {k : Nat} (h0 : 0 ≤ j) (h1 : j < k) : ∃ i : Nat, j = i ∧ i < k := by
  obtain ⟨i, rfl⟩ := Int.eq_ofNat_of_zero_le h0
  exact ⟨i, rfl, by omega⟩
theorem ud_le_dep (t : Tr) : t.ud ≤ t.dep := Nat.le_add_right _ _
theorem tree0 : TreeOk prog w 0 1 1 6 := by
  intro g R xs tk hx
  refine Fn.defL (f := 673) (n := 5) (binds := [("rest", .ref R), ("deep", .int ((0 : Nat) : Int) tk)]) rfl ⟨rfl, rfl, rfl, rfl, rfl, rfl, by kernel_rfl, by decide +kernel, by kernel_rfl⟩ rfl (fun s X => BindsTo.of_eq rfl) rfl fun c O W hS => ?_
  dsimp only [ofBinds, List.foldl_cons, List.foldl_nil] at hS ⊢
  tb_start
  refine T.puL (pre := []) O (draw (top := 9) (by decide) hx) (by omega) fun r ys g' _ ⟨k, t, q1, h0, h1, hr, q2⟩ => ?_
  subst q1 q2
  tb_start
  refine T.modI (by decide) fun t1 => ?_
  have hk := fmod_lt (i := k) (top := 3) (by decide)
  generalize k.fmod 3 = k' at hk
  have hk3 : k' = 0 ∨ k' = 1 ∨ k' = 2 := by omega
  rcases hk3 with rfl | rfl | rfl
  · tb_start
    refine T.puL (pre := []) O (draw (top := 2) (by decide) hr) (by omega) fun r ys2 g2 _ ⟨j, t2, q1, j0, j1, hr2, q2⟩ => ?_
    subst q1 q2
    obtain ⟨i, rfl, hi⟩ := nat_of (k := 2) j0 j1
    tb_start
    refine T.newTupleE (by simp) fun b g3 l3 S => ?_
    tb_start
    exact ⟨ys2, .head _, b, .var i, rfl, .mk (as := []) S (decide_eq_true hi) .nil, hr2, Nat.zero_le _, Nat.le_refl _, Nat.le_refl _⟩
  · tb_start
    refine T.puL (pre := []) O (draw (top := 4) (by decide) hr) (by omega) fun r ys2 g2 _ ⟨j, t2, q1, j0, j1, hr2, q2⟩ => ?_
    subst q1 q2
    obtain ⟨i, rfl, hi⟩ := nat_of (k := 4) j0 j1
    tb_start
    refine T.newTupleE (by simp) fun b g3 l3 S => ?_
    tb_start
    exact ⟨ys2, .head _, b, .cls i, rfl, .mk (as := []) S (decide_eq_true hi) .nil, hr2, Nat.zero_le _, Nat.le_refl _, Nat.zero_le _⟩
  · tb_start
    refine T.newTupleE (by simp) fun b g3 l3 S => ?_
    tb_start
    exact ⟨_, .head _, b, .none, rfl, .mk (as := []) S rfl .nil, hr, Nat.zero_le _, Nat.le_refl _, Nat.zero_le _⟩
theorem treeS {d m h room : Nat} (hroom : 4 ≤ room) (hm : 1 ≤ m) (ih : TreeOk prog w d m h room) : TreeOk prog w (d + 1) (2 * m) (h + 1) (room + 1) := by
  intro g R xs tk hx
  have hd : ((d + 1 : Nat) : Int) - 1 = (d : Int) := by omega
  refine Fn.defL (f := 673) (n := room) (binds := [("rest", .ref R), ("deep", .int ((d + 1 : Nat) : Int) tk)]) rfl ⟨rfl, rfl, rfl, rfl, rfl, rfl, by kernel_rfl, by decide +kernel, by kernel_rfl⟩ rfl (fun s X => BindsTo.of_eq rfl) rfl fun c O W hS => ?_
  dsimp only [ofBinds, List.foldl_cons, List.foldl_nil] at hS ⊢
  tb_start
  refine T.puL (pre := []) O (draw (top := 9) (by decide) hx) (by omega) fun r ys g' _ ⟨k, t, q1, h0, h1, hr, q2⟩ => ?_
  subst q1 q2
  have hk9 : k = 0 ∨ k = 1 ∨ k = 2 ∨ k = 3 ∨ k = 4 ∨ k = 5 ∨ k = 6 ∨ k = 7 ∨ k = 8 := by omega
  rcases hk9 with rfl | rfl | rfl | rfl | rfl | rfl | rfl | rfl | rfl
  · tb_start
    refine T.puL (pre := []) O (draw (top := 2) (by decide) hr) (by omega) fun r ys2 g2 _ ⟨j, t2, q1, j0, j1, hr2, q2⟩ => ?_
    subst q1 q2
    obtain ⟨i, rfl, hi⟩ := nat_of (k := 2) j0 j1
    tb_start
    refine T.newTupleE (by simp) fun b g3 l3 S => ?_
    tb_start
    exact ⟨ys2, .head _, b, .var i, rfl, .mk (as := []) S (decide_eq_true hi) .nil, hr2, Nat.zero_le _, by show 1 ≤ _; omega, by show 1 ≤ _; omega⟩
  · tb_start
    refine T.puL (pre := []) O (draw (top := 4) (by decide) hr) (by omega) fun r ys2 g2 _ ⟨j, t2, q1, j0, j1, hr2, q2⟩ => ?_
    subst q1 q2
    obtain ⟨i, rfl, hi⟩ := nat_of (k := 4) j0 j1
    tb_start
    refine T.newTupleE (by simp) fun b g3 l3 S => ?_
    tb_start
    exact ⟨ys2, .head _, b, .cls i, rfl, .mk (as := []) S (decide_eq_true hi) .nil, hr2, Nat.zero_le _, by show 1 ≤ _; omega, Nat.zero_le _⟩
  · tb_start
    refine T.newTupleE (by simp) fun b g3 l3 S => ?_
    tb_start
    exact ⟨_, .head _, b, .none, rfl, .mk (as := []) S rfl .nil, hr, Nat.zero_le _, by show 1 ≤ _; omega, Nat.zero_le _⟩
  · tb_start
    refine T.ltI ?_
    tb_start
    refine T.subI fun t4 => ?_
    rw [hd]
    tb_start
    refine T.puL (pre := []) O (ih _ R _ _ hr) (by omega) fun r ys2 g2 l2 ⟨x, u, q1, hu, hr2, u1, u2, u3⟩ => ?_
    subst q1
    tb_start
    refine T.newTupleE (by simp) fun b g3 l3 S => ?_
    tb_start
    exact ⟨ys2, .head _, b, .app 4 u, rfl, .mk (as := [x]) S rfl (.cons (hu.mono l3) .nil), hr2, by rw [dep_app]; omega, by rw [Tr.sz]; omega, by rw [Tr.ht]; omega⟩
  · tb_start
    refine T.ltI ?_
    tb_start
    refine T.subI fun t4 => ?_
    rw [hd]
    tb_start
    refine T.puL (pre := []) O (ih _ R _ _ hr) (by omega) fun r ys2 g2 l2 ⟨x, u, q1, hu, hr2, u1, u2, u3⟩ => ?_
    subst q1
    tb_start
    refine T.newTupleE (by simp) fun b g3 l3 S => ?_
    tb_start
    exact ⟨ys2, .head _, b, .app 5 u, rfl, .mk (as := [x]) S rfl (.cons (hu.mono l3) .nil), hr2, by rw [dep_app]; omega, by rw [Tr.sz]; omega, by rw [Tr.ht]; omega⟩
  · tb_start
    refine T.ltI ?_
    tb_start
    refine T.subI fun t4 => ?_
    rw [hd]
    tb_start
    refine T.puL (pre := []) O (ih _ R _ _ hr) (by omega) fun r ys2 g2 l2 ⟨x, u, q1, hu, hr2, u1, u2, u3⟩ => ?_
    subst q1
    tb_start
    refine T.newTupleE (by simp) fun b g3 l3 S => ?_
    tb_start
    exact ⟨ys2, .head _, b, .app 6 u, rfl, .mk (as := [x]) S rfl (.cons (hu.mono l3) .nil), hr2, by rw [dep_app]; omega, by rw [Tr.sz]; omega, by rw [Tr.ht]; omega⟩
  · tb_start
    refine T.ltI ?_
    tb_start
    refine T.subI fun t4 => ?_
    rw [hd]
    tb_start
    refine T.puL (pre := []) O (ih _ R _ _ hr) (by omega) fun r ys2 g2 l2 ⟨x, u, q1, hu, hr2, u1, u2, u3⟩ => ?_
    subst q1
    tb_start
    refine T.newTupleE (by simp) fun b g3 l3 S => ?_
    tb_start
    exact ⟨ys2, .head _, b, .app 4 u, rfl, .mk (as := [x]) S rfl (.cons (hu.mono l3) .nil), hr2, by rw [dep_app]; omega, by rw [Tr.sz]; omega, by rw [Tr.ht]; omega⟩
  · tb_start
    refine T.ltI ?_
    tb_start
    refine T.subI fun t4 => ?_
    rw [hd]
    tb_start
    refine T.puL (pre := []) O (ih _ R _ _ hr) (by omega) fun r ys2 g2 l2 ⟨x, u, q1, hu, hr2, u1, u2, u3⟩ => ?_
    subst q1
    tb_start
    refine T.subI fun t5 => ?_
    rw [hd]
    tb_start
    refine T.puL (pre := []) O (ih _ R _ _ hr2) (by omega) fun r ys3 g3 l3 ⟨y, v, q1, hv, hr3, v1, v2, v3⟩ => ?_
    subst q1
    tb_start
    refine T.newTupleE (by simp) fun b g4 l4 S => ?_
    tb_start
    have z1 := ud_le_dep u
    have z2 := ud_le_dep v
    exact ⟨ys3, .head _, b, .uni u v, rfl, .mk (as := [x, y]) S rfl (.cons (hu.mono (l3.trans l4)) (.cons (hv.mono l4) .nil)), hr3, by rw [dep_uni]; omega, by rw [Tr.sz]; omega, by rw [Tr.ht]; omega⟩
  · tb_start
    refine T.ltI ?_
    tb_start
    refine T.subI fun t4 => ?_
    rw [hd]
    tb_start
    refine T.puL (pre := []) O (ih _ R _ _ hr) (by omega) fun r ys2 g2 l2 ⟨x, u, q1, hu, hr2, u1, u2, u3⟩ => ?_
    subst q1
    tb_start
    refine T.subI fun t5 => ?_
    rw [hd]
    tb_start
    refine T.puL (pre := []) O (ih _ R _ _ hr2) (by omega) fun r ys3 g3 l3 ⟨y, v, q1, hv, hr3, v1, v2, v3⟩ => ?_
    subst q1
    tb_start
    refine T.newTupleE (by simp) fun b g4 l4 S => ?_
    tb_start
    have z1 := ud_le_dep u
    have z2 := ud_le_dep v
    exact ⟨ys3, .head _, b, .uni u v, rfl, .mk (as := [x, y]) S rfl (.cons (hu.mono (l3.trans l4)) (.cons (hv.mono l4) .nil)), hr3, by rw [dep_uni]; omega, by rw [Tr.sz]; omega, by rw [Tr.ht]; omega⟩
theorem lawTree : TreeOk prog w 2 4 3 8 := treeS (by decide) (by decide) (treeS (by decide) (by decide) tree0)

end
section
variable {prog : Program} {w : World} {g : G} {n : Nat} {Z : Wm} {X : Wa}
structure MovB (t t' : Tr) : Prop where
  ud : t'.ud ≤ t.ud + 1
  dep : t'.dep ≤ t.dep + 1
  sz : t'.sz ≤ 2 * t.sz
  ht : t'.ht ≤ t.ht + 1
/-- a tree made of another -/
def MovQ (t : Tr) (r : Value) (ys : List Value) (g' : G) : Prop := ∃ a t', r = .ref a ∧ TrR g' a t' ∧ RestV ys ∧ MovB t t'
def MovOk (prog : Program) (w : World) (Z : Wm) (al bl : Addr) (m N : Nat) : Prop := ∀ (g : G) (R a : Addr) (t : Tr) (rises : Bool) (xs : List Value), TrR g a t → AbR g Z al bl → RestV xs → t.ht < N → PuL prog w (KP w.params) m (call (.ref 678) [.ref R, .ref a, .bool rises, .ref al, .ref bl]) R xs (MovQ t) g
theorem movSame {a : Addr} {t : Tr} {ys : List Value} (h : TrR g a t) (hr : RestV ys) : MovQ t (.ref a) ys g := ⟨a, t, rfl, h, hr, Nat.le_succ _, Nat.le_succ _, by omega, Nat.le_succ _⟩
theorem movCls {a : Addr} {t : Tr} {i : Nat} {ys : List Value} (h : TrR g a (.cls i)) (hr : RestV ys) : MovQ t (.ref a) ys g := ⟨a, _, rfl, h, hr, Nat.zero_le _, Nat.zero_le _, by have := sz_pos t; show 1 ≤ _; omega, Nat.zero_le _⟩
inductive MovL : List Tr → List Tr → Prop
  | nil : MovL [] []
  | cons {t t' : Tr} {ts us : List Tr} : MovB t t' → MovL ts us → MovL (t :: ts) (t' :: us)
theorem gatherM {g : G} : ∀ {ts : List Tr} {ys : List Value}, ys.length = ts.length → (∀ (i : Nat) (y : Value), ys[i]? = some y → ∃ u a t', ts[i]? = some u ∧ y = .ref a ∧ TrR g a t' ∧ MovB u t') → ∃ (bs : List Addr) (us : List Tr), ys = bs.map .ref ∧ TrsR g bs us ∧ MovL ts us
  | [], [], _, _ => ⟨[], [], rfl, .nil, .nil⟩
  | [], _ :: _, h, _ => nomatch h
  | _ :: _, [], h, _ => nomatch h
  | t :: ts, y :: ys, hl, h => by
    obtain ⟨t', a, u, e, rfl, r, m⟩ := h 0 y rfl
    cases e
    obtain ⟨bs, us, e, rs, ms⟩ := gatherM (by simpa using hl) fun i y q => h (i + 1) y (by simpa using q)
    exact ⟨a :: bs, u :: us, by rw [e]; rfl, .cons r rs, .cons m ms⟩
/-- a list of trees of one leaf -/
def Leafs (g : G) (ys : List Value) : Prop := ∀ y ∈ ys, ∃ a t, y = .ref a ∧ TrR g a t ∧ t.ud = 0 ∧ t.dep = 0 ∧ t.sz = 1 ∧ t.ht ≤ 1
theorem Leafs.mono {g g' : G} {ys : List Value} (h : Leafs g ys) (l : Le g g') : Leafs g' ys := fun y hy => let ⟨a, t, e, b, c⟩ := h y hy; ⟨a, t, e, b.mono l, c⟩
theorem Leafs.mov {ys zs : List Value} {t : Tr} {i : Nat} {v : Value} (h : Leafs g ys) (e : ys[i]? = some v) (hr : RestV zs) : MovQ t v zs g := by
  obtain ⟨a, u, rfl, b, c1, c2, c3, c4⟩ := h v (List.mem_of_getElem? e)
  exact ⟨a, u, rfl, b, hr, by omega, by omega, by have := sz_pos t; omega, by omega⟩
theorem movClsT {N room : Nat} {al bl R a : Addr} {xs : List Value} {k : Nat} (hroom : 6 ≤ room) (ih : MovOk prog w Z al bl room N) (ht0 : TrR g a (.cls k)) (hA : AbR g Z al bl) (hx : RestV xs) (hN : Tr.ht (.cls k) < N + 1) : PuL prog w (KP w.params) (room + 1) (call (.ref 678) [.ref R, .ref a, .bool true, .ref al, .ref bl]) R xs (MovQ (.cls k)) g := by
  have hkh := fun u hu => kids_ht (t := .cls k) (u := u) hN hu
  have ht := ht0
  cases ht with
  | @mk _ _ tk as e hok hks =>
  have hk : k < 4 := of_decide_eq_true hok
  have e : Tup g a (.int (k : Int) tk :: as.map .ref) := e
  have dk : decide ((k : Int) < 4) = true := decide_eq_true (by omega)
  obtain ⟨ls, hL, hls⟩ := hA.a
  obtain ⟨l, vs, x1, x2, x3⟩ := hls k hk
  have hvl : vs.length = (Z.up k).length := by simpa using ints_len x3
  refine Fn.defL (f := 678) (n := room) (binds := [("rest", .ref R), ("tree", .ref a), ("rises", .bool true), ("above", .ref al), ("bounds", .ref bl)]) rfl ⟨rfl, rfl, rfl, rfl, rfl, rfl, by kernel_rfl, by decide +kernel, by kernel_rfl⟩ rfl (fun s X => BindsTo.of_eq rfl) rfl fun c O W hS => ?_
  dsimp only [ofBinds, List.foldl_cons, List.foldl_nil] at hS ⊢
  tb_start
  refine T.puL (pre := []) O (draw (top := 7) (by decide) hx) (by omega) fun r ys g' _ ⟨how, t, q1, h0, h1, hr, q2⟩ => ?_
  subst q1 q2
  tb_start
  refine IfK.split (fun q => ?_) fun q => ?_
  · tb_start
    refine T.puL (pre := []) O (draw (top := 4) (by decide) hr) (by omega) fun r ys2 g2 _ ⟨j, t2, q1, j0, j1, hr2, q2⟩ => ?_
    subst q1 q2
    obtain ⟨i, rfl, hi⟩ := nat_of (k := 4) j0 j1
    tb_start
    refine T.newTupleE (by simp) fun b g3 l3 S => ?_
    tb_start
    exact ⟨ys2, .head _, movCls (.mk (as := []) S (decide_eq_true hi) .nil) hr2⟩
  tb_start
  refine IfK.split (fun q5 => ?_) fun q5 => ?_
  · tb_start
    refine T.puL (pre := []) O (draw (top := 4) (by decide) hr) (by omega) fun r ys2 g2 _ ⟨j, t2, q1, j0, j1, hr2, q2⟩ => ?_
    subst q1 q2
    obtain ⟨i, rfl, hi⟩ := nat_of (k := 4) j0 j1
    tb_start
    refine T.newTupleE (by simp) fun b g3 l3 S => ?_
    tb_start
    refine T.newTupleE (by simp) fun b2 g4 l4 S2 => ?_
    tb_start
    have z1 := ud_le_dep (.cls k)
    have z2 := sz_pos (.cls k)
    exact ⟨ys2, .head _, b2, .uni (.cls k) (.cls i), rfl, .mk (as := [a, b]) S2 rfl (.cons (ht0.mono (l3.trans l4)) (.cons (.mk (as := []) (S.mono l4) (decide_eq_true hi) .nil) .nil)), hr2, by show max (Tr.ud (.cls k)) 0 ≤ _; omega, by rw [dep_uni]; show max (Tr.ud (.cls k)) 0 + 1 ≤ _; omega, by show Tr.sz (.cls k) + 1 ≤ _; omega, by show max (Tr.ht (.cls k)) 0 + 1 ≤ _; omega⟩
  tb_start
  refine T.itemT e (by decide) (by decide) rfl (by rfl) ?_
  tb_start
  refine T.ltI ?_
  rw [dk]
  iterate 8 tb_rel
  refine T.execs_cons (T.assign_lc1 O W hS (by kernel_rfl) (by kernel_rfl) (by kernel_rfl) (fun _ => rfl) ?_)
  tb_start
  refine T.itemT e (by decide) (by decide) rfl (by rfl) ?_
  tb_start
  refine T.itemL (.inl hL) (by omega) (by omega) (by simpa using x1) (by rfl) ?_
  tb_start
  refine Seqs.list O x2 (LcK.map (fun i v g' => ∃ a j, v = .ref a ∧ TrR g' a (.cls j)) (fun i v g1 g2 l ⟨a, j, e1, e2⟩ => ⟨a, j, e1, e2.mono l⟩) (by kernel_rfl) (by have := hA.few k hk; omega) ?_ ?_)
  · intro D' c' O' hS' i v g' ρ' acc hi hv l hρ
    obtain ⟨m, t1, rfl, em⟩ := x3.at i v hv
    have hm := List.mem_of_getElem? em
    obtain ⟨j, hj, rfl⟩ := List.mem_map.mp hm
    have hj4 := hA.up4 k hk j hj
    tb_start
    refine T.newTupleE (by simp) fun b g3 l3 S => ?_
    exact ⟨rfl, b, j, rfl, .mk (as := []) S (decide_eq_true hj4) .nil⟩
  intro D ys1 g7 l7 hlen hys
  have hLf : Leafs g7 ys1 := fun y hy => by
    obtain ⟨i, hi⟩ := List.mem_iff_getElem?.mp hy
    obtain ⟨a, j, e1, e2⟩ := hys i y hi
    exact ⟨a, _, e1, e2, rfl, rfl, rfl, Nat.zero_le _⟩
  have hpos : 0 < ys1.length := by
    rw [hlen, hvl]
    have := Z.refl k
    exact List.length_pos_of_mem this
  have hfew : ys1.length ≤ 1000 := by rw [hlen, hvl]; have := hA.few k hk; omega
  refine T.freeze0 fun hD => ?_
  have SD : Lst (setG g7 D (.list ys1)) D ys1 := setG_self
  have lD : Le g7 (setG g7 D (.list ys1)) := Le.setG hD
  have hLf2 := hLf.mono lD
  generalize setG g7 D (.list ys1) = g8 at SD lD hLf2
  tb_start
  refine T.lenL (.inl SD) (by omega) fun t5 => ?_
  tb_start
  refine T.puL (pre := []) O (draw (top := ((ys1).length : Int)) (by omega) hr) (by omega) fun r zs2 g9 _ ⟨j, t2, q1, j0, j1, hr2, q2⟩ => ?_
  subst q1 q2
  obtain ⟨i, rfl, hi⟩ := nat_of j0 j1
  have ei : (ys1)[i]? = some ((ys1)[i]'hi) := List.getElem?_eq_getElem hi
  tb_start
  refine T.itemL (.inl SD) j0 (by omega) ei (by rfl) ?_
  tb_start
  exact ⟨zs2, .head _, hLf2.mov ei hr2⟩
theorem movClsF {N room : Nat} {al bl R a : Addr} {xs : List Value} {k : Nat} (hroom : 6 ≤ room) (ih : MovOk prog w Z al bl room N) (ht0 : TrR g a (.cls k)) (hA : AbR g Z al bl) (hx : RestV xs) (hN : Tr.ht (.cls k) < N + 1) : PuL prog w (KP w.params) (room + 1) (call (.ref 678) [.ref R, .ref a, .bool false, .ref al, .ref bl]) R xs (MovQ (.cls k)) g := by
  have hkh := fun u hu => kids_ht (t := .cls k) (u := u) hN hu
  have ht := ht0
  cases ht with
  | @mk _ _ tk as e hok hks =>
  have hk : k < 4 := of_decide_eq_true hok
  have e : Tup g a (.int (k : Int) tk :: as.map .ref) := e
  have dk : decide ((k : Int) < 4) = true := decide_eq_true (by omega)
  obtain ⟨ls, hL, hls⟩ := hA.a
  obtain ⟨l, vs, x1, x2, x3⟩ := hls k hk
  have hvl : vs.length = (Z.up k).length := by simpa using ints_len x3
  refine Fn.defL (f := 678) (n := room) (binds := [("rest", .ref R), ("tree", .ref a), ("rises", .bool false), ("above", .ref al), ("bounds", .ref bl)]) rfl ⟨rfl, rfl, rfl, rfl, rfl, rfl, by kernel_rfl, by decide +kernel, by kernel_rfl⟩ rfl (fun s X => BindsTo.of_eq rfl) rfl fun c O W hS => ?_
  dsimp only [ofBinds, List.foldl_cons, List.foldl_nil] at hS ⊢
  tb_start
  refine T.puL (pre := []) O (draw (top := 7) (by decide) hx) (by omega) fun r ys g' _ ⟨how, t, q1, h0, h1, hr, q2⟩ => ?_
  subst q1 q2
  tb_start
  refine IfK.split (fun q => ?_) fun q => ?_
  · tb_start
    refine T.puL (pre := []) O (draw (top := 4) (by decide) hr) (by omega) fun r ys2 g2 _ ⟨j, t2, q1, j0, j1, hr2, q2⟩ => ?_
    subst q1 q2
    obtain ⟨i, rfl, hi⟩ := nat_of (k := 4) j0 j1
    tb_start
    refine T.newTupleE (by simp) fun b g3 l3 S => ?_
    tb_start
    exact ⟨ys2, .head _, movCls (.mk (as := []) S (decide_eq_true hi) .nil) hr2⟩
  tb_start
  refine IfK.share (fun _ k => ?_) ?_
  · iterate 5 tb_rel
    exact IfK.f (k.2 rfl)
  tb_start
  refine T.itemT e (by decide) (by decide) rfl (by rfl) ?_
  tb_start
  refine T.ltI ?_
  rw [dk]
  iterate 8 tb_rel
  refine T.execs_cons (T.assign_lc1 O W hS (by kernel_rfl) (by kernel_rfl) (by kernel_rfl) (fun _ => rfl) ?_)
  tb_start
  refine T.range1 fun r3 g3 l3 hrg => ?_
  refine Seqs.range (m := 4) O hrg (by decide) (by decide +kernel) (LcK.fmap (fun i => ((Z.up i).map Int.ofNat).contains (k : Int)) (fun i y g' => ∃ a, y = .ref a ∧ TrR g' a (.cls i)) (fun i y g1 g2 l ⟨a, e1, e2⟩ => ⟨a, e1, e2.mono l⟩) (by kernel_rfl) (by decide) ?_ ?_)
  · intro D' c' O' hS' i v g' ρ' acc hi hv l' hρ
    obtain ⟨t1, hv⟩ := hv
    rw [show (0 + (i : Int) * 1) = (i : Int) by omega] at hv
    subst hv
    have l0 := l3.trans l'
    obtain ⟨li, vsi, y1, y2, y3⟩ := hls i hi
    have q1 : ρ' "tree" = some (.ref a) := (hρ "tree" (by kernel_rfl)).trans (by k_subL)
    have q2 : ρ' "above" = some (.ref al) := (hρ "above" (by kernel_rfl)).trans (by k_subL)
    tb_start
    refine T.itemT (e.mono l0) (by decide) (by decide) rfl (by rfl) ?_
    tb_start
    refine T.itemL (.inl (hL.mono l0)) (by omega) (by omega) y1 (by rfl) ?_
    tb_start
    refine T.inIL (.inl (y2.mono l0)) y3 ?_
    tb_start
    refine ⟨rfl, rfl, fun _ => ?_⟩
    tb_start
    refine T.newTupleE (by simp) fun b g4 l4 S => ?_
    exact ⟨⟨b, rfl, .mk (as := []) S (decide_eq_true hi) .nil⟩, rfl⟩
  intro D ys1 g7 l7 hlen hys hne
  have hLf1 : Leafs g7 ys1 := fun y hy => by
    obtain ⟨i, hi, _, a, e1, e2⟩ := hys y hy
    exact ⟨a, _, e1, e2, rfl, rfl, rfl, Nat.zero_le _⟩
  have hpos1 : 0 < ys1.length := by
    have := hne k hk (by rw [List.contains_iff_mem]; exact List.mem_map.mpr ⟨k, Z.refl k, rfl⟩)
    exact List.length_pos_iff.mpr this
  have l07 := l3.trans l7
  tb_start
  refine T.methodL (.inr (.head _)) F.slot_list_extend F.type_list_extend ?_
  tb_start
  refine T.lc O hS (by kernel_rfl) (by kernel_rfl) (fun _ => rfl) ?_
  tb_start
  refine T.newTupleE (by simp) fun b9 g9 l9 S9 => ?_
  have l09 := l07.trans l9
  refine Seqs.tuple O S9 (LcK.fmap (fun i => ((Z.up (Z.bnd i)).map Int.ofNat).contains (k : Int)) (fun i y g' => ∃ a, y = .ref a ∧ TrR g' a (.var i)) (fun i y g1 g2 l ⟨a, e1, e2⟩ => ⟨a, e1, e2.mono l⟩) (by kernel_rfl) (by simp) ?_ ?_)
  · intro D' c' O' hS' i v g' ρ' acc hi hv l' hρ
    have hi2 : i < 2 := hi
    have hiv : ∃ t1, v = .int (i : Int) t1 := by
      have hi3 : i = 0 ∨ i = 1 := by omega
      rcases hi3 with rfl | rfl <;> exact ⟨_, (Option.some.inj hv).symm⟩
    obtain ⟨t1, rfl⟩ := hiv
    have l0 := l09.trans l'
    obtain ⟨u0, u1, hB⟩ := (hA.mono l0).b
    have hb4 := hA.lt i hi2
    obtain ⟨li, vsi, y1, y2, y3⟩ := hls (Z.bnd i) hb4
    have hBi : ∃ tt, ([Value.int (Z.bnd 0) u0, Value.int (Z.bnd 1) u1])[((i : Int)).toNat]? = some (.int (Z.bnd i) tt) := by
      have hi3 : i = 0 ∨ i = 1 := by omega
      rcases hi3 with rfl | rfl <;> exact ⟨_, rfl⟩
    obtain ⟨tt, hBi⟩ := hBi
    have q1 : ρ' "tree" = some (.ref a) := (hρ "tree" (by kernel_rfl)).trans (by k_subL)
    have q2 : ρ' "above" = some (.ref al) := (hρ "above" (by kernel_rfl)).trans (by k_subL)
    have q3 : ρ' "bounds" = some (.ref bl) := (hρ "bounds" (by kernel_rfl)).trans (by k_subL)
    tb_start
    refine T.itemT (e.mono l0) (by decide) (by decide) rfl (by rfl) ?_
    tb_start
    refine T.itemL (.inl hB) (by omega) (by omega) hBi (by rfl) ?_
    tb_start
    refine T.itemL (.inl (hL.mono l0)) (by omega) (by omega) y1 (by rfl) ?_
    tb_start
    refine T.inIL (.inl (y2.mono l0)) y3 ?_
    tb_start
    refine ⟨rfl, rfl, fun _ => ?_⟩
    tb_start
    refine T.newTupleE (by simp) fun b g4 l4 S => ?_
    exact ⟨⟨b, rfl, .mk (as := []) S (decide_eq_true hi2) .nil⟩, rfl⟩
  intro D2 ys2 g10 l10 hlen2 hys2 _
  have hLf2 : Leafs g10 ys2 := fun y hy => by
    obtain ⟨i, hi, _, a, e1, e2⟩ := hys2 y hy
    exact ⟨a, _, e1, e2, rfl, rfl, rfl, Nat.le_refl _⟩
  refine T.freeze0 fun hD2 => ?_
  have SD2 : Lst (setG g10 D2 (.list ys2)) D2 ys2 := setG_self
  have lD2 : Le g10 (setG g10 D2 (.list ys2)) := Le.setG hD2
  have hLf : Leafs (setG g10 D2 (.list ys2)) (ys1 ++ ys2) := fun y hy => by
    rcases List.mem_append.mp hy with hy | hy
    · exact hLf1.mono (l9.trans (l10.trans lD2)) y hy
    · exact hLf2.mono lD2 y hy
  have hlen2 : ys2.length ≤ 2 := hlen2
  generalize setG g10 D2 (.list ys2) = g11 at SD2 lD2 hLf
  tb_start
  refine T.extendL (pre := []) O (.inl SD2) (by omega) ?_
  tb_start
  refine ⟨rfl, ?_⟩
  have hpos : 0 < (ys1 ++ ys2).length := by rw [List.length_append]; omega
  have hfew : (ys1 ++ ys2).length ≤ 1000 := by rw [List.length_append]; omega
  tb_start
  refine T.freeze0 fun hD => ?_
  have SD : Lst (setG g11 D (.list (ys1 ++ ys2))) D (ys1 ++ ys2) := setG_self
  have lD : Le g11 (setG g11 D (.list (ys1 ++ ys2))) := Le.setG hD
  have hLf9 := hLf.mono lD
  generalize setG g11 D (.list (ys1 ++ ys2)) = g8 at SD lD hLf9
  tb_start
  refine T.lenL (.inl SD) (by omega) fun t5 => ?_
  tb_start
  refine T.puL (pre := []) O (draw (top := (((ys1 ++ ys2)).length : Int)) (by omega) hr) (by omega) fun r zs2 g9 _ ⟨j, t2, q1, j0, j1, hr2, q2⟩ => ?_
  subst q1 q2
  obtain ⟨i, rfl, hi⟩ := nat_of j0 j1
  have ei : ((ys1 ++ ys2))[i]? = some (((ys1 ++ ys2))[i]'hi) := List.getElem?_eq_getElem hi
  tb_start
  refine T.itemL (.inl SD) j0 (by omega) ei (by rfl) ?_
  tb_start
  exact ⟨zs2, .head _, hLf9.mov ei hr2⟩

end
section
variable {prog : Program} {w : World} {g : G} {n : Nat} {Z : Wm} {X : Wa}
theorem movAppB {v : Nat} {x x' : Tr} (h : MovB x x') : MovB (.app v x) (.app v x') := by
  have h1 := h.dep
  have h2 := h.sz
  have h3 := h.ht
  exact ⟨by show x'.dep + 1 ≤ x.dep + 1 + 1; omega, by rw [dep_app, dep_app]; omega, by rw [Tr.sz, Tr.sz]; omega, by rw [Tr.ht, Tr.ht]; omega⟩
theorem movUniB {p q p' q' : Tr} (h : MovB p p') (k : MovB q q') : MovB (.uni p q) (.uni p' q') := by
  have h1 := h.ud
  have h2 := h.sz
  have h3 := h.ht
  have k1 := k.ud
  have k2 := k.sz
  have k3 := k.ht
  exact ⟨by rw [Tr.ud, Tr.ud]; omega, by rw [dep_uni, dep_uni]; omega, by rw [Tr.sz, Tr.sz]; omega, by rw [Tr.ht, Tr.ht]; omega⟩
theorem movOne {x : Tr} {us : List Tr} (h : MovL [x] us) : ∃ x', us = [x'] ∧ MovB x x' := by
  cases h with
  | cons a b => cases b; exact ⟨_, rfl, a⟩
theorem movTwo {x y : Tr} {us : List Tr} (h : MovL [x, y] us) : ∃ x' y', us = [x', y'] ∧ MovB x x' ∧ MovB y y' := by
  cases h with
  | cons a b => cases b with
    | cons c d => cases d; exact ⟨_, _, rfl, a, c⟩
theorem movPart {p q : Tr} {r : Value} {ys : List Value} (h : MovQ p r ys g ∨ MovQ q r ys g) : MovQ (.uni p q) r ys g := by
  have z1 := ud_le_dep p
  have z2 := ud_le_dep q
  have z3 : p.dep ≤ (Tr.uni p q).dep := by rw [dep_uni]; unfold Tr.dep; split <;> omega
  have z4 : q.dep ≤ (Tr.uni p q).dep := by rw [dep_uni]; unfold Tr.dep; split <;> omega
  have z5 : (Tr.uni p q).ud = max p.ud q.ud := rfl
  have z6 : (Tr.uni p q).sz = p.sz + q.sz := rfl
  have z7 : (Tr.uni p q).ht = max p.ht q.ht + 1 := rfl
  rcases h with ⟨a, t', e, b, c, d⟩ | ⟨a, t', e, b, c, d⟩
  · have h1 := d.ud
    have h2 := d.sz
    have h3 := d.ht
    have h4 := d.dep
    exact ⟨a, t', e, b, c, by omega, by omega, by omega, by omega⟩
  · have h1 := d.ud
    have h2 := d.sz
    have h3 := d.ht
    have h4 := d.dep
    exact ⟨a, t', e, b, c, by omega, by omega, by omega, by omega⟩
theorem movApp4T {N room : Nat} {al bl R a : Addr} {xs : List Value} {x : Tr} (hroom : 6 ≤ room) (ih : MovOk prog w Z al bl room N) (ht0 : TrR g a (.app 4 x)) (hA : AbR g Z al bl) (hx : RestV xs) (hN : Tr.ht (.app 4 x) < N + 1) : PuL prog w (KP w.params) (room + 1) (call (.ref 678) [.ref R, .ref a, .bool true, .ref al, .ref bl]) R xs (MovQ (.app 4 x)) g := by
  have hkh := fun u hu => kids_ht (t := .app 4 x) (u := u) hN hu
  have ht := ht0
  cases ht with
  | @mk _ _ tk as e hok hks =>
  have e : Tup g a (.int 4 tk :: as.map .ref) := e
  have hks : TrsR g as [x] := hks
  have hal : as.length = ([x] : List Tr).length := hks.length
  simp only [List.length_cons, List.length_nil] at hal
  refine Fn.defL (f := 678) (n := room) (binds := [("rest", .ref R), ("tree", .ref a), ("rises", .bool true), ("above", .ref al), ("bounds", .ref bl)]) rfl ⟨rfl, rfl, rfl, rfl, rfl, rfl, by kernel_rfl, by decide +kernel, by kernel_rfl⟩ rfl (fun s X => BindsTo.of_eq rfl) rfl fun c O W hS => ?_
  dsimp only [ofBinds, List.foldl_cons, List.foldl_nil] at hS ⊢
  tb_start
  refine T.puL (pre := []) O (draw (top := 7) (by decide) hx) (by omega) fun r ys g' _ ⟨how, t, q1, h0, h1, hr, q2⟩ => ?_
  subst q1 q2
  tb_start
  refine IfK.split (fun q => ?_) fun q => ?_
  · tb_start
    refine T.puL (pre := []) O (draw (top := 4) (by decide) hr) (by omega) fun r ys2 g2 _ ⟨j, t2, q1, j0, j1, hr2, q2⟩ => ?_
    subst q1 q2
    obtain ⟨i, rfl, hi⟩ := nat_of (k := 4) j0 j1
    tb_start
    refine T.newTupleE (by simp) fun b g3 l3 S => ?_
    tb_start
    exact ⟨ys2, .head _, movCls (.mk (as := []) S (decide_eq_true hi) .nil) hr2⟩
  tb_start
  refine IfK.split (fun q5 => ?_) fun q5 => ?_
  · tb_start
    refine T.puL (pre := []) O (draw (top := 4) (by decide) hr) (by omega) fun r ys2 g2 _ ⟨j, t2, q1, j0, j1, hr2, q2⟩ => ?_
    subst q1 q2
    obtain ⟨i, rfl, hi⟩ := nat_of (k := 4) j0 j1
    tb_start
    refine T.newTupleE (by simp) fun b g3 l3 S => ?_
    tb_start
    refine T.newTupleE (by simp) fun b2 g4 l4 S2 => ?_
    tb_start
    have z1 := ud_le_dep (.app 4 x)
    have z2 := sz_pos (.app 4 x)
    exact ⟨ys2, .head _, b2, .uni (.app 4 x) (.cls i), rfl, .mk (as := [a, b]) S2 rfl (.cons (ht0.mono (l3.trans l4)) (.cons (.mk (as := []) (S.mono l4) (decide_eq_true hi) .nil) .nil)), hr2, by show max (Tr.ud (.app 4 x)) 0 ≤ _; omega, by rw [dep_uni]; show max (Tr.ud (.app 4 x)) 0 + 1 ≤ _; omega, by show Tr.sz (.app 4 x) + 1 ≤ _; omega, by show max (Tr.ht (.app 4 x)) 0 + 1 ≤ _; omega⟩
  tb_start
  refine T.itemT e (by decide) (by decide) rfl (by rfl) ?_
  tb_start
  refine T.ltI ?_
  tb_start
  refine T.itemT e (by decide) (by decide) rfl (by rfl) ?_
  tb_start
  refine T.itemT e (by decide) (by decide) rfl (by rfl) ?_
  tb_start
  refine T.itemT e (by decide) (by decide) rfl (by rfl) ?_
  tb_start
  refine T.newTupleE (by simp) fun b8 g2 l2 S8 => ?_
  tb_start
  have e2 := e.mono l2
  refine T.lc O hS (by kernel_rfl) (by kernel_rfl) (fun _ => rfl) ?_
  tb_start
  refine T.slice ?_
  tb_start
  refine ⟨_, _, rfl, fun sl0 => ?_⟩
  refine T.sliceTE (i := 1) e2 (by simp; omega) (Nat.le_refl _) (by simp) (by rfl) fun L1 g3 l3 S1 => ?_
  have l03 := l2.trans l3
  refine Seqs.tuple O S1 (LcK.mapJ (fun M1 => ∃ ys, M1 = [(R, .list ys)] ∧ RestV ys) (fun i y g' => ∃ u a t', [x][i]? = some u ∧ y = .ref a ∧ TrR g' a t' ∧ MovB u t') (fun i y g1 g2 l ⟨u, a, t', e1, e2, e3, e4⟩ => ⟨u, a, t', e1, e2, e3.mono l, e4⟩) ⟨_, rfl, hr⟩ (by kernel_rfl) (by simp; omega) ?_ ?_)
  · rintro D' c' O' hS' i v g' ρ' acc M1 hi hv l hρ ⟨ys1, rfl, hr1⟩
    obtain ⟨b, hb', rfl⟩ := refs_get (as := as) hv
    obtain ⟨u, et, htr⟩ := hks.get hb'
    have htm := List.mem_of_getElem? et
    have l0 := l03.trans l
    have q1 : ρ' "rest" = some (.ref R) := (hρ "rest" (by kernel_rfl)).trans (by k_subL)
    have q2 : ρ' "rises" = some (.bool true) := (hρ "rises" (by kernel_rfl)).trans (by k_subL)
    have q3 : ρ' "above" = some (.ref al) := (hρ "above" (by kernel_rfl)).trans (by k_subL)
    have q4 : ρ' "bounds" = some (.ref bl) := (hρ "bounds" (by kernel_rfl)).trans (by k_subL)
    tb_start
    refine T.puL (pre := [(D', .list acc)]) O' (ih g' R b u true ys1 (htr.mono l0) (hA.mono l0) hr1 (hkh u htm)) (by omega) fun r ys2 g'' l' ⟨x, t', q1, q2, q3, q4⟩ => ?_
    exact ⟨_, rfl, ⟨ys2, rfl, q3⟩, u, x, t', et, q1, q2, q4⟩
  · rintro D' ys g' M1 ⟨ys1, rfl, hr1⟩ l hlen hys
    obtain ⟨bs, us, rfl, rs, ms⟩ := gatherM (ts := [x]) (by rw [hlen]; simp; omega) fun i y e => hys i y e
    have hbl := rs.length
    tb_start
    obtain ⟨x', rfl, mx⟩ := movOne ms
    refine T.tupleOf (.inr (.head _)) (by rw [List.length_map, hbl]; simp) fun b9 hb9 => ?_
    have l4 := Le.setG (m := .tup (bs.map Value.ref)) hb9
    tb_start
    refine T.addT (S8.mono (l3.trans (l.trans l4))) setG_self (by rw [List.length_map, hbl]; simp) (by simp) fun b10 g5 l5 S10 => ?_
    tb_start
    refine ⟨ys1, by first | exact .head _ | exact .tail _ (.head _), b10, .app 4 x', rfl, .mk (tk := tk) (as := bs) S10 rfl (rs.mono (l4.trans l5)), hr1, movAppB mx⟩
theorem movApp5T {N room : Nat} {al bl R a : Addr} {xs : List Value} {x : Tr} (hroom : 6 ≤ room) (ih : MovOk prog w Z al bl room N) (ht0 : TrR g a (.app 5 x)) (hA : AbR g Z al bl) (hx : RestV xs) (hN : Tr.ht (.app 5 x) < N + 1) : PuL prog w (KP w.params) (room + 1) (call (.ref 678) [.ref R, .ref a, .bool true, .ref al, .ref bl]) R xs (MovQ (.app 5 x)) g := by
  have hkh := fun u hu => kids_ht (t := .app 5 x) (u := u) hN hu
  have ht := ht0
  cases ht with
  | @mk _ _ tk as e hok hks =>
  have e : Tup g a (.int 5 tk :: as.map .ref) := e
  have hks : TrsR g as [x] := hks
  have hal : as.length = ([x] : List Tr).length := hks.length
  simp only [List.length_cons, List.length_nil] at hal
  refine Fn.defL (f := 678) (n := room) (binds := [("rest", .ref R), ("tree", .ref a), ("rises", .bool true), ("above", .ref al), ("bounds", .ref bl)]) rfl ⟨rfl, rfl, rfl, rfl, rfl, rfl, by kernel_rfl, by decide +kernel, by kernel_rfl⟩ rfl (fun s X => BindsTo.of_eq rfl) rfl fun c O W hS => ?_
  dsimp only [ofBinds, List.foldl_cons, List.foldl_nil] at hS ⊢
  tb_start
  refine T.puL (pre := []) O (draw (top := 7) (by decide) hx) (by omega) fun r ys g' _ ⟨how, t, q1, h0, h1, hr, q2⟩ => ?_
  subst q1 q2
  tb_start
  refine IfK.split (fun q => ?_) fun q => ?_
  · tb_start
    refine T.puL (pre := []) O (draw (top := 4) (by decide) hr) (by omega) fun r ys2 g2 _ ⟨j, t2, q1, j0, j1, hr2, q2⟩ => ?_
    subst q1 q2
    obtain ⟨i, rfl, hi⟩ := nat_of (k := 4) j0 j1
    tb_start
    refine T.newTupleE (by simp) fun b g3 l3 S => ?_
    tb_start
    exact ⟨ys2, .head _, movCls (.mk (as := []) S (decide_eq_true hi) .nil) hr2⟩
  tb_start
  refine IfK.split (fun q5 => ?_) fun q5 => ?_
  · tb_start
    refine T.puL (pre := []) O (draw (top := 4) (by decide) hr) (by omega) fun r ys2 g2 _ ⟨j, t2, q1, j0, j1, hr2, q2⟩ => ?_
    subst q1 q2
    obtain ⟨i, rfl, hi⟩ := nat_of (k := 4) j0 j1
    tb_start
    refine T.newTupleE (by simp) fun b g3 l3 S => ?_
    tb_start
    refine T.newTupleE (by simp) fun b2 g4 l4 S2 => ?_
    tb_start
    have z1 := ud_le_dep (.app 5 x)
    have z2 := sz_pos (.app 5 x)
    exact ⟨ys2, .head _, b2, .uni (.app 5 x) (.cls i), rfl, .mk (as := [a, b]) S2 rfl (.cons (ht0.mono (l3.trans l4)) (.cons (.mk (as := []) (S.mono l4) (decide_eq_true hi) .nil) .nil)), hr2, by show max (Tr.ud (.app 5 x)) 0 ≤ _; omega, by rw [dep_uni]; show max (Tr.ud (.app 5 x)) 0 + 1 ≤ _; omega, by show Tr.sz (.app 5 x) + 1 ≤ _; omega, by show max (Tr.ht (.app 5 x)) 0 + 1 ≤ _; omega⟩
  tb_start
  cases hks with
  | @cons x' _ as' _ hx' hnil =>
  cases hnil
  have e : Tup _ a [.int 5 tk, .ref x'] := e
  refine T.itemT e (by decide) (by decide) rfl (by rfl) ?_
  tb_start
  refine T.ltI ?_
  tb_start
  refine T.itemT e (by decide) (by decide) rfl (by rfl) ?_
  tb_start
  refine T.itemT e (by decide) (by decide) rfl (by rfl) ?_
  tb_start
  refine T.puL (pre := []) O (ih _ R x' x false ys hx' hA hr (hkh x (.head _))) (by omega) fun r ys2 g2 l2 ⟨y, t', q1, q2, q3, q4⟩ => ?_
  subst q1
  tb_start
  refine T.newTupleE (by simp) fun b3 g3 l3 S3 => ?_
  tb_start
  exact ⟨ys2, .head _, b3, .app 5 t', rfl, .mk (tk := _) (as := [y]) S3 rfl (.cons (q2.mono l3) .nil), q3, movAppB q4⟩
theorem movApp6T {N room : Nat} {al bl R a : Addr} {xs : List Value} {x : Tr} (hroom : 6 ≤ room) (ih : MovOk prog w Z al bl room N) (ht0 : TrR g a (.app 6 x)) (hA : AbR g Z al bl) (hx : RestV xs) (hN : Tr.ht (.app 6 x) < N + 1) : PuL prog w (KP w.params) (room + 1) (call (.ref 678) [.ref R, .ref a, .bool true, .ref al, .ref bl]) R xs (MovQ (.app 6 x)) g := by
  have hkh := fun u hu => kids_ht (t := .app 6 x) (u := u) hN hu
  have ht := ht0
  cases ht with
  | @mk _ _ tk as e hok hks =>
  have e : Tup g a (.int 6 tk :: as.map .ref) := e
  refine Fn.defL (f := 678) (n := room) (binds := [("rest", .ref R), ("tree", .ref a), ("rises", .bool true), ("above", .ref al), ("bounds", .ref bl)]) rfl ⟨rfl, rfl, rfl, rfl, rfl, rfl, by kernel_rfl, by decide +kernel, by kernel_rfl⟩ rfl (fun s X => BindsTo.of_eq rfl) rfl fun c O W hS => ?_
  dsimp only [ofBinds, List.foldl_cons, List.foldl_nil] at hS ⊢
  tb_start
  refine T.puL (pre := []) O (draw (top := 7) (by decide) hx) (by omega) fun r ys g' _ ⟨how, t, q1, h0, h1, hr, q2⟩ => ?_
  subst q1 q2
  tb_start
  refine IfK.split (fun q => ?_) fun q => ?_
  · tb_start
    refine T.puL (pre := []) O (draw (top := 4) (by decide) hr) (by omega) fun r ys2 g2 _ ⟨j, t2, q1, j0, j1, hr2, q2⟩ => ?_
    subst q1 q2
    obtain ⟨i, rfl, hi⟩ := nat_of (k := 4) j0 j1
    tb_start
    refine T.newTupleE (by simp) fun b g3 l3 S => ?_
    tb_start
    exact ⟨ys2, .head _, movCls (.mk (as := []) S (decide_eq_true hi) .nil) hr2⟩
  tb_start
  refine IfK.split (fun q5 => ?_) fun q5 => ?_
  · tb_start
    refine T.puL (pre := []) O (draw (top := 4) (by decide) hr) (by omega) fun r ys2 g2 _ ⟨j, t2, q1, j0, j1, hr2, q2⟩ => ?_
    subst q1 q2
    obtain ⟨i, rfl, hi⟩ := nat_of (k := 4) j0 j1
    tb_start
    refine T.newTupleE (by simp) fun b g3 l3 S => ?_
    tb_start
    refine T.newTupleE (by simp) fun b2 g4 l4 S2 => ?_
    tb_start
    have z1 := ud_le_dep (.app 6 x)
    have z2 := sz_pos (.app 6 x)
    exact ⟨ys2, .head _, b2, .uni (.app 6 x) (.cls i), rfl, .mk (as := [a, b]) S2 rfl (.cons (ht0.mono (l3.trans l4)) (.cons (.mk (as := []) (S.mono l4) (decide_eq_true hi) .nil) .nil)), hr2, by show max (Tr.ud (.app 6 x)) 0 ≤ _; omega, by rw [dep_uni]; show max (Tr.ud (.app 6 x)) 0 + 1 ≤ _; omega, by show Tr.sz (.app 6 x) + 1 ≤ _; omega, by show max (Tr.ht (.app 6 x)) 0 + 1 ≤ _; omega⟩
  tb_start
  refine T.itemT e (by decide) (by decide) rfl (by rfl) ?_
  tb_start
  refine T.ltI ?_
  tb_start
  refine T.itemT e (by decide) (by decide) rfl (by rfl) ?_
  tb_start
  refine T.itemT e (by decide) (by decide) rfl (by rfl) ?_
  tb_start
  refine T.itemT e (by decide) (by decide) rfl (by rfl) ?_
  tb_start
  refine T.itemT e (by decide) (by decide) rfl (by rfl) ?_
  tb_start
  refine T.itemT e (by decide) (by decide) rfl (by rfl) ?_
  tb_start
  refine T.newTupleE (by simp) fun b3 g3 l3 S3 => ?_
  tb_start
  refine T.inIT S3 (.cons 7 _ (.cons 8 _ .nil)) ?_
  tb_start
  exact ⟨ys, .head _, movSame (ht0.mono l3) hr⟩
theorem movNoneT {N room : Nat} {al bl R a : Addr} {xs : List Value}  (hroom : 6 ≤ room) (ih : MovOk prog w Z al bl room N) (ht0 : TrR g a (.none)) (hA : AbR g Z al bl) (hx : RestV xs) (hN : Tr.ht (.none) < N + 1) : PuL prog w (KP w.params) (room + 1) (call (.ref 678) [.ref R, .ref a, .bool true, .ref al, .ref bl]) R xs (MovQ (.none)) g := by
  have hkh := fun u hu => kids_ht (t := .none) (u := u) hN hu
  have ht := ht0
  cases ht with
  | @mk _ _ tk as e hok hks =>
  have e : Tup g a (.int 9 tk :: as.map .ref) := e
  refine Fn.defL (f := 678) (n := room) (binds := [("rest", .ref R), ("tree", .ref a), ("rises", .bool true), ("above", .ref al), ("bounds", .ref bl)]) rfl ⟨rfl, rfl, rfl, rfl, rfl, rfl, by kernel_rfl, by decide +kernel, by kernel_rfl⟩ rfl (fun s X => BindsTo.of_eq rfl) rfl fun c O W hS => ?_
  dsimp only [ofBinds, List.foldl_cons, List.foldl_nil] at hS ⊢
  tb_start
  refine T.puL (pre := []) O (draw (top := 7) (by decide) hx) (by omega) fun r ys g' _ ⟨how, t, q1, h0, h1, hr, q2⟩ => ?_
  subst q1 q2
  tb_start
  refine IfK.split (fun q => ?_) fun q => ?_
  · tb_start
    refine T.puL (pre := []) O (draw (top := 4) (by decide) hr) (by omega) fun r ys2 g2 _ ⟨j, t2, q1, j0, j1, hr2, q2⟩ => ?_
    subst q1 q2
    obtain ⟨i, rfl, hi⟩ := nat_of (k := 4) j0 j1
    tb_start
    refine T.newTupleE (by simp) fun b g3 l3 S => ?_
    tb_start
    exact ⟨ys2, .head _, movCls (.mk (as := []) S (decide_eq_true hi) .nil) hr2⟩
  tb_start
  refine IfK.split (fun q5 => ?_) fun q5 => ?_
  · tb_start
    refine T.puL (pre := []) O (draw (top := 4) (by decide) hr) (by omega) fun r ys2 g2 _ ⟨j, t2, q1, j0, j1, hr2, q2⟩ => ?_
    subst q1 q2
    obtain ⟨i, rfl, hi⟩ := nat_of (k := 4) j0 j1
    tb_start
    refine T.newTupleE (by simp) fun b g3 l3 S => ?_
    tb_start
    refine T.newTupleE (by simp) fun b2 g4 l4 S2 => ?_
    tb_start
    have z1 := ud_le_dep (.none)
    have z2 := sz_pos (.none)
    exact ⟨ys2, .head _, b2, .uni (.none) (.cls i), rfl, .mk (as := [a, b]) S2 rfl (.cons (ht0.mono (l3.trans l4)) (.cons (.mk (as := []) (S.mono l4) (decide_eq_true hi) .nil) .nil)), hr2, by show max (Tr.ud (.none)) 0 ≤ _; omega, by rw [dep_uni]; show max (Tr.ud (.none)) 0 + 1 ≤ _; omega, by show Tr.sz (.none) + 1 ≤ _; omega, by show max (Tr.ht (.none)) 0 + 1 ≤ _; omega⟩
  tb_start
  refine T.itemT e (by decide) (by decide) rfl (by rfl) ?_
  tb_start
  refine T.ltI ?_
  tb_start
  refine T.itemT e (by decide) (by decide) rfl (by rfl) ?_
  tb_start
  refine T.itemT e (by decide) (by decide) rfl (by rfl) ?_
  tb_start
  refine T.itemT e (by decide) (by decide) rfl (by rfl) ?_
  tb_start
  refine T.itemT e (by decide) (by decide) rfl (by rfl) ?_
  tb_start
  refine T.itemT e (by decide) (by decide) rfl (by rfl) ?_
  tb_start
  refine T.newTupleE (by simp) fun b3 g3 l3 S3 => ?_
  tb_start
  refine T.inIT S3 (.cons 7 _ (.cons 8 _ .nil)) ?_
  tb_start
  exact ⟨ys, .head _, movSame (ht0.mono l3) hr⟩
theorem movBotT {N room : Nat} {al bl R a : Addr} {xs : List Value}  (hroom : 6 ≤ room) (ih : MovOk prog w Z al bl room N) (ht0 : TrR g a (.bot)) (hA : AbR g Z al bl) (hx : RestV xs) (hN : Tr.ht (.bot) < N + 1) : PuL prog w (KP w.params) (room + 1) (call (.ref 678) [.ref R, .ref a, .bool true, .ref al, .ref bl]) R xs (MovQ (.bot)) g := by
  have hkh := fun u hu => kids_ht (t := .bot) (u := u) hN hu
  have ht := ht0
  cases ht with
  | @mk _ _ tk as e hok hks =>
  have e : Tup g a (.int 10 tk :: as.map .ref) := e
  refine Fn.defL (f := 678) (n := room) (binds := [("rest", .ref R), ("tree", .ref a), ("rises", .bool true), ("above", .ref al), ("bounds", .ref bl)]) rfl ⟨rfl, rfl, rfl, rfl, rfl, rfl, by kernel_rfl, by decide +kernel, by kernel_rfl⟩ rfl (fun s X => BindsTo.of_eq rfl) rfl fun c O W hS => ?_
  dsimp only [ofBinds, List.foldl_cons, List.foldl_nil] at hS ⊢
  tb_start
  refine T.puL (pre := []) O (draw (top := 7) (by decide) hx) (by omega) fun r ys g' _ ⟨how, t, q1, h0, h1, hr, q2⟩ => ?_
  subst q1 q2
  tb_start
  refine IfK.split (fun q => ?_) fun q => ?_
  · tb_start
    refine T.puL (pre := []) O (draw (top := 4) (by decide) hr) (by omega) fun r ys2 g2 _ ⟨j, t2, q1, j0, j1, hr2, q2⟩ => ?_
    subst q1 q2
    obtain ⟨i, rfl, hi⟩ := nat_of (k := 4) j0 j1
    tb_start
    refine T.newTupleE (by simp) fun b g3 l3 S => ?_
    tb_start
    exact ⟨ys2, .head _, movCls (.mk (as := []) S (decide_eq_true hi) .nil) hr2⟩
  tb_start
  refine IfK.split (fun q5 => ?_) fun q5 => ?_
  · tb_start
    refine T.puL (pre := []) O (draw (top := 4) (by decide) hr) (by omega) fun r ys2 g2 _ ⟨j, t2, q1, j0, j1, hr2, q2⟩ => ?_
    subst q1 q2
    obtain ⟨i, rfl, hi⟩ := nat_of (k := 4) j0 j1
    tb_start
    refine T.newTupleE (by simp) fun b g3 l3 S => ?_
    tb_start
    refine T.newTupleE (by simp) fun b2 g4 l4 S2 => ?_
    tb_start
    have z1 := ud_le_dep (.bot)
    have z2 := sz_pos (.bot)
    exact ⟨ys2, .head _, b2, .uni (.bot) (.cls i), rfl, .mk (as := [a, b]) S2 rfl (.cons (ht0.mono (l3.trans l4)) (.cons (.mk (as := []) (S.mono l4) (decide_eq_true hi) .nil) .nil)), hr2, by show max (Tr.ud (.bot)) 0 ≤ _; omega, by rw [dep_uni]; show max (Tr.ud (.bot)) 0 + 1 ≤ _; omega, by show Tr.sz (.bot) + 1 ≤ _; omega, by show max (Tr.ht (.bot)) 0 + 1 ≤ _; omega⟩
  tb_start
  refine T.itemT e (by decide) (by decide) rfl (by rfl) ?_
  tb_start
  refine T.ltI ?_
  tb_start
  refine T.itemT e (by decide) (by decide) rfl (by rfl) ?_
  tb_start
  refine T.itemT e (by decide) (by decide) rfl (by rfl) ?_
  tb_start
  refine T.itemT e (by decide) (by decide) rfl (by rfl) ?_
  tb_start
  refine T.itemT e (by decide) (by decide) rfl (by rfl) ?_
  tb_start
  refine T.itemT e (by decide) (by decide) rfl (by rfl) ?_
  tb_start
  refine T.newTupleE (by simp) fun b3 g3 l3 S3 => ?_
  tb_start
  refine T.inIT S3 (.cons 7 _ (.cons 8 _ .nil)) ?_
  tb_start
  exact ⟨ys, .head _, movSame (ht0.mono l3) hr⟩
theorem movVar0T {N room : Nat} {al bl R a : Addr} {xs : List Value}  (hroom : 6 ≤ room) (ih : MovOk prog w Z al bl room N) (ht0 : TrR g a (.var 0)) (hA : AbR g Z al bl) (hx : RestV xs) (hN : Tr.ht (.var 0) < N + 1) : PuL prog w (KP w.params) (room + 1) (call (.ref 678) [.ref R, .ref a, .bool true, .ref al, .ref bl]) R xs (MovQ (.var 0)) g := by
  have hkh := fun u hu => kids_ht (t := .var 0) (u := u) hN hu
  have ht := ht0
  cases ht with
  | @mk _ _ tk as e hok hks =>
  have e : Tup g a (.int 7 tk :: as.map .ref) := e
  refine Fn.defL (f := 678) (n := room) (binds := [("rest", .ref R), ("tree", .ref a), ("rises", .bool true), ("above", .ref al), ("bounds", .ref bl)]) rfl ⟨rfl, rfl, rfl, rfl, rfl, rfl, by kernel_rfl, by decide +kernel, by kernel_rfl⟩ rfl (fun s X => BindsTo.of_eq rfl) rfl fun c O W hS => ?_
  dsimp only [ofBinds, List.foldl_cons, List.foldl_nil] at hS ⊢
  tb_start
  refine T.puL (pre := []) O (draw (top := 7) (by decide) hx) (by omega) fun r ys g' _ ⟨how, t, q1, h0, h1, hr, q2⟩ => ?_
  subst q1 q2
  tb_start
  refine IfK.split (fun q => ?_) fun q => ?_
  · tb_start
    refine T.puL (pre := []) O (draw (top := 4) (by decide) hr) (by omega) fun r ys2 g2 _ ⟨j, t2, q1, j0, j1, hr2, q2⟩ => ?_
    subst q1 q2
    obtain ⟨i, rfl, hi⟩ := nat_of (k := 4) j0 j1
    tb_start
    refine T.newTupleE (by simp) fun b g3 l3 S => ?_
    tb_start
    exact ⟨ys2, .head _, movCls (.mk (as := []) S (decide_eq_true hi) .nil) hr2⟩
  tb_start
  refine IfK.split (fun q5 => ?_) fun q5 => ?_
  · tb_start
    refine T.puL (pre := []) O (draw (top := 4) (by decide) hr) (by omega) fun r ys2 g2 _ ⟨j, t2, q1, j0, j1, hr2, q2⟩ => ?_
    subst q1 q2
    obtain ⟨i, rfl, hi⟩ := nat_of (k := 4) j0 j1
    tb_start
    refine T.newTupleE (by simp) fun b g3 l3 S => ?_
    tb_start
    refine T.newTupleE (by simp) fun b2 g4 l4 S2 => ?_
    tb_start
    have z1 := ud_le_dep (.var 0)
    have z2 := sz_pos (.var 0)
    exact ⟨ys2, .head _, b2, .uni (.var 0) (.cls i), rfl, .mk (as := [a, b]) S2 rfl (.cons (ht0.mono (l3.trans l4)) (.cons (.mk (as := []) (S.mono l4) (decide_eq_true hi) .nil) .nil)), hr2, by show max (Tr.ud (.var 0)) 0 ≤ _; omega, by rw [dep_uni]; show max (Tr.ud (.var 0)) 0 + 1 ≤ _; omega, by show Tr.sz (.var 0) + 1 ≤ _; omega, by show max (Tr.ht (.var 0)) 0 + 1 ≤ _; omega⟩
  tb_start
  refine T.itemT e (by decide) (by decide) rfl (by rfl) ?_
  tb_start
  refine T.ltI ?_
  tb_start
  refine T.itemT e (by decide) (by decide) rfl (by rfl) ?_
  tb_start
  refine T.itemT e (by decide) (by decide) rfl (by rfl) ?_
  tb_start
  refine T.itemT e (by decide) (by decide) rfl (by rfl) ?_
  tb_start
  refine T.itemT e (by decide) (by decide) rfl (by rfl) ?_
  tb_start
  refine T.itemT e (by decide) (by decide) rfl (by rfl) ?_
  tb_start
  refine T.newTupleE (by simp) fun b3 g3 l3 S3 => ?_
  tb_start
  refine T.inIT S3 (.cons 7 _ (.cons 8 _ .nil)) ?_
  tb_start
  refine T.gtI ?_
  refine T.truthy_bool (IfK.split (fun q6 => ?_) fun q6 => ?_)
  · tb_start
    refine T.itemT (e.mono l3) (by decide) (by decide) rfl (by rfl) ?_
    tb_start
    refine T.subI fun t5 => ?_
    tb_start
    obtain ⟨u0, u1, hB⟩ := (hA.mono l3).b
    refine T.itemL (.inl hB) (by decide) (by decide) rfl (by rfl) ?_
    tb_start
    refine T.newTupleE (by simp) fun b4 g4 l4 S4 => ?_
    tb_start
    exact ⟨ys, .head _, movCls (.mk (as := []) S4 (decide_eq_true (hA.lt 0 (by decide))) .nil) hr⟩
  · tb_start
    exact ⟨ys, .head _, movSame (ht0.mono l3) hr⟩
theorem movVar1T {N room : Nat} {al bl R a : Addr} {xs : List Value}  (hroom : 6 ≤ room) (ih : MovOk prog w Z al bl room N) (ht0 : TrR g a (.var 1)) (hA : AbR g Z al bl) (hx : RestV xs) (hN : Tr.ht (.var 1) < N + 1) : PuL prog w (KP w.params) (room + 1) (call (.ref 678) [.ref R, .ref a, .bool true, .ref al, .ref bl]) R xs (MovQ (.var 1)) g := by
  have hkh := fun u hu => kids_ht (t := .var 1) (u := u) hN hu
  have ht := ht0
  cases ht with
  | @mk _ _ tk as e hok hks =>
  have e : Tup g a (.int 8 tk :: as.map .ref) := e
  refine Fn.defL (f := 678) (n := room) (binds := [("rest", .ref R), ("tree", .ref a), ("rises", .bool true), ("above", .ref al), ("bounds", .ref bl)]) rfl ⟨rfl, rfl, rfl, rfl, rfl, rfl, by kernel_rfl, by decide +kernel, by kernel_rfl⟩ rfl (fun s X => BindsTo.of_eq rfl) rfl fun c O W hS => ?_
  dsimp only [ofBinds, List.foldl_cons, List.foldl_nil] at hS ⊢
  tb_start
  refine T.puL (pre := []) O (draw (top := 7) (by decide) hx) (by omega) fun r ys g' _ ⟨how, t, q1, h0, h1, hr, q2⟩ => ?_
  subst q1 q2
  tb_start
  refine IfK.split (fun q => ?_) fun q => ?_
  · tb_start
    refine T.puL (pre := []) O (draw (top := 4) (by decide) hr) (by omega) fun r ys2 g2 _ ⟨j, t2, q1, j0, j1, hr2, q2⟩ => ?_
    subst q1 q2
    obtain ⟨i, rfl, hi⟩ := nat_of (k := 4) j0 j1
    tb_start
    refine T.newTupleE (by simp) fun b g3 l3 S => ?_
    tb_start
    exact ⟨ys2, .head _, movCls (.mk (as := []) S (decide_eq_true hi) .nil) hr2⟩
  tb_start
  refine IfK.split (fun q5 => ?_) fun q5 => ?_
  · tb_start
    refine T.puL (pre := []) O (draw (top := 4) (by decide) hr) (by omega) fun r ys2 g2 _ ⟨j, t2, q1, j0, j1, hr2, q2⟩ => ?_
    subst q1 q2
    obtain ⟨i, rfl, hi⟩ := nat_of (k := 4) j0 j1
    tb_start
    refine T.newTupleE (by simp) fun b g3 l3 S => ?_
    tb_start
    refine T.newTupleE (by simp) fun b2 g4 l4 S2 => ?_
    tb_start
    have z1 := ud_le_dep (.var 1)
    have z2 := sz_pos (.var 1)
    exact ⟨ys2, .head _, b2, .uni (.var 1) (.cls i), rfl, .mk (as := [a, b]) S2 rfl (.cons (ht0.mono (l3.trans l4)) (.cons (.mk (as := []) (S.mono l4) (decide_eq_true hi) .nil) .nil)), hr2, by show max (Tr.ud (.var 1)) 0 ≤ _; omega, by rw [dep_uni]; show max (Tr.ud (.var 1)) 0 + 1 ≤ _; omega, by show Tr.sz (.var 1) + 1 ≤ _; omega, by show max (Tr.ht (.var 1)) 0 + 1 ≤ _; omega⟩
  tb_start
  refine T.itemT e (by decide) (by decide) rfl (by rfl) ?_
  tb_start
  refine T.ltI ?_
  tb_start
  refine T.itemT e (by decide) (by decide) rfl (by rfl) ?_
  tb_start
  refine T.itemT e (by decide) (by decide) rfl (by rfl) ?_
  tb_start
  refine T.itemT e (by decide) (by decide) rfl (by rfl) ?_
  tb_start
  refine T.itemT e (by decide) (by decide) rfl (by rfl) ?_
  tb_start
  refine T.itemT e (by decide) (by decide) rfl (by rfl) ?_
  tb_start
  refine T.newTupleE (by simp) fun b3 g3 l3 S3 => ?_
  tb_start
  refine T.inIT S3 (.cons 7 _ (.cons 8 _ .nil)) ?_
  tb_start
  refine T.gtI ?_
  refine T.truthy_bool (IfK.split (fun q6 => ?_) fun q6 => ?_)
  · tb_start
    refine T.itemT (e.mono l3) (by decide) (by decide) rfl (by rfl) ?_
    tb_start
    refine T.subI fun t5 => ?_
    tb_start
    obtain ⟨u0, u1, hB⟩ := (hA.mono l3).b
    refine T.itemL (.inl hB) (by decide) (by decide) rfl (by rfl) ?_
    tb_start
    refine T.newTupleE (by simp) fun b4 g4 l4 S4 => ?_
    tb_start
    exact ⟨ys, .head _, movCls (.mk (as := []) S4 (decide_eq_true (hA.lt 1 (by decide))) .nil) hr⟩
  · tb_start
    exact ⟨ys, .head _, movSame (ht0.mono l3) hr⟩
theorem movUniT {N room : Nat} {al bl R a : Addr} {xs : List Value} {p r0 : Tr} (hroom : 6 ≤ room) (ih : MovOk prog w Z al bl room N) (ht0 : TrR g a (.uni p r0)) (hA : AbR g Z al bl) (hx : RestV xs) (hN : Tr.ht (.uni p r0) < N + 1) : PuL prog w (KP w.params) (room + 1) (call (.ref 678) [.ref R, .ref a, .bool true, .ref al, .ref bl]) R xs (MovQ (.uni p r0)) g := by
  have hkh := fun u hu => kids_ht (t := .uni p r0) (u := u) hN hu
  have ht := ht0
  cases ht with
  | @mk _ _ tk as e hok hks =>
  have e : Tup g a (.int 11 tk :: as.map .ref) := e
  have hks : TrsR g as [p, r0] := hks
  have hal : as.length = ([p, r0] : List Tr).length := hks.length
  simp only [List.length_cons, List.length_nil] at hal
  refine Fn.defL (f := 678) (n := room) (binds := [("rest", .ref R), ("tree", .ref a), ("rises", .bool true), ("above", .ref al), ("bounds", .ref bl)]) rfl ⟨rfl, rfl, rfl, rfl, rfl, rfl, by kernel_rfl, by decide +kernel, by kernel_rfl⟩ rfl (fun s X => BindsTo.of_eq rfl) rfl fun c O W hS => ?_
  dsimp only [ofBinds, List.foldl_cons, List.foldl_nil] at hS ⊢
  tb_start
  refine T.puL (pre := []) O (draw (top := 7) (by decide) hx) (by omega) fun r ys g' _ ⟨how, t, q1, h0, h1, hr, q2⟩ => ?_
  subst q1 q2
  tb_start
  refine IfK.split (fun q => ?_) fun q => ?_
  · tb_start
    refine T.puL (pre := []) O (draw (top := 4) (by decide) hr) (by omega) fun r ys2 g2 _ ⟨j, t2, q1, j0, j1, hr2, q2⟩ => ?_
    subst q1 q2
    obtain ⟨i, rfl, hi⟩ := nat_of (k := 4) j0 j1
    tb_start
    refine T.newTupleE (by simp) fun b g3 l3 S => ?_
    tb_start
    exact ⟨ys2, .head _, movCls (.mk (as := []) S (decide_eq_true hi) .nil) hr2⟩
  tb_start
  refine IfK.split (fun q5 => ?_) fun q5 => ?_
  · tb_start
    refine T.puL (pre := []) O (draw (top := 4) (by decide) hr) (by omega) fun r ys2 g2 _ ⟨j, t2, q1, j0, j1, hr2, q2⟩ => ?_
    subst q1 q2
    obtain ⟨i, rfl, hi⟩ := nat_of (k := 4) j0 j1
    tb_start
    refine T.newTupleE (by simp) fun b g3 l3 S => ?_
    tb_start
    refine T.newTupleE (by simp) fun b2 g4 l4 S2 => ?_
    tb_start
    have z1 := ud_le_dep (.uni p r0)
    have z2 := sz_pos (.uni p r0)
    exact ⟨ys2, .head _, b2, .uni (.uni p r0) (.cls i), rfl, .mk (as := [a, b]) S2 rfl (.cons (ht0.mono (l3.trans l4)) (.cons (.mk (as := []) (S.mono l4) (decide_eq_true hi) .nil) .nil)), hr2, by show max (Tr.ud (.uni p r0)) 0 ≤ _; omega, by rw [dep_uni]; show max (Tr.ud (.uni p r0)) 0 + 1 ≤ _; omega, by show Tr.sz (.uni p r0) + 1 ≤ _; omega, by show max (Tr.ht (.uni p r0)) 0 + 1 ≤ _; omega⟩
  tb_start
  refine T.itemT e (by decide) (by decide) rfl (by rfl) ?_
  tb_start
  refine T.ltI ?_
  tb_start
  refine T.itemT e (by decide) (by decide) rfl (by rfl) ?_
  tb_start
  refine T.itemT e (by decide) (by decide) rfl (by rfl) ?_
  tb_start
  refine T.itemT e (by decide) (by decide) rfl (by rfl) ?_
  tb_start
  refine T.itemT e (by decide) (by decide) rfl (by rfl) ?_
  tb_start
  refine T.newTupleE (by simp) fun b8 g2 l2 S8 => ?_
  tb_start
  have e2 := e.mono l2
  refine T.lc O hS (by kernel_rfl) (by kernel_rfl) (fun _ => rfl) ?_
  tb_start
  refine T.slice ?_
  tb_start
  refine ⟨_, _, rfl, fun sl0 => ?_⟩
  refine T.sliceTE (i := 1) e2 (by simp; omega) (Nat.le_refl _) (by simp) (by rfl) fun L1 g3 l3 S1 => ?_
  have l03 := l2.trans l3
  refine Seqs.tuple O S1 (LcK.mapJ (fun M1 => ∃ ys, M1 = [(R, .list ys)] ∧ RestV ys) (fun i y g' => ∃ u a t', [p, r0][i]? = some u ∧ y = .ref a ∧ TrR g' a t' ∧ MovB u t') (fun i y g1 g2 l ⟨u, a, t', e1, e2, e3, e4⟩ => ⟨u, a, t', e1, e2, e3.mono l, e4⟩) ⟨_, rfl, hr⟩ (by kernel_rfl) (by simp; omega) ?_ ?_)
  · rintro D' c' O' hS' i v g' ρ' acc M1 hi hv l hρ ⟨ys1, rfl, hr1⟩
    obtain ⟨b, hb', rfl⟩ := refs_get (as := as) hv
    obtain ⟨u, et, htr⟩ := hks.get hb'
    have htm := List.mem_of_getElem? et
    have l0 := l03.trans l
    have q1 : ρ' "rest" = some (.ref R) := (hρ "rest" (by kernel_rfl)).trans (by k_subL)
    have q2 : ρ' "rises" = some (.bool true) := (hρ "rises" (by kernel_rfl)).trans (by k_subL)
    have q3 : ρ' "above" = some (.ref al) := (hρ "above" (by kernel_rfl)).trans (by k_subL)
    have q4 : ρ' "bounds" = some (.ref bl) := (hρ "bounds" (by kernel_rfl)).trans (by k_subL)
    tb_start
    refine T.puL (pre := [(D', .list acc)]) O' (ih g' R b u true ys1 (htr.mono l0) (hA.mono l0) hr1 (hkh u htm)) (by omega) fun r ys2 g'' l' ⟨x, t', q1, q2, q3, q4⟩ => ?_
    exact ⟨_, rfl, ⟨ys2, rfl, q3⟩, u, x, t', et, q1, q2, q4⟩
  · rintro D' ys g' M1 ⟨ys1, rfl, hr1⟩ l hlen hys
    obtain ⟨bs, us, rfl, rs, ms⟩ := gatherM (ts := [p, r0]) (by rw [hlen]; simp; omega) fun i y e => hys i y e
    have hbl := rs.length
    tb_start
    obtain ⟨p', q', rfl, mp, mq⟩ := movTwo ms
    refine T.tupleOf (.inr (.head _)) (by rw [List.length_map, hbl]; simp) fun b9 hb9 => ?_
    have l4 := Le.setG (m := .tup (bs.map Value.ref)) hb9
    tb_start
    refine T.addT (S8.mono (l3.trans (l.trans l4))) setG_self (by rw [List.length_map, hbl]; simp) (by simp) fun b10 g5 l5 S10 => ?_
    tb_start
    refine ⟨ys1, by first | exact .head _ | exact .tail _ (.head _), b10, .uni p' q', rfl, .mk (tk := tk) (as := bs) S10 rfl (rs.mono (l4.trans l5)), hr1, movUniB mp mq⟩
theorem movApp4F {N room : Nat} {al bl R a : Addr} {xs : List Value} {x : Tr} (hroom : 6 ≤ room) (ih : MovOk prog w Z al bl room N) (ht0 : TrR g a (.app 4 x)) (hA : AbR g Z al bl) (hx : RestV xs) (hN : Tr.ht (.app 4 x) < N + 1) : PuL prog w (KP w.params) (room + 1) (call (.ref 678) [.ref R, .ref a, .bool false, .ref al, .ref bl]) R xs (MovQ (.app 4 x)) g := by
  have hkh := fun u hu => kids_ht (t := .app 4 x) (u := u) hN hu
  have ht := ht0
  cases ht with
  | @mk _ _ tk as e hok hks =>
  have e : Tup g a (.int 4 tk :: as.map .ref) := e
  have hks : TrsR g as [x] := hks
  have hal : as.length = ([x] : List Tr).length := hks.length
  simp only [List.length_cons, List.length_nil] at hal
  refine Fn.defL (f := 678) (n := room) (binds := [("rest", .ref R), ("tree", .ref a), ("rises", .bool false), ("above", .ref al), ("bounds", .ref bl)]) rfl ⟨rfl, rfl, rfl, rfl, rfl, rfl, by kernel_rfl, by decide +kernel, by kernel_rfl⟩ rfl (fun s X => BindsTo.of_eq rfl) rfl fun c O W hS => ?_
  dsimp only [ofBinds, List.foldl_cons, List.foldl_nil] at hS ⊢
  tb_start
  refine T.puL (pre := []) O (draw (top := 7) (by decide) hx) (by omega) fun r ys g' _ ⟨how, t, q1, h0, h1, hr, q2⟩ => ?_
  subst q1 q2
  tb_start
  refine IfK.split (fun q => ?_) fun q => ?_
  · tb_start
    refine T.puL (pre := []) O (draw (top := 4) (by decide) hr) (by omega) fun r ys2 g2 _ ⟨j, t2, q1, j0, j1, hr2, q2⟩ => ?_
    subst q1 q2
    obtain ⟨i, rfl, hi⟩ := nat_of (k := 4) j0 j1
    tb_start
    refine T.newTupleE (by simp) fun b g3 l3 S => ?_
    tb_start
    exact ⟨ys2, .head _, movCls (.mk (as := []) S (decide_eq_true hi) .nil) hr2⟩
  tb_start
  refine IfK.share (fun _ k => ?_) ?_
  · iterate 5 tb_rel
    exact IfK.f (k.2 rfl)
  tb_start
  refine T.itemT e (by decide) (by decide) rfl (by rfl) ?_
  tb_start
  refine T.ltI ?_
  tb_start
  refine T.itemT e (by decide) (by decide) rfl (by rfl) ?_
  tb_start
  refine T.itemT e (by decide) (by decide) rfl (by rfl) ?_
  tb_start
  refine T.itemT e (by decide) (by decide) rfl (by rfl) ?_
  tb_start
  refine T.newTupleE (by simp) fun b8 g2 l2 S8 => ?_
  tb_start
  have e2 := e.mono l2
  refine T.lc O hS (by kernel_rfl) (by kernel_rfl) (fun _ => rfl) ?_
  tb_start
  refine T.slice ?_
  tb_start
  refine ⟨_, _, rfl, fun sl0 => ?_⟩
  refine T.sliceTE (i := 1) e2 (by simp; omega) (Nat.le_refl _) (by simp) (by rfl) fun L1 g3 l3 S1 => ?_
  have l03 := l2.trans l3
  refine Seqs.tuple O S1 (LcK.mapJ (fun M1 => ∃ ys, M1 = [(R, .list ys)] ∧ RestV ys) (fun i y g' => ∃ u a t', [x][i]? = some u ∧ y = .ref a ∧ TrR g' a t' ∧ MovB u t') (fun i y g1 g2 l ⟨u, a, t', e1, e2, e3, e4⟩ => ⟨u, a, t', e1, e2, e3.mono l, e4⟩) ⟨_, rfl, hr⟩ (by kernel_rfl) (by simp; omega) ?_ ?_)
  · rintro D' c' O' hS' i v g' ρ' acc M1 hi hv l hρ ⟨ys1, rfl, hr1⟩
    obtain ⟨b, hb', rfl⟩ := refs_get (as := as) hv
    obtain ⟨u, et, htr⟩ := hks.get hb'
    have htm := List.mem_of_getElem? et
    have l0 := l03.trans l
    have q1 : ρ' "rest" = some (.ref R) := (hρ "rest" (by kernel_rfl)).trans (by k_subL)
    have q2 : ρ' "rises" = some (.bool false) := (hρ "rises" (by kernel_rfl)).trans (by k_subL)
    have q3 : ρ' "above" = some (.ref al) := (hρ "above" (by kernel_rfl)).trans (by k_subL)
    have q4 : ρ' "bounds" = some (.ref bl) := (hρ "bounds" (by kernel_rfl)).trans (by k_subL)
    tb_start
    refine T.puL (pre := [(D', .list acc)]) O' (ih g' R b u false ys1 (htr.mono l0) (hA.mono l0) hr1 (hkh u htm)) (by omega) fun r ys2 g'' l' ⟨x, t', q1, q2, q3, q4⟩ => ?_
    exact ⟨_, rfl, ⟨ys2, rfl, q3⟩, u, x, t', et, q1, q2, q4⟩
  · rintro D' ys g' M1 ⟨ys1, rfl, hr1⟩ l hlen hys
    obtain ⟨bs, us, rfl, rs, ms⟩ := gatherM (ts := [x]) (by rw [hlen]; simp; omega) fun i y e => hys i y e
    have hbl := rs.length
    tb_start
    obtain ⟨x', rfl, mx⟩ := movOne ms
    refine T.tupleOf (.inr (.head _)) (by rw [List.length_map, hbl]; simp) fun b9 hb9 => ?_
    have l4 := Le.setG (m := .tup (bs.map Value.ref)) hb9
    tb_start
    refine T.addT (S8.mono (l3.trans (l.trans l4))) setG_self (by rw [List.length_map, hbl]; simp) (by simp) fun b10 g5 l5 S10 => ?_
    tb_start
    refine ⟨ys1, by first | exact .head _ | exact .tail _ (.head _), b10, .app 4 x', rfl, .mk (tk := tk) (as := bs) S10 rfl (rs.mono (l4.trans l5)), hr1, movAppB mx⟩
theorem movApp5F {N room : Nat} {al bl R a : Addr} {xs : List Value} {x : Tr} (hroom : 6 ≤ room) (ih : MovOk prog w Z al bl room N) (ht0 : TrR g a (.app 5 x)) (hA : AbR g Z al bl) (hx : RestV xs) (hN : Tr.ht (.app 5 x) < N + 1) : PuL prog w (KP w.params) (room + 1) (call (.ref 678) [.ref R, .ref a, .bool false, .ref al, .ref bl]) R xs (MovQ (.app 5 x)) g := by
  have hkh := fun u hu => kids_ht (t := .app 5 x) (u := u) hN hu
  have ht := ht0
  cases ht with
  | @mk _ _ tk as e hok hks =>
  have e : Tup g a (.int 5 tk :: as.map .ref) := e
  have hks : TrsR g as [x] := hks
  have hal : as.length = ([x] : List Tr).length := hks.length
  simp only [List.length_cons, List.length_nil] at hal
  refine Fn.defL (f := 678) (n := room) (binds := [("rest", .ref R), ("tree", .ref a), ("rises", .bool false), ("above", .ref al), ("bounds", .ref bl)]) rfl ⟨rfl, rfl, rfl, rfl, rfl, rfl, by kernel_rfl, by decide +kernel, by kernel_rfl⟩ rfl (fun s X => BindsTo.of_eq rfl) rfl fun c O W hS => ?_
  dsimp only [ofBinds, List.foldl_cons, List.foldl_nil] at hS ⊢
  tb_start
  refine T.puL (pre := []) O (draw (top := 7) (by decide) hx) (by omega) fun r ys g' _ ⟨how, t, q1, h0, h1, hr, q2⟩ => ?_
  subst q1 q2
  tb_start
  refine IfK.split (fun q => ?_) fun q => ?_
  · tb_start
    refine T.puL (pre := []) O (draw (top := 4) (by decide) hr) (by omega) fun r ys2 g2 _ ⟨j, t2, q1, j0, j1, hr2, q2⟩ => ?_
    subst q1 q2
    obtain ⟨i, rfl, hi⟩ := nat_of (k := 4) j0 j1
    tb_start
    refine T.newTupleE (by simp) fun b g3 l3 S => ?_
    tb_start
    exact ⟨ys2, .head _, movCls (.mk (as := []) S (decide_eq_true hi) .nil) hr2⟩
  tb_start
  refine IfK.share (fun _ k => ?_) ?_
  · iterate 5 tb_rel
    exact IfK.f (k.2 rfl)
  tb_start
  cases hks with
  | @cons x' _ as' _ hx' hnil =>
  cases hnil
  have e : Tup _ a [.int 5 tk, .ref x'] := e
  refine T.itemT e (by decide) (by decide) rfl (by rfl) ?_
  tb_start
  refine T.ltI ?_
  tb_start
  refine T.itemT e (by decide) (by decide) rfl (by rfl) ?_
  tb_start
  refine T.itemT e (by decide) (by decide) rfl (by rfl) ?_
  tb_start
  refine T.puL (pre := []) O (ih _ R x' x true ys hx' hA hr (hkh x (.head _))) (by omega) fun r ys2 g2 l2 ⟨y, t', q1, q2, q3, q4⟩ => ?_
  subst q1
  tb_start
  refine T.newTupleE (by simp) fun b3 g3 l3 S3 => ?_
  tb_start
  exact ⟨ys2, .head _, b3, .app 5 t', rfl, .mk (tk := _) (as := [y]) S3 rfl (.cons (q2.mono l3) .nil), q3, movAppB q4⟩
theorem movApp6F {N room : Nat} {al bl R a : Addr} {xs : List Value} {x : Tr} (hroom : 6 ≤ room) (ih : MovOk prog w Z al bl room N) (ht0 : TrR g a (.app 6 x)) (hA : AbR g Z al bl) (hx : RestV xs) (hN : Tr.ht (.app 6 x) < N + 1) : PuL prog w (KP w.params) (room + 1) (call (.ref 678) [.ref R, .ref a, .bool false, .ref al, .ref bl]) R xs (MovQ (.app 6 x)) g := by
  have hkh := fun u hu => kids_ht (t := .app 6 x) (u := u) hN hu
  have ht := ht0
  cases ht with
  | @mk _ _ tk as e hok hks =>
  have e : Tup g a (.int 6 tk :: as.map .ref) := e
  refine Fn.defL (f := 678) (n := room) (binds := [("rest", .ref R), ("tree", .ref a), ("rises", .bool false), ("above", .ref al), ("bounds", .ref bl)]) rfl ⟨rfl, rfl, rfl, rfl, rfl, rfl, by kernel_rfl, by decide +kernel, by kernel_rfl⟩ rfl (fun s X => BindsTo.of_eq rfl) rfl fun c O W hS => ?_
  dsimp only [ofBinds, List.foldl_cons, List.foldl_nil] at hS ⊢
  tb_start
  refine T.puL (pre := []) O (draw (top := 7) (by decide) hx) (by omega) fun r ys g' _ ⟨how, t, q1, h0, h1, hr, q2⟩ => ?_
  subst q1 q2
  tb_start
  refine IfK.split (fun q => ?_) fun q => ?_
  · tb_start
    refine T.puL (pre := []) O (draw (top := 4) (by decide) hr) (by omega) fun r ys2 g2 _ ⟨j, t2, q1, j0, j1, hr2, q2⟩ => ?_
    subst q1 q2
    obtain ⟨i, rfl, hi⟩ := nat_of (k := 4) j0 j1
    tb_start
    refine T.newTupleE (by simp) fun b g3 l3 S => ?_
    tb_start
    exact ⟨ys2, .head _, movCls (.mk (as := []) S (decide_eq_true hi) .nil) hr2⟩
  tb_start
  refine IfK.share (fun _ k => ?_) ?_
  · iterate 5 tb_rel
    exact IfK.f (k.2 rfl)
  tb_start
  refine T.itemT e (by decide) (by decide) rfl (by rfl) ?_
  tb_start
  refine T.ltI ?_
  tb_start
  refine T.itemT e (by decide) (by decide) rfl (by rfl) ?_
  tb_start
  refine T.itemT e (by decide) (by decide) rfl (by rfl) ?_
  tb_start
  refine T.itemT e (by decide) (by decide) rfl (by rfl) ?_
  tb_start
  refine T.itemT e (by decide) (by decide) rfl (by rfl) ?_
  tb_start
  refine T.itemT e (by decide) (by decide) rfl (by rfl) ?_
  tb_start
  refine T.newTupleE (by simp) fun b3 g3 l3 S3 => ?_
  tb_start
  refine T.inIT S3 (.cons 7 _ (.cons 8 _ .nil)) ?_
  tb_start
  exact ⟨ys, .head _, movSame (ht0.mono l3) hr⟩
theorem movNoneF {N room : Nat} {al bl R a : Addr} {xs : List Value}  (hroom : 6 ≤ room) (ih : MovOk prog w Z al bl room N) (ht0 : TrR g a (.none)) (hA : AbR g Z al bl) (hx : RestV xs) (hN : Tr.ht (.none) < N + 1) : PuL prog w (KP w.params) (room + 1) (call (.ref 678) [.ref R, .ref a, .bool false, .ref al, .ref bl]) R xs (MovQ (.none)) g := by
  have hkh := fun u hu => kids_ht (t := .none) (u := u) hN hu
  have ht := ht0
  cases ht with
  | @mk _ _ tk as e hok hks =>
  have e : Tup g a (.int 9 tk :: as.map .ref) := e
  refine Fn.defL (f := 678) (n := room) (binds := [("rest", .ref R), ("tree", .ref a), ("rises", .bool false), ("above", .ref al), ("bounds", .ref bl)]) rfl ⟨rfl, rfl, rfl, rfl, rfl, rfl, by kernel_rfl, by decide +kernel, by kernel_rfl⟩ rfl (fun s X => BindsTo.of_eq rfl) rfl fun c O W hS => ?_
  dsimp only [ofBinds, List.foldl_cons, List.foldl_nil] at hS ⊢
  tb_start
  refine T.puL (pre := []) O (draw (top := 7) (by decide) hx) (by omega) fun r ys g' _ ⟨how, t, q1, h0, h1, hr, q2⟩ => ?_
  subst q1 q2
  tb_start
  refine IfK.split (fun q => ?_) fun q => ?_
  · tb_start
    refine T.puL (pre := []) O (draw (top := 4) (by decide) hr) (by omega) fun r ys2 g2 _ ⟨j, t2, q1, j0, j1, hr2, q2⟩ => ?_
    subst q1 q2
    obtain ⟨i, rfl, hi⟩ := nat_of (k := 4) j0 j1
    tb_start
    refine T.newTupleE (by simp) fun b g3 l3 S => ?_
    tb_start
    exact ⟨ys2, .head _, movCls (.mk (as := []) S (decide_eq_true hi) .nil) hr2⟩
  tb_start
  refine IfK.share (fun _ k => ?_) ?_
  · iterate 5 tb_rel
    exact IfK.f (k.2 rfl)
  tb_start
  refine T.itemT e (by decide) (by decide) rfl (by rfl) ?_
  tb_start
  refine T.ltI ?_
  tb_start
  refine T.itemT e (by decide) (by decide) rfl (by rfl) ?_
  tb_start
  refine T.itemT e (by decide) (by decide) rfl (by rfl) ?_
  tb_start
  refine T.itemT e (by decide) (by decide) rfl (by rfl) ?_
  tb_start
  refine T.itemT e (by decide) (by decide) rfl (by rfl) ?_
  tb_start
  refine T.itemT e (by decide) (by decide) rfl (by rfl) ?_
  tb_start
  refine T.newTupleE (by simp) fun b3 g3 l3 S3 => ?_
  tb_start
  refine T.inIT S3 (.cons 7 _ (.cons 8 _ .nil)) ?_
  tb_start
  exact ⟨ys, .head _, movSame (ht0.mono l3) hr⟩
theorem movBotF {N room : Nat} {al bl R a : Addr} {xs : List Value}  (hroom : 6 ≤ room) (ih : MovOk prog w Z al bl room N) (ht0 : TrR g a (.bot)) (hA : AbR g Z al bl) (hx : RestV xs) (hN : Tr.ht (.bot) < N + 1) : PuL prog w (KP w.params) (room + 1) (call (.ref 678) [.ref R, .ref a, .bool false, .ref al, .ref bl]) R xs (MovQ (.bot)) g := by
  have hkh := fun u hu => kids_ht (t := .bot) (u := u) hN hu
  have ht := ht0
  cases ht with
  | @mk _ _ tk as e hok hks =>
  have e : Tup g a (.int 10 tk :: as.map .ref) := e
  refine Fn.defL (f := 678) (n := room) (binds := [("rest", .ref R), ("tree", .ref a), ("rises", .bool false), ("above", .ref al), ("bounds", .ref bl)]) rfl ⟨rfl, rfl, rfl, rfl, rfl, rfl, by kernel_rfl, by decide +kernel, by kernel_rfl⟩ rfl (fun s X => BindsTo.of_eq rfl) rfl fun c O W hS => ?_
  dsimp only [ofBinds, List.foldl_cons, List.foldl_nil] at hS ⊢
  tb_start
  refine T.puL (pre := []) O (draw (top := 7) (by decide) hx) (by omega) fun r ys g' _ ⟨how, t, q1, h0, h1, hr, q2⟩ => ?_
  subst q1 q2
  tb_start
  refine IfK.split (fun q => ?_) fun q => ?_
  · tb_start
    refine T.puL (pre := []) O (draw (top := 4) (by decide) hr) (by omega) fun r ys2 g2 _ ⟨j, t2, q1, j0, j1, hr2, q2⟩ => ?_
    subst q1 q2
    obtain ⟨i, rfl, hi⟩ := nat_of (k := 4) j0 j1
    tb_start
    refine T.newTupleE (by simp) fun b g3 l3 S => ?_
    tb_start
    exact ⟨ys2, .head _, movCls (.mk (as := []) S (decide_eq_true hi) .nil) hr2⟩
  tb_start
  refine IfK.share (fun _ k => ?_) ?_
  · iterate 5 tb_rel
    exact IfK.f (k.2 rfl)
  tb_start
  refine T.itemT e (by decide) (by decide) rfl (by rfl) ?_
  tb_start
  refine T.ltI ?_
  tb_start
  refine T.itemT e (by decide) (by decide) rfl (by rfl) ?_
  tb_start
  refine T.itemT e (by decide) (by decide) rfl (by rfl) ?_
  tb_start
  refine T.itemT e (by decide) (by decide) rfl (by rfl) ?_
  tb_start
  refine T.itemT e (by decide) (by decide) rfl (by rfl) ?_
  tb_start
  refine T.itemT e (by decide) (by decide) rfl (by rfl) ?_
  tb_start
  refine T.newTupleE (by simp) fun b3 g3 l3 S3 => ?_
  tb_start
  refine T.inIT S3 (.cons 7 _ (.cons 8 _ .nil)) ?_
  tb_start
  exact ⟨ys, .head _, movSame (ht0.mono l3) hr⟩
theorem movVar0F {N room : Nat} {al bl R a : Addr} {xs : List Value}  (hroom : 6 ≤ room) (ih : MovOk prog w Z al bl room N) (ht0 : TrR g a (.var 0)) (hA : AbR g Z al bl) (hx : RestV xs) (hN : Tr.ht (.var 0) < N + 1) : PuL prog w (KP w.params) (room + 1) (call (.ref 678) [.ref R, .ref a, .bool false, .ref al, .ref bl]) R xs (MovQ (.var 0)) g := by
  have hkh := fun u hu => kids_ht (t := .var 0) (u := u) hN hu
  have ht := ht0
  cases ht with
  | @mk _ _ tk as e hok hks =>
  have e : Tup g a (.int 7 tk :: as.map .ref) := e
  refine Fn.defL (f := 678) (n := room) (binds := [("rest", .ref R), ("tree", .ref a), ("rises", .bool false), ("above", .ref al), ("bounds", .ref bl)]) rfl ⟨rfl, rfl, rfl, rfl, rfl, rfl, by kernel_rfl, by decide +kernel, by kernel_rfl⟩ rfl (fun s X => BindsTo.of_eq rfl) rfl fun c O W hS => ?_
  dsimp only [ofBinds, List.foldl_cons, List.foldl_nil] at hS ⊢
  tb_start
  refine T.puL (pre := []) O (draw (top := 7) (by decide) hx) (by omega) fun r ys g' _ ⟨how, t, q1, h0, h1, hr, q2⟩ => ?_
  subst q1 q2
  tb_start
  refine IfK.split (fun q => ?_) fun q => ?_
  · tb_start
    refine T.puL (pre := []) O (draw (top := 4) (by decide) hr) (by omega) fun r ys2 g2 _ ⟨j, t2, q1, j0, j1, hr2, q2⟩ => ?_
    subst q1 q2
    obtain ⟨i, rfl, hi⟩ := nat_of (k := 4) j0 j1
    tb_start
    refine T.newTupleE (by simp) fun b g3 l3 S => ?_
    tb_start
    exact ⟨ys2, .head _, movCls (.mk (as := []) S (decide_eq_true hi) .nil) hr2⟩
  tb_start
  refine IfK.share (fun _ k => ?_) ?_
  · iterate 5 tb_rel
    exact IfK.f (k.2 rfl)
  tb_start
  refine T.itemT e (by decide) (by decide) rfl (by rfl) ?_
  tb_start
  refine T.ltI ?_
  tb_start
  refine T.itemT e (by decide) (by decide) rfl (by rfl) ?_
  tb_start
  refine T.itemT e (by decide) (by decide) rfl (by rfl) ?_
  tb_start
  refine T.itemT e (by decide) (by decide) rfl (by rfl) ?_
  tb_start
  refine T.itemT e (by decide) (by decide) rfl (by rfl) ?_
  tb_start
  refine T.itemT e (by decide) (by decide) rfl (by rfl) ?_
  tb_start
  refine T.newTupleE (by simp) fun b3 g3 l3 S3 => ?_
  tb_start
  refine T.inIT S3 (.cons 7 _ (.cons 8 _ .nil)) ?_
  tb_start
  exact ⟨ys, .head _, movSame (ht0.mono l3) hr⟩
theorem movVar1F {N room : Nat} {al bl R a : Addr} {xs : List Value}  (hroom : 6 ≤ room) (ih : MovOk prog w Z al bl room N) (ht0 : TrR g a (.var 1)) (hA : AbR g Z al bl) (hx : RestV xs) (hN : Tr.ht (.var 1) < N + 1) : PuL prog w (KP w.params) (room + 1) (call (.ref 678) [.ref R, .ref a, .bool false, .ref al, .ref bl]) R xs (MovQ (.var 1)) g := by
  have hkh := fun u hu => kids_ht (t := .var 1) (u := u) hN hu
  have ht := ht0
  cases ht with
  | @mk _ _ tk as e hok hks =>
  have e : Tup g a (.int 8 tk :: as.map .ref) := e
  refine Fn.defL (f := 678) (n := room) (binds := [("rest", .ref R), ("tree", .ref a), ("rises", .bool false), ("above", .ref al), ("bounds", .ref bl)]) rfl ⟨rfl, rfl, rfl, rfl, rfl, rfl, by kernel_rfl, by decide +kernel, by kernel_rfl⟩ rfl (fun s X => BindsTo.of_eq rfl) rfl fun c O W hS => ?_
  dsimp only [ofBinds, List.foldl_cons, List.foldl_nil] at hS ⊢
  tb_start
  refine T.puL (pre := []) O (draw (top := 7) (by decide) hx) (by omega) fun r ys g' _ ⟨how, t, q1, h0, h1, hr, q2⟩ => ?_
  subst q1 q2
  tb_start
  refine IfK.split (fun q => ?_) fun q => ?_
  · tb_start
    refine T.puL (pre := []) O (draw (top := 4) (by decide) hr) (by omega) fun r ys2 g2 _ ⟨j, t2, q1, j0, j1, hr2, q2⟩ => ?_
    subst q1 q2
    obtain ⟨i, rfl, hi⟩ := nat_of (k := 4) j0 j1
    tb_start
    refine T.newTupleE (by simp) fun b g3 l3 S => ?_
    tb_start
    exact ⟨ys2, .head _, movCls (.mk (as := []) S (decide_eq_true hi) .nil) hr2⟩
  tb_start
  refine IfK.share (fun _ k => ?_) ?_
  · iterate 5 tb_rel
    exact IfK.f (k.2 rfl)
  tb_start
  refine T.itemT e (by decide) (by decide) rfl (by rfl) ?_
  tb_start
  refine T.ltI ?_
  tb_start
  refine T.itemT e (by decide) (by decide) rfl (by rfl) ?_
  tb_start
  refine T.itemT e (by decide) (by decide) rfl (by rfl) ?_
  tb_start
  refine T.itemT e (by decide) (by decide) rfl (by rfl) ?_
  tb_start
  refine T.itemT e (by decide) (by decide) rfl (by rfl) ?_
  tb_start
  refine T.itemT e (by decide) (by decide) rfl (by rfl) ?_
  tb_start
  refine T.newTupleE (by simp) fun b3 g3 l3 S3 => ?_
  tb_start
  refine T.inIT S3 (.cons 7 _ (.cons 8 _ .nil)) ?_
  tb_start
  exact ⟨ys, .head _, movSame (ht0.mono l3) hr⟩
theorem movUniF {N room : Nat} {al bl R a : Addr} {xs : List Value} {p r0 : Tr} (hroom : 6 ≤ room) (ih : MovOk prog w Z al bl room N) (ht0 : TrR g a (.uni p r0)) (hA : AbR g Z al bl) (hx : RestV xs) (hN : Tr.ht (.uni p r0) < N + 1) : PuL prog w (KP w.params) (room + 1) (call (.ref 678) [.ref R, .ref a, .bool false, .ref al, .ref bl]) R xs (MovQ (.uni p r0)) g := by
  have hkh := fun u hu => kids_ht (t := .uni p r0) (u := u) hN hu
  have ht := ht0
  cases ht with
  | @mk _ _ tk as e hok hks =>
  have e : Tup g a (.int 11 tk :: as.map .ref) := e
  have hks : TrsR g as [p, r0] := hks
  have hal : as.length = ([p, r0] : List Tr).length := hks.length
  simp only [List.length_cons, List.length_nil] at hal
  refine Fn.defL (f := 678) (n := room) (binds := [("rest", .ref R), ("tree", .ref a), ("rises", .bool false), ("above", .ref al), ("bounds", .ref bl)]) rfl ⟨rfl, rfl, rfl, rfl, rfl, rfl, by kernel_rfl, by decide +kernel, by kernel_rfl⟩ rfl (fun s X => BindsTo.of_eq rfl) rfl fun c O W hS => ?_
  dsimp only [ofBinds, List.foldl_cons, List.foldl_nil] at hS ⊢
  tb_start
  refine T.puL (pre := []) O (draw (top := 7) (by decide) hx) (by omega) fun r ys g' _ ⟨how, t, q1, h0, h1, hr, q2⟩ => ?_
  subst q1 q2
  tb_start
  refine IfK.split (fun q => ?_) fun q => ?_
  · tb_start
    refine T.puL (pre := []) O (draw (top := 4) (by decide) hr) (by omega) fun r ys2 g2 _ ⟨j, t2, q1, j0, j1, hr2, q2⟩ => ?_
    subst q1 q2
    obtain ⟨i, rfl, hi⟩ := nat_of (k := 4) j0 j1
    tb_start
    refine T.newTupleE (by simp) fun b g3 l3 S => ?_
    tb_start
    exact ⟨ys2, .head _, movCls (.mk (as := []) S (decide_eq_true hi) .nil) hr2⟩
  tb_start
  refine IfK.share (fun _ k => ?_) ?_
  · iterate 5 tb_rel
    exact IfK.f (k.2 rfl)
  tb_start
  cases hks with
  | @cons x' _ as' _ hx' hnil =>
  cases hnil with
  | @cons y' _ as' _ hy' hnil =>
  cases hnil
  have e : Tup _ a [.int 11 tk, .ref x', .ref y'] := e
  refine T.itemT e (by decide) (by decide) rfl (by rfl) ?_
  tb_start
  refine T.ltI ?_
  tb_start
  refine T.itemT e (by decide) (by decide) rfl (by rfl) ?_
  tb_start
  refine T.itemT e (by decide) (by decide) rfl (by rfl) ?_
  tb_start
  refine T.itemT e (by decide) (by decide) rfl (by rfl) ?_
  tb_start
  refine T.itemT e (by decide) (by decide) rfl (by rfl) ?_
  tb_start
  refine T.modI (by decide) fun t5 => ?_
  have hk2 := fmod_lt (i := how) (top := 2) (by decide)
  generalize how.fmod 2 = k2 at hk2
  have hk3 : k2 = 0 ∨ k2 = 1 := by omega
  rcases hk3 with rfl | rfl
  · tb_start
    refine T.itemT e (by decide) (by decide) rfl (by rfl) ?_
    tb_start
    refine T.puL (pre := []) O (ih _ R x' p false ys hx' hA hr (hkh p (.head _))) (by omega) fun r ys2 g2 l2 q4 => ?_
    tb_start
    exact ⟨ys2, .head _, movPart (.inl q4)⟩
  · tb_start
    refine T.itemT e (by decide) (by decide) rfl (by rfl) ?_
    tb_start
    refine T.puL (pre := []) O (ih _ R y' r0 false ys hy' hA hr (hkh r0 (.tail _ (.head _)))) (by omega) fun r ys2 g2 l2 q4 => ?_
    tb_start
    exact ⟨ys2, .head _, movPart (.inr q4)⟩
theorem lawMoved {al bl : Addr} : ∀ N, MovOk prog w Z al bl (N + 6) N
  | 0 => fun g R a t rises xs _ _ _ hN => absurd hN (Nat.not_lt_zero _)
  | N + 1 => fun g R a t rises xs ht hA hx hN => by
    have ih := lawMoved (al := al) (bl := bl) N
    have hok : t.ok = true := by cases ht with | mk _ hok _ => exact hok
    cases t with
    | cls k => cases rises with
      | true => exact movClsT (room := N + 6) (by omega) ih ht hA hx hN
      | false => exact movClsF (room := N + 6) (by omega) ih ht hA hx hN
    | none => cases rises with
      | true => exact movNoneT (room := N + 6) (by omega) ih ht hA hx hN
      | false => exact movNoneF (room := N + 6) (by omega) ih ht hA hx hN
    | bot => cases rises with
      | true => exact movBotT (room := N + 6) (by omega) ih ht hA hx hN
      | false => exact movBotF (room := N + 6) (by omega) ih ht hA hx hN
    | uni p q => cases rises with
      | true => exact movUniT (room := N + 6) (by omega) ih ht hA hx hN
      | false => exact movUniF (room := N + 6) (by omega) ih ht hA hx hN
    | var u =>
      have hu : u = 0 ∨ u = 1 := by have := of_decide_eq_true hok; omega
      rcases hu with rfl | rfl
      · cases rises with
        | true => exact movVar0T (room := N + 6) (by omega) ih ht hA hx hN
        | false => exact movVar0F (room := N + 6) (by omega) ih ht hA hx hN
      · cases rises with
        | true => exact movVar1T (room := N + 6) (by omega) ih ht hA hx hN
        | false => exact movVar1F (room := N + 6) (by omega) ih ht hA hx hN
    | app v x =>
      have hv : v = 4 ∨ v = 5 ∨ v = 6 := by have := of_decide_eq_true hok; omega
      rcases hv with rfl | rfl | rfl
      · cases rises with
        | true => exact movApp4T (room := N + 6) (by omega) ih ht hA hx hN
        | false => exact movApp4F (room := N + 6) (by omega) ih ht hA hx hN
      · cases rises with
        | true => exact movApp5T (room := N + 6) (by omega) ih ht hA hx hN
        | false => exact movApp5F (room := N + 6) (by omega) ih ht hA hx hN
      · cases rises with
        | true => exact movApp6T (room := N + 6) (by omega) ih ht hA hx hN
        | false => exact movApp6F (room := N + 6) (by omega) ih ht hA hx hN

end
section
variable {prog : Program} {w : World} {g : G} {n : Nat} {Z : Wm} {X : Wa}
/-- what stands once all is drawn -/
structure Fz (g : G) (Z : Wm) (X : Wa) (s t : Tr) (ch : Nat → Tr) (la ha il vl al bl cl : Addr) : Prop where
  W : Wk g Z X
  l : TrR g la s
  h : TrR g ha t
  I : InfR g X il vl
  A : AbR g Z al bl
  C : ChR g cl ch
  cok : ChOk Z ch
  hc : ∀ v l, l ∈ Z.up (Z.bnd v) → B Z (ch v) (.cls l) = true
  cht : ∀ v, v < 2 → (ch v).ht ≤ 1 ∧ (ch v).sz ≤ 2
  sd : s.dep ≤ 2 ∧ s.sz ≤ 4 ∧ s.ht ≤ 3
  td : t.dep ≤ 3 ∧ t.sz ≤ 8 ∧ t.ht ≤ 4
theorem Fz.mono {g g' : G} {s t : Tr} {ch : Nat → Tr} {la ha il vl al bl cl : Addr} (h : Fz g Z X s t ch la ha il vl al bl cl) (l : Le g g') : Fz g' Z X s t ch la ha il vl al bl cl :=
  ⟨h.W.mono l, h.l.mono l, h.h.mono l, h.I.mono l, h.A.mono l, h.C.mono l, h.cok, h.hc, h.cht, h.sd, h.td⟩
theorem put_ht {ch : Nat → Tr} (h : ∀ v, v < 2 → (ch v).ht ≤ 1) : ∀ {t : Tr}, t.val = true → (t.put ch).ht ≤ t.ht
  | .cls _, _ => Nat.le_refl _
  | .var v, k => h v (of_decide_eq_true k)
  | .none, _ => Nat.le_refl _
  | .bot, _ => Nat.le_refl _
  | .app v t, k => by
    rw [Tr.val, Bool.and_eq_true] at k
    exact Nat.succ_le_succ (put_ht h k.2)
  | .uni a b, k => by
    rw [Tr.val, Bool.and_eq_true] at k
    have h1 := put_ht h k.1
    have h2 := put_ht h k.2
    show max (a.put ch).ht (b.put ch).ht + 1 ≤ max a.ht b.ht + 1
    omega
set_option maxHeartbeats 4000000 in
theorem partE {oc : Value} {od : Option Addr} {fd : FuncData} {osl : Array (Option Value)} {body : List Stmt} (hK : (KP w.params).lookup 698 = some ⟨oc, od, .func fd, osl⟩) (hb : fd.body = .stmts body) {c : Cx} (O : c.Ok (KP w.params) 600) (W : c.Own) (hS : c.env.scope.names = fd.scope.names)
    {ρ : Str → Option Value} {M : Mem} {s t : Tr} {ch : Nat → Tr} {la ha il vl al bl cl : Addr} (F : Fz g Z X s t ch la ha il vl al bl cl)
    (r1 : ρ "low" = some (.ref la)) (r2 : ρ "high" = some (.ref ha)) (r3 : ρ "infos" = some (.ref il)) (r4 : ρ "variables" = some (.ref vl)) (r5 : ρ "above" = some (.ref al)) (r6 : ρ "bounds" = some (.ref bl)) (r7 : ρ "chosen" = some (.ref cl)) :
    T prog w c (execs (body.drop 14) c.env) (fun fl _ _ _ => retOf fl = .bool true) g ρ M := by
  cases hK
  cases hb
  dsimp only [List.drop] at hS ⊢
  have sd := F.sd
  have td := F.td
  tb_start
  refine T.pu O (lawType 4 g la s F.W F.l F.I (by omega) (by omega)) (by omega) fun r g1 l1 ⟨x, q1, hx⟩ => ?_
  subst q1
  have F1 := F.mono l1
  tb_start
  refine T.pu O (lawType 5 g1 ha t F1.W F1.h F1.I (by omega) (by omega)) (by omega) fun r g2 l2 ⟨y, q1, hy⟩ => ?_
  subst q1
  have F2 := F1.mono l2
  tb_start
  refine T.pu O (subAll 12 g2 x y s t F2.W (hx.mono l2) hy (by omega) (by omega) (by have := mu_le s; have := mu_le t; omega)).1 (by omega) fun r g3 l3 q1 => ?_
  subst q1
  have F3 := F2.mono l3
  tb_start
  refine T.pu O (lawBelow 8 (by omega) g3 la ha s t F3.l F3.h F3.A (by omega)) (by omega) fun r g4 l4 q1 => ?_
  subst q1
  have F4 := F3.mono l4
  tb_start
  refine T.neB ?_
  rw [beq_self_eq_true]
  iterate 4 tb_rel
  obtain ⟨nm0, tk0, d0, ub0, vl0, tt0, V0, hd0, hv0, hu0, hb0⟩ := F4.W.var 0 (by decide)
  obtain ⟨nm1, tk1, d1, ub1, vl1, tt1, V1, hd1, hv1, hu1, hb1⟩ := F4.W.var 1 (by decide)
  obtain ⟨c0, c1, hC, hc0, hc1⟩ := F4.C.ex
  have hne : d0 ≠ d1 := fun z => by subst z; have := hd0.inj hd1; omega
  have hcht := F.cht
  refine T.execs_cons (T.assign_dv1 O W hS (by kernel_rfl) (by kernel_rfl) (by kernel_rfl) (fun _ => rfl) ?_)
  tb_start
  refine T.newTupleE (by simp) fun b9 g9 l9 S9 => ?_
  refine Seqs.tuple O S9 ⟨(by show 2 ≤ 900; omega), fun D => ⟨fun i xs g' M' => M' = M ∧ (i = 0 → xs = []) ∧ (i = 1 → ∃ e0, xs = [(d0, 0, .ref e0)] ∧ TyR g' X e0 (ch 0)) ∧ (i = 2 → ∃ e0 e1, xs = [(d0, 0, .ref e0), (d1, 1, .ref e1)] ∧ TyR g' X e0 (ch 0) ∧ TyR g' X e1 (ch 1)), ⟨rfl, fun _ => rfl, (fun h => nomatch h), fun h => nomatch h⟩, ?_, ?_⟩⟩
  · rintro c' O' hS' i v g' ρ' xs M1 hi hv l' hρ ⟨rfl, i0, i1, _⟩
    have hi2 : i < 2 := hi
    have l49 := l9.trans l'
    have F9 := F4.mono l49
    have q1 : ρ' "variables" = some (.ref vl) := (hρ "variables" (by kernel_rfl)).trans (by k_subL)
    have q2 : ρ' "chosen" = some (.ref cl) := (hρ "chosen" (by kernel_rfl)).trans (by k_subL)
    have q3 : ρ' "infos" = some (.ref il) := (hρ "infos" (by kernel_rfl)).trans (by k_subL)
    have hi3 : i = 0 ∨ i = 1 := by omega
    rcases hi3 with rfl | rfl
    · have hv' : v = .int 0 _ := (Option.some.inj hv).symm
      subst hv'
      have e1 := i0 rfl
      subst e1
      have I0 := V0.mono l49
      refine T.assign_stored (T.stLocal O' (kind_of hS' (by kernel_rfl)) ?_)
      tb_start
      refine T.itemL (v := .ref (X.V 0)) (.inl F9.I.v) (by decide) (by decide) rfl (by rfl) ?_
      tb_start
      refine ⟨d0, rfl, ?_⟩
      tb_start
      refine T.itemL (v := .ref c0) (.inl (hC.mono l49)) (by decide) (by decide) rfl (by rfl) ?_
      tb_start
      refine T.pu O' (lawType 2 g' c0 (ch 0) F9.W (hc0.mono l49) F9.I (by have := hcht 0 (by decide); omega) (by have := hcht 0 (by decide); omega)) (by omega) fun r g5 l5 ⟨z, p1, p2⟩ => ?_
      subst p1
      exact ⟨M1, 0, rfl, (fun _ h => nomatch h), (hashTv ((hd0.mono l49).mono l5) (by decide) (by decide)).of_room (by omega), by decide, rfl, (fun h => nomatch h), fun _ => ⟨z, rfl, p2⟩, (fun h => nomatch h)⟩
    · have hv' : v = .int 1 _ := (Option.some.inj hv).symm
      subst hv'
      obtain ⟨e0, e1, hE0⟩ := i1 rfl
      subst e1
      have I1 := V1.mono l49
      refine T.assign_stored (T.stLocal O' (kind_of hS' (by kernel_rfl)) ?_)
      tb_start
      refine T.itemL (v := .ref (X.V 1)) (.inl F9.I.v) (by decide) (by decide) rfl (by rfl) ?_
      tb_start
      refine ⟨d1, rfl, ?_⟩
      tb_start
      refine T.itemL (v := .ref c1) (.inl (hC.mono l49)) (by decide) (by decide) rfl (by rfl) ?_
      tb_start
      refine T.pu O' (lawType 2 g' c1 (ch 1) F9.W (hc1.mono l49) F9.I (by have := hcht 1 (by decide); omega) (by have := hcht 1 (by decide); omega)) (by omega) fun r g5 l5 ⟨z, p1, p2⟩ => ?_
      subst p1
      exact ⟨M1, 1, rfl, fun x hx => by rw [List.mem_singleton.mp hx]; exact ⟨(by show (0 : Int) ≠ 1; decide), hne⟩, (hashTv ((hd1.mono l49).mono l5) (by decide) (by decide)).of_room (by omega), Nat.le_refl 1, rfl, (fun h => nomatch h), (fun h => nomatch h), fun _ => ⟨e0, z, rfl, hE0.mono l5, p2⟩⟩
  rintro xs g5 M1 l5 ⟨rfl, _, _, i2⟩
  obtain ⟨e0, e1, rfl, hE0, hE1⟩ := i2 rfl
  have l45 := l9.trans l5
  refine T.freeze0 fun hD => ?_
  have lD := Le.setG (m := .vd [(d0, 0, .ref e0), (d1, 1, .ref e1)]) hD
  have SD : setG g5 D (.vd [(d0, 0, .ref e0), (d1, 1, .ref e1)]) D = some (.vd [(d0, 0, .ref e0), (d1, 1, .ref e1)]) := setG_self
  have l46 := l45.trans lD
  have E6 : EnvD (setG g5 D (.vd [(d0, 0, .ref e0), (d1, 1, .ref e1)])) X D ch := ⟨⟨d0, d1, e0, e1, SD, hd0.mono l46, hd1.mono l46, ⟨_, _, _, _, _, V0.mono l46⟩, ⟨_, _, _, _, _, V1.mono l46⟩, hE0.mono lD, hE1.mono lD⟩⟩
  have F6 := F4.mono l46
  generalize setG g5 D (.vd [(d0, 0, .ref e0), (d1, 1, .ref e1)]) = g6 at E6 F6
  clear SD lD hD l46 l45
  have sv := F.l.val
  have tv := F.h.val
  have hp1 := put_ht (fun v h => (hcht v h).1) sv
  have hp2 := put_ht (fun v h => (hcht v h).1) tv
  tb_start
  refine T.pu O (lawType 4 g6 la s F6.W F6.l F6.I (by omega) (by omega)) (by omega) fun r g7 l7 ⟨x2, q1, hx2⟩ => ?_
  subst q1
  have F7 := F6.mono l7
  tb_start
  refine T.pu O (expandType F.cok F7.W hx2 (E6.mono l7) (by omega) (by omega)) (by omega) fun r g8 l8 ⟨x3, s', q1, hx3⟩ => ?_
  subst q1
  have F8 := F7.mono l8
  have E8 := E6.mono (l7.trans l8)
  tb_start
  refine T.pu O (lawType 5 g8 ha t F8.W F8.h F8.I (by omega) (by omega)) (by omega) fun r g10 l10 ⟨y2, q1, hy2⟩ => ?_
  subst q1
  have F10 := F8.mono l10
  tb_start
  refine T.pu O (expandType F.cok F10.W hy2 (E8.mono l10) (by omega) (by omega)) (by omega) fun r g11 l11 ⟨y3, t', q1, hy3⟩ => ?_
  subst q1
  have F11 := F10.mono l11
  tb_start
  have hsd := hx3.dep
  have htd := hy3.dep
  refine T.pu O (subAll 16 g11 x3 y3 s' t' F11.W (hx3.ty.mono (l10.trans l11)) hy3.ty (by omega) (by omega) (by have := mu_le s'; have := mu_le t'; omega)).1 (by omega) fun r g12 l12 q1 => ?_
  have heq : B Z s' t' = B Z (s.put ch) (t.put ch) := (hx3.eq.1 t').trans (hy3.eq.2 (s.put ch))
  rw [heq] at q1
  subst q1
  have F12 := F11.mono l12
  tb_start
  refine T.pu O (lawPut 4 g12 la s F12.l F12.C (by omega)) (by omega) fun r g13 l13 ⟨a1, q1, ha1⟩ => ?_
  subst q1
  have F13 := F12.mono l13
  tb_start
  refine T.pu O (lawPut 5 g13 ha t F13.h F13.C (by omega)) (by omega) fun r g14 l14 ⟨a2, q1, ha2⟩ => ?_
  subst q1
  have F14 := F13.mono l14
  tb_start
  refine T.pu O (lawBelow 8 (by omega) g14 a1 a2 (s.put ch) (t.put ch) (ha1.mono l14) ha2 F14.A (by omega)) (by omega) fun r g15 l15 q1 => ?_
  subst q1
  tb_start
  refine T.neB ?_
  rw [beq_self_eq_true]
  tb_start
  refine IfK.split (fun q => ?_) fun q => ?_
  · tb_start
    rw [q]
    rfl
  · tb_start
    have hb : B Z s t = false := by
      cases h : B Z s t with
      | false => rfl
      | true => rw [B_put F.hc _ s t (Nat.le_refl _) h] at q; cases q
    trace_state
    rw [hb]
    rfl

end
section
variable {prog : Program} {w : World} {g : G} {n : Nat} {Z : Wm} {X : Wa}
/-- a tree within a variable's bound -/
structure CvOk (Z : Wm) (v : Nat) (t : Tr) : Prop where
  ud : t.ud ≤ 1
  dep : t.dep ≤ 1
  cnt : t.leaves.length ≤ 2
  ht : t.ht ≤ 1
  sz : t.sz ≤ 2
  below : ∀ l, l ∈ Z.up (Z.bnd v) → B Z t (.cls l) = true
theorem cvCls {v k : Nat} (h : Z.bnd v ∈ Z.up k) : CvOk Z v (.cls k) := ⟨Nat.zero_le _, Nat.zero_le _, Nat.le_succ _, Nat.zero_le _, Nat.le_succ _, fun l hl => by rw [B, List.contains_iff_mem]; exact Z.trans l _ k h hl⟩
theorem cvBot {v : Nat} : CvOk Z v .bot := ⟨Nat.zero_le _, Nat.zero_le _, Nat.le_succ _, Nat.zero_le _, Nat.le_succ _, fun l hl => B_bot⟩
theorem cvTop {v : Nat} {t : Tr} (h : Z.bnd v = 0) (h1 : t.ud ≤ 1) (h2 : t.dep ≤ 1) (h3 : t.leaves.length ≤ 2) (h4 : t.ht ≤ 1) (h5 : t.sz ≤ 2) : CvOk Z v t := ⟨h1, h2, h3, h4, h5, fun l hl => by rw [h] at hl; rw [Z.only l hl]; exact B_top t⟩
def RowOk (g : G) (Z : Wm) (v : Nat) (ys : List Value) : Prop := ∀ y ∈ ys, ∃ a t, y = .ref a ∧ TrR g a t ∧ CvOk Z v t
theorem RowOk.mono {g g' : G} {v : Nat} {ys : List Value} (h : RowOk g Z v ys) (l : Le g g') : RowOk g' Z v ys := fun y hy => let ⟨a, t, e, b, c⟩ := h y hy; ⟨a, t, e, b.mono l, c⟩
theorem RowOk.app {v : Nat} {ys zs : List Value} (h : RowOk g Z v ys) (k : RowOk g Z v zs) : RowOk g Z v (ys ++ zs) := fun y hy => by
  rcases List.mem_append.mp hy with hy | hy
  · exact h y hy
  · exact k y hy
theorem RowOk.cons {v : Nat} {a : Addr} {t : Tr} {ys : List Value} (h : TrR g a t) (c : CvOk Z v t) (k : RowOk g Z v ys) : RowOk g Z v (.ref a :: ys) := fun y hy => by
  rcases List.mem_cons.mp hy with rfl | hy
  · exact ⟨a, t, rfl, h, c⟩
  · exact k y hy
theorem RowOk.nil {v : Nat} : RowOk g Z v [] := fun _ h => nomatch h
/-- where the law's names stand -/
structure Nm (ρ : Str → Option Value) (la ha il vl al bl cl R : Addr) : Prop where
  r1 : ρ "low" = some (.ref la)
  r2 : ρ "high" = some (.ref ha)
  r3 : ρ "infos" = some (.ref il)
  r4 : ρ "variables" = some (.ref vl)
  r5 : ρ "above" = some (.ref al)
  r6 : ρ "bounds" = some (.ref bl)
  r7 : ρ "chosen" = some (.ref cl)
  r8 : ρ "rest" = some (.ref R)
set_option maxHeartbeats 4000000 in
theorem partD {oc : Value} {od : Option Addr} {fd : FuncData} {osl : Array (Option Value)} {body : List Stmt} (hK : (KP w.params).lookup 698 = some ⟨oc, od, .func fd, osl⟩) (hb : fd.body = .stmts body) {c : Cx} (O : c.Ok (KP w.params) 600) (W : c.Own) (hS : c.env.scope.names = fd.scope.names)
    {ρ : Str → Option Value} {s t : Tr} {la ha il vl al bl R : Addr} {ys : List Value} (hW : Wk g Z X) (hl : TrR g la s) (hh : TrR g ha t) (hI : InfR g X il vl) (hA : AbR g Z al bl) (sd : s.dep ≤ 2 ∧ s.sz ≤ 4 ∧ s.ht ≤ 3) (td : t.dep ≤ 3 ∧ t.sz ≤ 8 ∧ t.ht ≤ 4) (hr : RestV ys)
    (r1 : ρ "low" = some (.ref la)) (r2 : ρ "high" = some (.ref ha)) (r3 : ρ "infos" = some (.ref il)) (r4 : ρ "variables" = some (.ref vl)) (r5 : ρ "above" = some (.ref al)) (r6 : ρ "bounds" = some (.ref bl)) (r8 : ρ "rest" = some (.ref R)) :
    T prog w c (execs (body.drop 12) c.env) (fun fl _ _ _ => retOf fl = .bool true) g ρ [(R, .list ys)] := by
  have hK0 := hK
  have hb0 := hb
  cases hK
  cases hb
  dsimp only [List.drop] at hS ⊢
  tb_start
  refine T.newList (by simp) fun CL => ?_
  tb_start
  refine T.for_ O W hS (fun _ => rfl) ?_
  tb_start
  refine T.newTupleE (by simp) fun b0 g0 l0 S0 => ?_
  refine Seqs.tuple O S0 ⟨fun j g' ρ' M' => Nm ρ' la ha il vl al bl CL R ∧ ∃ cs ys, M' = [(CL, .list cs), (R, .list ys)] ∧ RestV ys ∧ cs.length = j ∧ ∀ (i : Nat) (v : Value), cs[i]? = some v → ∃ a u, v = .ref a ∧ TrR g' a u ∧ CvOk Z i u,
    ⟨⟨by k_subL, by k_subL, by k_subL, by k_subL, by k_subL, by k_subL, by k_subL, by k_subL⟩, [], ys, rfl, hr, rfl, fun i v h => by cases i <;> cases h⟩, ?_, ?_⟩
  · rintro c' O' W' hS' i v g1 ρ' M1 hi hv l1 ⟨⟨n1, n2, n3, n4, n5, n6, n7, n8⟩, cs, ys, rfl, hr, hcs, hall⟩
    have hi2 : i < 2 := hi
    have hiv : ∃ t1, v = .int (i : Int) t1 := by
      have hi3 : i = 0 ∨ i = 1 := by omega
      rcases hi3 with rfl | rfl <;> exact ⟨_, (Option.some.inj hv).symm⟩
    obtain ⟨t1, rfl⟩ := hiv
    have l01 := l0.trans l1
    have hA1 := hA.mono l01
    obtain ⟨u0, u1, hB⟩ := hA1.b
    obtain ⟨ls, hL, hls⟩ := hA1.a
    have hb4 := hA.lt i hi2
    have hBi : ∃ tt, ([Value.int (Z.bnd 0) u0, Value.int (Z.bnd 1) u1])[((i : Int)).toNat]? = some (.int (Z.bnd i) tt) := by
      have hi3 : i = 0 ∨ i = 1 := by omega
      rcases hi3 with rfl | rfl <;> exact ⟨_, rfl⟩
    obtain ⟨tt, hBi⟩ := hBi
    refine T.assign_stored ?_
    tb_start
    refine T.lc O' hS' (by kernel_rfl) (by kernel_rfl) (fun _ => rfl) ?_
    tb_start
    refine T.range1 fun r3 g3 l3 hrg => ?_
    refine Seqs.range (m := 4) O' hrg (by decide) (by decide +kernel) (LcK.fmap (fun k => ((Z.up k).map Int.ofNat).contains (Z.bnd i : Int)) (fun k y g' => ∃ a, y = .ref a ∧ TrR g' a (.cls k)) (fun i y g1 g2 l ⟨a, e1, e2⟩ => ⟨a, e1, e2.mono l⟩) (by kernel_rfl) (by decide) ?_ ?_)
    · intro D' c' O' hS' k v g' ρ'' acc hk hv l' hρ
      obtain ⟨t1, hv⟩ := hv
      rw [show (0 + (k : Int) * 1) = (k : Int) by omega] at hv
      subst hv
      have l0 := l3.trans l'
      obtain ⟨li, vsi, y1, y2, y3⟩ := hls k hk
      have q1 : ρ'' "v" = some (.int (i : Int) _) := (hρ "v" (by kernel_rfl)).trans (by k_subL)
      have q2 : ρ'' "above" = some (.ref al) := (hρ "above" (by kernel_rfl)).trans (by k_subL)
      have q3 : ρ'' "bounds" = some (.ref bl) := (hρ "bounds" (by kernel_rfl)).trans (by k_subL)
      tb_start
      refine T.itemL (.inl (hB.mono l0)) (by omega) (by omega) hBi (by rfl) ?_
      tb_start
      refine T.itemL (.inl (hL.mono l0)) (by omega) (by omega) y1 (by rfl) ?_
      tb_start
      refine T.inIL (.inl (y2.mono l0)) y3 ?_
      tb_start
      refine ⟨rfl, rfl, fun _ => ?_⟩
      tb_start
      refine T.newTupleE (by simp) fun b g4 l4 S => ?_
      exact ⟨⟨b, rfl, .mk (as := []) S (decide_eq_true hk) .nil⟩, rfl⟩
    intro D ys1 g7 l7 hlen hys hne
    have hRow1 : RowOk g7 Z i ys1 := fun y hy => by
      obtain ⟨k, hk, hbk, a, e1, e2⟩ := hys y hy
      refine ⟨a, _, e1, e2, cvCls ?_⟩
      rw [List.contains_iff_mem] at hbk
      obtain ⟨j, hj, e⟩ := List.mem_map.mp hbk
      have e : (j : Int) = (Z.bnd i : Int) := e
      have : j = Z.bnd i := by omega
      exact this ▸ hj
    refine T.freeze0 fun hD => ?_
    have SD : Lst (setG g7 D (.list ys1)) D ys1 := setG_self
    have lD : Le g7 (setG g7 D (.list ys1)) := Le.setG hD
    generalize setG g7 D (.list ys1) = g8 at SD lD
    tb_start
    refine T.newTupleE (by simp) fun b9 g9 l9 S9 => ?_
    tb_start
    refine T.newListE (by simp) fun b10 g10 l10 S10 => ?_
    tb_start
    refine T.addL (.inl (SD.mono (l9.trans l10))) (.inl S10) (by simp; omega) fun L3 hL3 => ?_
    have SROW : Lst (setG g10 L3 (.list (ys1 ++ [Value.ref b9]))) L3 (ys1 ++ [Value.ref b9]) := setG_self
    have l11 : Le g10 (setG g10 L3 (.list (ys1 ++ [Value.ref b9]))) := Le.setG hL3
    generalize setG g10 L3 (.list (ys1 ++ [Value.ref b9])) = g11 at SROW l11
    have l711 := lD.trans (l9.trans (l10.trans l11))
    have hROW : RowOk g11 Z i (ys1 ++ [Value.ref b9]) := (hRow1.mono l711).app (.cons (.mk (t := .bot) (as := []) (S9.mono (l10.trans l11)) rfl .nil) cvBot .nil)
    have hlen1 : 0 < (ys1 ++ [Value.ref b9]).length := by simp
    have hlen2 : (ys1 ++ [Value.ref b9]).length ≤ 10 := by simp; omega
    have l111 := l3.trans (l7.trans l711)
    generalize ys1 ++ [Value.ref b9] = row at SROW hROW hlen1 hlen2
    tb_start
    refine T.itemL (.inl (hB.mono l111)) (by omega) (by omega) hBi (by rfl) ?_
    tb_start
    refine IfK.split (fun q => ?_) fun q => ?_
    · have hz : Z.bnd i = 0 := by simpa using q
      tb_start
      refine T.newTupleE (by simp) fun x1 h1 k1 P1 => ?_
      tb_start
      refine T.newTupleE (by simp) fun x2 h2 k2 P2 => ?_
      tb_start
      refine T.newTupleE (by simp) fun x3 h3 k3 P3 => ?_
      tb_start
      refine T.newTupleE (by simp) fun x4 h4 k4 P4 => ?_
      tb_start
      refine T.newTupleE (by simp) fun x5 h5 k5 P5 => ?_
      tb_start
      refine T.newTupleE (by simp) fun x6 h6 k6 P6 => ?_
      tb_start
      refine T.newListE (by simp) fun x7 h7 k7 P7 => ?_
      tb_start
      have k27 := k3.trans (k4.trans (k5.trans (k6.trans k7)))
      have k17 := k2.trans k27
      refine T.addL (.inl (SROW.mono (k1.trans k17))) (.inl P7) (by simp; omega) fun L4 hL4 => ?_
      have SROW2 : Lst (setG h7 L4 (.list (row ++ [Value.ref x1, .ref x3, .ref x6]))) L4 (row ++ [Value.ref x1, .ref x3, .ref x6]) := setG_self
      have k8 : Le h7 (setG h7 L4 (.list (row ++ [Value.ref x1, .ref x3, .ref x6]))) := Le.setG hL4
      generalize setG h7 L4 (.list (row ++ [Value.ref x1, .ref x3, .ref x6])) = h8 at SROW2 k8
      have hROW2 : RowOk h8 Z i (row ++ [Value.ref x1, .ref x3, .ref x6]) := (hROW.mono (k1.trans (k17.trans k8))).app
        (.cons (.mk (t := .none) (as := []) (P1.mono (k17.trans k8)) rfl .nil) (cvTop hz (by decide) (by decide) (by decide) (by decide) (by decide))
        (.cons (.mk (t := .app 4 (.cls 1)) (as := [x2]) (P3.mono (k4.trans (k5.trans (k6.trans (k7.trans k8))))) rfl (.cons (.mk (t := .cls 1) (as := []) (P2.mono (k27.trans k8)) rfl .nil) .nil)) (cvTop hz (by decide) (by decide) (by decide) (by decide) (by decide))
        (.cons (.mk (t := .uni (.cls 2) .none) (as := [x4, x5]) (P6.mono (k7.trans k8)) rfl (.cons (.mk (t := .cls 2) (as := []) (P4.mono (k5.trans (k6.trans (k7.trans k8)))) rfl .nil) (.cons (.mk (t := .none) (as := []) (P5.mono (k6.trans (k7.trans k8))) rfl .nil) .nil))) (cvTop hz (by decide) (by decide) (by decide) (by decide) (by decide)) .nil)))
      have hlen3 : 0 < (row ++ [Value.ref x1, .ref x3, .ref x6]).length := by simp
      have hlen4 : (row ++ [Value.ref x1, .ref x3, .ref x6]).length ≤ 20 := by simp; omega
      have l18 := l111.trans (k1.trans (k17.trans k8))
      clear SROW hROW hlen1 hlen2
      generalize row ++ [Value.ref x1, .ref x3, .ref x6] = row at SROW2 hROW2 hlen3 hlen4
      tb_start
      refine T.methodL (.inr (.head _)) F.slot_list_append F.type_list_append ?_
      tb_start
      refine T.lenL (.inl SROW2) (by omega) fun t5 => ?_
      tb_start
      refine T.puL (pre := [(CL, .list cs)]) O' (draw (top := ((row).length : Int)) (by omega) hr) (by omega) fun r zs gz _ ⟨j2, t6, q1, j0, j1, hr2, q2⟩ => ?_
      subst q1 q2
      obtain ⟨i2, rfl, hi2'⟩ := nat_of j0 j1
      have ei : (row)[i2]? = some ((row)[i2]'hi2') := List.getElem?_eq_getElem hi2'
      obtain ⟨a1, u1, e1, hu1, hc1⟩ := hROW2 _ (List.mem_of_getElem? ei)
      rw [e1] at ei
      tb_start
      refine T.itemL (.inl SROW2) j0 (by omega) ei (by rfl) ?_
      tb_start
      refine T.appendL (pre := []) O' (by omega) ?_
      tb_start
      refine ⟨rfl, ?_⟩
      tb_start
      refine ⟨⟨by k_subL, by k_subL, by k_subL, by k_subL, by k_subL, by k_subL, by k_subL, by k_subL⟩, cs ++ [.ref a1], zs, rfl, hr2, by rw [List.length_append, hcs]; rfl, fun q v hq => ?_⟩
      rcases Nat.lt_or_ge q cs.length with z | z
      · rw [List.getElem?_append_left z] at hq
        obtain ⟨a, u, x1, x2, x3⟩ := hall q v hq
        exact ⟨a, u, x1, x2.mono (by exact l18), x3⟩
      · rw [List.getElem?_append_right z] at hq
        have : q = i := by
          have := (List.getElem?_eq_some_iff.mp hq).1
          simp at this; omega
        subst this
        rw [hcs] at hq
        simp at hq
        exact ⟨a1, u1, hq.symm, hu1, hc1⟩
    · tb_start
      refine T.methodL (.inr (.head _)) F.slot_list_append F.type_list_append ?_
      tb_start
      refine T.lenL (.inl SROW) (by omega) fun t5 => ?_
      tb_start
      refine T.puL (pre := [(CL, .list cs)]) O' (draw (top := ((row).length : Int)) (by omega) hr) (by omega) fun r zs gz _ ⟨j2, t6, q1, j0, j1, hr2, q2⟩ => ?_
      subst q1 q2
      obtain ⟨i2, rfl, hi2'⟩ := nat_of j0 j1
      have ei : (row)[i2]? = some ((row)[i2]'hi2') := List.getElem?_eq_getElem hi2'
      obtain ⟨a1, u1, e1, hu1, hc1⟩ := hROW _ (List.mem_of_getElem? ei)
      rw [e1] at ei
      tb_start
      refine T.itemL (.inl SROW) j0 (by omega) ei (by rfl) ?_
      tb_start
      refine T.appendL (pre := []) O' (by omega) ?_
      tb_start
      refine ⟨rfl, ?_⟩
      tb_start
      refine ⟨⟨by k_subL, by k_subL, by k_subL, by k_subL, by k_subL, by k_subL, by k_subL, by k_subL⟩, cs ++ [.ref a1], zs, rfl, hr2, by rw [List.length_append, hcs]; rfl, fun q v hq => ?_⟩
      rcases Nat.lt_or_ge q cs.length with z | z
      · rw [List.getElem?_append_left z] at hq
        obtain ⟨a, u, x1, x2, x3⟩ := hall q v hq
        exact ⟨a, u, x1, x2.mono (by exact l111), x3⟩
      · rw [List.getElem?_append_right z] at hq
        have : q = i := by
          have := (List.getElem?_eq_some_iff.mp hq).1
          simp at this; omega
        subst this
        rw [hcs] at hq
        simp at hq
        exact ⟨a1, u1, hq.symm, hu1, hc1⟩
  · rintro g1 ρ' M1 l1 ⟨⟨n1, n2, n3, n4, n5, n6, n7, n8⟩, cs, ys, rfl, hr, hcs, hall⟩
    refine ExecK.next ?_
    have hcs : cs.length = 2 := hcs
    obtain ⟨v0, v1, rfl⟩ : ∃ v0 v1, cs = [v0, v1] := by
      match cs, hcs with
      | [a, b], _ => exact ⟨a, b, rfl⟩
    obtain ⟨a0, t0, rfl, x1, x2⟩ := hall 0 v0 rfl
    obtain ⟨a1, t1, rfl, y1, y2⟩ := hall 1 v1 rfl
    refine T.freeze0 fun hCL => ?_
    have SC : Lst (setG g1 CL (.list [.ref a0, .ref a1])) CL [.ref a0, .ref a1] := setG_self
    have lC : Le g1 (setG g1 CL (.list [.ref a0, .ref a1])) := Le.setG hCL
    generalize setG g1 CL (.list [.ref a0, .ref a1]) = g2 at SC lC
    have l2 := (l0.trans l1).trans lC
    have hch : ∀ v, v < 2 → CvOk Z v ((fun v => if v = 0 then t0 else if v = 1 then t1 else .bot : Nat → Tr) v) := fun v hv => by
      have : v = 0 ∨ v = 1 := by omega
      rcases this with rfl | rfl
      · exact x2
      · exact y2
    have F : Fz g2 Z X s t (fun v => if v = 0 then t0 else if v = 1 then t1 else .bot) la ha il vl al bl CL := ⟨hW.mono l2, hl.mono l2, hh.mono l2, hI.mono l2, hA.mono l2, ⟨a0, a1, SC, x1.mono lC, y1.mono lC⟩,
      ⟨fun v hv => ⟨(hch v hv).ud, (hch v hv).dep, (hch v hv).cnt⟩⟩, fun v l hl => by
        by_cases q : v < 2
        · exact (hch v q).below l hl
        · have e0 : v ≠ 0 := by omega
          have e1 : v ≠ 1 := by omega
          show B Z (if v = 0 then t0 else if v = 1 then t1 else .bot) (.cls l) = true
          rw [if_neg e0, if_neg e1]
          exact B_bot, fun v hv => ⟨(hch v hv).ht, (hch v hv).sz⟩, sd, td⟩
    exact partE hK0 hb0 O W hS F n1 n2 n3 n4 n5 n6 n7

end
section
variable {prog : Program} {w : World} {g : G} {n : Nat} {Z : Wm} {X : Wa}
/-- what stands above each class -/
def mkUp (j2 j3 : Nat) : Nat → List Nat
  | 0 => [0]
  | 1 => [1, 0]
  | 2 => 2 :: (if j2 = 0 then [0] else [1, 0])
  | 3 => 3 :: (if j3 = 0 then [0] else if j3 = 1 then [1, 0] else 2 :: (if j2 = 0 then [0] else [1, 0]))
  | k + 4 => [k + 4, 0]
theorem mkUp_all {j2 j3 : Nat} (h2 : j2 < 2) (h3 : j3 < 3) : (∀ k, k < 4 → 0 ∈ mkUp j2 j3 k ∧ k ∈ mkUp j2 j3 k ∧ (mkUp j2 j3 k).length ≤ 4 ∧ ∀ j ∈ mkUp j2 j3 k, j < 4 ∧ ∀ i ∈ mkUp j2 j3 j, i ∈ mkUp j2 j3 k) := by
  have a : j2 = 0 ∨ j2 = 1 := by omega
  have b : j3 = 0 ∨ j3 = 1 ∨ j3 = 2 := by omega
  intro k hk
  have c : k = 0 ∨ k = 1 ∨ k = 2 ∨ k = 3 := by omega
  rcases a with rfl | rfl <;> rcases b with rfl | rfl | rfl <;> rcases c with rfl | rfl | rfl | rfl <;> decide
def mkWm (j2 j3 b0 b1 : Nat) (h2 : j2 < 2) (h3 : j3 < 3) : Wm where
  up := mkUp j2 j3
  bnd := fun v => if v = 0 then b0 else if v = 1 then b1 else 0
  refl := fun k => by
    by_cases q : k < 4
    · exact (mkUp_all h2 h3 k q).2.1
    · obtain ⟨m, rfl⟩ : ∃ m, k = m + 4 := ⟨k - 4, by omega⟩
      exact .head _
  zero := fun k => by
    by_cases q : k < 4
    · exact (mkUp_all h2 h3 k q).1
    · obtain ⟨m, rfl⟩ : ∃ m, k = m + 4 := ⟨k - 4, by omega⟩
      exact .tail _ (.head _)
  only := fun k h => List.mem_singleton.mp h
  trans := fun i j k hj hi => by
    by_cases q : k < 4
    · exact ((mkUp_all h2 h3 k q).2.2.2 j hj).2 i hi
    · obtain ⟨m, rfl⟩ : ∃ m, k = m + 4 := ⟨k - 4, by omega⟩
      have hj : j ∈ [m + 4, 0] := hj
      rcases List.mem_cons.mp hj with rfl | hj
      · exact hi
      · rw [List.mem_singleton.mp hj] at hi
        have hi : i ∈ [0] := hi
        rw [List.mem_singleton.mp hi]
        exact .tail _ (.head _)
/-- the classes as they stand -/
structure Kz (g : G) (j2 j3 : Nat) (I : Nat → Addr) (il al : Addr) : Prop where
  h2 : j2 < 2
  h3 : j3 < 3
  cls : ∀ k, k < 4 → ∃ bs mro, ClsA g (I k) (nmK k) [] bs mro ∧ MroN g mro ((mkUp j2 j3 k).map nmK)
  app : ∀ v, 4 ≤ v → v ≤ 6 → ∃ tv bs mro nm t0 d ub vl t1, ClsA g (I v) (nmK v) [tv] bs mro ∧ MroN g mro [nmK v, nmK 0] ∧ Inst g tv 204 [("name", .str nm t0), ("id", .ref d), ("upper_bound", .ref ub), ("values", .ref vl), ("variance", .int (vrc v) t1)]
  inj : ∀ u v, u < 7 → v < 7 → I u = I v → u = v
  i : Lst g il ([I 0, I 1, I 2, I 3, I 4, I 5, I 6].map .ref)
  a : ∃ ls, Lst g al ls ∧ ∀ k, k < 4 → ∃ l vs, ls[k]? = some (.ref l) ∧ Lst g l vs ∧ IntsAre vs ((mkUp j2 j3 k).map Int.ofNat)
theorem Kz.mono {g g' : G} {j2 j3 : Nat} {I : Nat → Addr} {il al : Addr} (h : Kz g j2 j3 I il al) (l : Le g g') : Kz g' j2 j3 I il al :=
  ⟨h.h2, h.h3, fun k hk => let ⟨a, b, c, d⟩ := h.cls k hk; ⟨a, b, c.mono l, d.mono l⟩, fun v h1 h2 => let ⟨a, b, c, d, e, f, i, j, k, p, q, r⟩ := h.app v h1 h2; ⟨a, b, c, d, e, f, i, j, k, p.mono l, q.mono l, r.mono l⟩, h.inj, h.i.mono l,
    let ⟨ls, a, b⟩ := h.a; ⟨ls, a.mono l, fun k hk => let ⟨x, vs, y, z, u⟩ := b k hk; ⟨x, vs, y, z.mono l, u⟩⟩⟩
theorem Kz.get {j2 j3 : Nat} {I : Nat → Addr} {il al : Addr} (h : Kz g j2 j3 I il al) {k : Nat} (hk : k < 7) : ([I 0, I 1, I 2, I 3, I 4, I 5, I 6].map Value.ref)[k]? = some (.ref (I k)) := by
  have : k = 0 ∨ k = 1 ∨ k = 2 ∨ k = 3 ∨ k = 4 ∨ k = 5 ∨ k = 6 := by omega
  rcases this with rfl | rfl | rfl | rfl | rfl | rfl | rfl <;> rfl
set_option maxHeartbeats 4000000 in
theorem partC {oc : Value} {od : Option Addr} {fd : FuncData} {osl : Array (Option Value)} {body : List Stmt} (hK : (KP w.params).lookup 698 = some ⟨oc, od, .func fd, osl⟩) (hb : fd.body = .stmts body) {c : Cx} (O : c.Ok (KP w.params) 600) (W : c.Own) (hS : c.env.scope.names = fd.scope.names)
    {ρ : Str → Option Value} {j2 j3 : Nat} {I : Nat → Addr} {il al R : Addr} {ys : List Value} (F : Kz g j2 j3 I il al) (hr : RestV ys)
    (r3 : ρ "infos" = some (.ref il)) (r5 : ρ "above" = some (.ref al)) (r8 : ρ "rest" = some (.ref R)) :
    T prog w c (execs (body.drop 8) c.env) (fun fl _ _ _ => retOf fl = .bool true) g ρ [(R, .list ys)] := by
  have hK0 := hK
  have hb0 := hb
  cases hK
  cases hb
  dsimp only [List.drop] at hS ⊢
  tb_start
  refine T.puL (pre := []) O (draw (top := 4) (by decide) hr) (by omega) fun r ys1 g1 _ ⟨b0, t0, q1, h00, h01, hr1, q2⟩ => ?_
  subst q1 q2
  obtain ⟨b0, rfl, hb04⟩ := nat_of (k := 4) h00 h01
  tb_start
  refine T.puL (pre := []) O (draw (top := 4) (by decide) hr1) (by omega) fun r ys2 g2 _ ⟨b1, t1, q1, h10, h11, hr2, q2⟩ => ?_
  subst q1 q2
  obtain ⟨b1, rfl, hb14⟩ := nat_of (k := 4) h10 h11
  tb_start
  refine T.newListE (by simp) fun bl g3 l3 SB => ?_
  iterate 2 tb_rel
  have F3 := F.mono l3
  refine T.execs_cons (T.assign_lc0 O hS (by kernel_rfl) ?_)
  refine T.lc O hS (by kernel_rfl) (by kernel_rfl) (fun _ => rfl) ?_
  tb_start
  refine T.newTupleE (by simp) fun b4 g4 l4 S4 => ?_
  have hbb : ∀ i, i < 2 → ∃ bi tt, (mkWm j2 j3 b0 b1 F.h2 F.h3).bnd i = bi ∧ bi < 4 ∧ ([Value.int (b0 : Int) t0, Value.int (b1 : Int) t1])[((i : Int)).toNat]? = some (.int (bi : Int) tt) := fun i hi => by
    have hi3 : i = 0 ∨ i = 1 := by omega
    rcases hi3 with rfl | rfl
    · exact ⟨b0, t0, rfl, hb04, rfl⟩
    · exact ⟨b1, t1, rfl, hb14, rfl⟩
  refine Seqs.tuple O S4 (LcK.map (fun i y g' => ∃ x nm t0 d ub vl t1, y = .ref x ∧ Inst g' x 204 [("name", .str nm t0), ("id", .ref d), ("upper_bound", .ref ub), ("values", .ref vl), ("variance", .int 0 t1)] ∧ TvId g' d i ∧ Lst g' vl [] ∧ InstOf g' ub (I ((mkWm j2 j3 b0 b1 F.h2 F.h3).bnd i)) [])
    (fun i y g1 g2 l ⟨x, nm, t0, d, ub, vl, t1, e, a1, a2, a3, a4⟩ => ⟨x, nm, t0, d, ub, vl, t1, e, a1.mono l, a2.mono l, a3.mono l, a4.mono l⟩) (by kernel_rfl) (by simp) ?_ ?_)
  · intro D' c' O' hS' i v g5 ρ' acc hi hv l5 hρ
    have hi2 : i < 2 := hi
    obtain ⟨bi, tt, hbe, hb4, hBi⟩ := hbb i hi2
    have hiv : ∃ t1, v = .int (i : Int) t1 := by
      have hi3 : i = 0 ∨ i = 1 := by omega
      rcases hi3 with rfl | rfl <;> exact ⟨_, (Option.some.inj hv).symm⟩
    obtain ⟨tv, rfl⟩ := hiv
    have l35 := l4.trans l5
    have F5 := F3.mono l35
    have q1 : ρ' "infos" = some (.ref il) := (hρ "infos" (by kernel_rfl)).trans (by k_subL)
    have q2 : ρ' "bounds" = some (.ref bl) := (hρ "bounds" (by kernel_rfl)).trans (by k_subL)
    tb_start
    refine T.pu O' mk_TypeVarId (by omega) fun r g6 l6 ⟨d, p1, p2⟩ => ?_
    subst p1
    tb_start
    refine T.newListE (by simp) fun vl g7 l7 S7 => ?_
    tb_start
    refine T.itemL (.inl (SB.mono (l35.trans (l6.trans l7)))) (by omega) (by omega) hBi (by rfl) ?_
    tb_start
    refine T.itemL (.inl (F5.i.mono (l6.trans l7))) (by omega) (by omega) (F5.get (k := bi) (by omega)) (by rfl) ?_
    tb_start
    refine T.newListE (by simp) fun al8 g8 l8 S8 => ?_
    tb_start
    refine T.pu O' (mk_Instance (vs := []) S8 (by simp)) (by omega) fun r g9 l9 ⟨ub, eb, p3, p4, p5⟩ => ?_
    subst p3
    tb_start
    refine T.pu O' (mk_TypeVarType (p2.mono (l7.trans (l8.trans l9)))) (by omega) fun r g10 l10 ⟨x, t1, p6, p7⟩ => ?_
    exact ⟨rfl, x, _, _, d, ub, vl, t1, p6, p7, p2.mono (l7.trans (l8.trans (l9.trans l10))), S7.mono (l8.trans (l9.trans l10)), by rw [hbe]; exact ⟨eb, p4.mono l10, p5.mono l10⟩⟩
  intro D ys3 g5 l5 hlen hys
  have hlen : ys3.length = 2 := hlen
  obtain ⟨v0, v1, rfl⟩ : ∃ v0 v1, ys3 = [v0, v1] := by
    match ys3, hlen with
    | [a, b], _ => exact ⟨a, b, rfl⟩
  obtain ⟨x0, nm0, tk0, d0, ub0, vl0, tt0, rfl, V0, id0, w0, u0⟩ := hys 0 v0 rfl
  obtain ⟨x1, nm1, tk1, d1, ub1, vl1, tt1, rfl, V1, id1, w1, u1⟩ := hys 1 v1 rfl
  refine T.freeze0 fun hD => ?_
  have SD : Lst (setG g5 D (.list [.ref x0, .ref x1])) D [.ref x0, .ref x1] := setG_self
  have lD : Le g5 (setG g5 D (.list [.ref x0, .ref x1])) := Le.setG hD
  generalize setG g5 D (.list [.ref x0, .ref x1]) = g6 at SD lD
  have l36 := l4.trans (l5.trans lD)
  have F6 := F3.mono l36
  have hW : Wk g6 (mkWm j2 j3 b0 b1 F.h2 F.h3) ⟨I, fun v => if v = 0 then x0 else x1⟩ := ⟨F6.cls, F6.app, F6.inj, fun v hv => by
    have hv3 : v = 0 ∨ v = 1 := by omega
    rcases hv3 with rfl | rfl
    · exact ⟨nm0, tk0, d0, ub0, vl0, tt0, V0.mono lD, id0.mono lD, w0.mono lD, u0.mono lD, hb04⟩
    · exact ⟨nm1, tk1, d1, ub1, vl1, tt1, V1.mono lD, id1.mono lD, w1.mono lD, u1.mono lD, hb14⟩, fun k hk j hj => ((mkUp_all F.h2 F.h3 k hk).2.2.2 j hj).1⟩
  have hI : InfR g6 ⟨I, fun v => if v = 0 then x0 else x1⟩ il D := ⟨F6.i, SD⟩
  have hA : AbR g6 (mkWm j2 j3 b0 b1 F.h2 F.h3) al bl := ⟨F6.a, ⟨t0, t1, SB.mono l36⟩, fun v hv => by
    have hv3 : v = 0 ∨ v = 1 := by omega
    rcases hv3 with rfl | rfl
    · exact hb04
    · exact hb14, fun k hk j hj => ((mkUp_all F.h2 F.h3 k hk).2.2.2 j hj).1, fun k hk => Nat.le_trans (mkUp_all F.h2 F.h3 k hk).2.2.1 (by omega)⟩
  tb_start
  refine T.puL (pre := []) O (lawTree g6 R ys2 _ hr2) (by omega) fun r ys4 g7 l7 ⟨la, s, q1, hs, hr4, s1, s2, s3⟩ => ?_
  subst q1
  tb_start
  refine T.puL (pre := []) O (lawMoved 4 g7 R la s true ys4 hs (hA.mono l7) hr4 (by omega)) (by omega) fun r ys5 g8 l8 ⟨ha, t, q1, ht, hr5, hB⟩ => ?_
  subst q1
  have z1 := hB.dep
  have z2 := hB.sz
  have z3 := hB.ht
  have l78 := l7.trans l8
  tb_rel
  refine ExecK.next ?_
  exact partD hK0 hb0 O W hS (hW.mono l78) (hs.mono l8) ht (hI.mono l78) (hA.mono l78) ⟨s1, s2, s3⟩ ⟨by omega, by omega, by omega⟩ hr5 (by k_subL) (by k_subL) (by k_subL) (by k_subL) (by k_subL) (by k_subL) (by k_subL)

end
section
variable {prog : Program} {w : World} {g : G} {n : Nat} {Z : Wm} {X : Wa}
def par (j2 j3 : Nat) : Nat → Nat | 1 => 0 | 2 => j2 | 3 => j3 | _ => 0
theorem mkUp_par {j2 j3 : Nat} (h2 : j2 < 2) (h3 : j3 < 3) {k : Nat} (h1 : 1 ≤ k) (h4 : k < 4) : mkUp j2 j3 k = k :: mkUp j2 j3 (par j2 j3 k) ∧ par j2 j3 k < k ∧ (mkUp j2 j3 k)[1]? = some (par j2 j3 k) := by
  have a : j2 = 0 ∨ j2 = 1 := by omega
  have b : j3 = 0 ∨ j3 = 1 ∨ j3 = 2 := by omega
  have c : k = 1 ∨ k = 2 ∨ k = 3 := by omega
  rcases a with rfl | rfl <;> rcases b with rfl | rfl | rfl <;> rcases c with rfl | rfl | rfl <;> decide
theorem mkUp_end {j2 j3 : Nat} (h2 : j2 < 2) (h3 : j3 < 3) {k : Nat} (h4 : k < 4) : mkUp j2 j3 k = (mkUp j2 j3 k).dropLast ++ [0] ∧ (mkUp j2 j3 k).Nodup ∧ (∀ i ∈ (mkUp j2 j3 k).dropLast, i ≠ 0) ∧ ∀ i ∈ mkUp j2 j3 k, i ≤ k := by
  have a : j2 = 0 ∨ j2 = 1 := by omega
  have b : j3 = 0 ∨ j3 = 1 ∨ j3 = 2 := by omega
  have c : k = 0 ∨ k = 1 ∨ k = 2 ∨ k = 3 := by omega
  rcases a with rfl | rfl <;> rcases b with rfl | rfl | rfl <;> rcases c with rfl | rfl | rfl | rfl <;> decide
theorem getD_app {cs : List Addr} {C : Addr} {i : Nat} (h : i < cs.length) : (cs ++ [C]).getD i 0 = cs.getD i 0 := by
  rw [List.getD_eq_getElem?_getD, List.getD_eq_getElem?_getD, List.getElem?_append_left h]
theorem getD_at {cs : List Addr} {i : Nat} {c : Addr} (h : cs[i]? = some c) : cs.getD i 0 = c := by
  rw [List.getD_eq_getElem?_getD, h]; rfl
theorem getD_last {cs : List Addr} {C : Addr} : (cs ++ [C]).getD cs.length 0 = C := getD_at (by simp)
/-- the classes laid so far -/
structure CsOk (g : G) (j2 j3 : Nat) (cs : List Addr) : Prop where
  nd : cs.Nodup
  low : ∀ (k : Nat) (c : Addr), k < 4 → cs[k]? = some c → ∃ bs, ClsA g c (nmK k) [] bs ((mkUp j2 j3 k).map fun i => cs.getD i 0) ∧ (k = 0 → bs = []) ∧ (k ≠ 0 → bs ≠ [])
  hi : ∀ (k : Nat) (c : Addr), 4 ≤ k → k < 7 → cs[k]? = some c → ∃ tv bs nm t0 d ub vl t1, ClsA g c (nmK k) [tv] bs [c, cs.getD 0 0] ∧ Inst g tv 204 [("name", .str nm t0), ("id", .ref d), ("upper_bound", .ref ub), ("values", .ref vl), ("variance", .int (vrc k) t1)]
theorem CsOk.mono {g g' : G} {j2 j3 : Nat} {cs : List Addr} (h : CsOk g j2 j3 cs) (l : Le g g') : CsOk g' j2 j3 cs :=
  ⟨h.nd, fun k c a b => let ⟨bs, x, y⟩ := h.low k c a b; ⟨bs, x.mono l, y⟩, fun k c a a' b => let ⟨tv, bs, nm, t0, d, ub, vl, t1, x, y⟩ := h.hi k c a a' b; ⟨tv, bs, nm, t0, d, ub, vl, t1, x.mono l, y.mono l⟩⟩
theorem CsOk.live {j2 j3 : Nat} {cs : List Addr} (h : CsOk g j2 j3 cs) (hl : cs.length ≤ 7) {c : Addr} (hc : c ∈ cs) : g c ≠ none := by
  obtain ⟨k, hk⟩ := List.mem_iff_getElem?.mp hc
  have hkl := (List.getElem?_eq_some_iff.mp hk).1
  have : Cl g c := by
    by_cases q : k < 4
    · obtain ⟨_, x, _⟩ := h.low k c q hk; exact x.cl
    · obtain ⟨_, _, _, _, _, _, _, _, x, _⟩ := h.hi k c (by omega) (by omega) hk; exact x.cl
  obtain ⟨d, e⟩ := this
  rw [e]; exact fun z => nomatch z
theorem nodup_snoc {cs : List Addr} {C : Addr} (h : cs.Nodup) (k : C ∉ cs) : (cs ++ [C]).Nodup := by
  rw [List.nodup_append]
  exact ⟨h, by simp, fun a ha b hb e => k (by rw [List.mem_singleton.mp hb] at e; exact e ▸ ha)⟩
theorem CsOk.snocLow {j2 j3 k : Nat} {cs : List Addr} {C b : Addr} (h2 : j2 < 2) (h3 : j3 < 3) (h : CsOk g j2 j3 cs) (hk : cs.length = k) (h1 : 1 ≤ k) (h4 : k < 4) (hn : C ∉ cs) (hC : ClsA g C (nmK k) [] [b] (C :: (mkUp j2 j3 (par j2 j3 k)).map fun i => cs.getD i 0)) : CsOk g j2 j3 (cs ++ [C]) := by
  have hp := mkUp_par h2 h3 h1 h4
  have hm : ∀ j, j ≤ k → j < 4 → ∀ i ∈ mkUp j2 j3 j, i ≤ j := fun j _ hj => (mkUp_end h2 h3 hj).2.2.2
  refine ⟨nodup_snoc h.nd hn, fun j c hj hc => ?_, fun j c hj h7 hc => ?_⟩
  · by_cases q : j < cs.length
    · rw [List.getElem?_append_left q] at hc
      obtain ⟨bs, x, y⟩ := h.low j c hj hc
      have e : (mkUp j2 j3 j).map (fun i => (cs ++ [C]).getD i 0) = (mkUp j2 j3 j).map fun i => cs.getD i 0 := List.map_congr_left fun i hi => getD_app (by have := hm j (by omega) hj i hi; omega)
      rw [e]
      exact ⟨bs, x, y⟩
    · have hj2 : j = k := by
        have := (List.getElem?_eq_some_iff.mp hc).1
        rw [List.length_append, List.length_singleton] at this; omega
      subst hj2
      have hc' : (cs ++ [C])[cs.length]? = some C := by simp
      rw [hk] at hc'
      rw [hc'] at hc
      cases hc
      refine ⟨[b], ?_, fun z => by omega, fun _ z => nomatch z⟩
      rw [hp.1, List.map_cons]
      have e1 : (cs ++ [C]).getD j 0 = C := by rw [← hk]; exact getD_last
      have e : (mkUp j2 j3 (par j2 j3 j)).map (fun i => (cs ++ [C]).getD i 0) = (mkUp j2 j3 (par j2 j3 j)).map fun i => cs.getD i 0 := List.map_congr_left fun i hi => getD_app (by have := (mkUp_end h2 h3 (k := par j2 j3 j) (by omega)).2.2.2 i hi; omega)
      rw [e, e1]
      exact hC
  · have := (List.getElem?_eq_some_iff.mp hc).1
    rw [List.length_append, List.length_singleton] at this
    omega
theorem CsOk.snocHi {j2 j3 k : Nat} {cs : List Addr} {C tv : Addr} {bs : List Addr} {nm : Str} {t0 : Tok} {d ub vl : Addr} {t1 : Tok} (h2 : j2 < 2) (h3 : j3 < 3) (h : CsOk g j2 j3 cs) (hk : cs.length = k) (h4 : 4 ≤ k) (hn : C ∉ cs) (hC : ClsA g C (nmK k) [tv] bs [C, cs.getD 0 0])
    (hT : Inst g tv 204 [("name", .str nm t0), ("id", .ref d), ("upper_bound", .ref ub), ("values", .ref vl), ("variance", .int (vrc k) t1)]) : CsOk g j2 j3 (cs ++ [C]) := by
  have g0 : (cs ++ [C]).getD 0 0 = cs.getD 0 0 := getD_app (by omega)
  refine ⟨nodup_snoc h.nd hn, fun j c hj hc => ?_, fun j c hj h7 hc => ?_⟩
  · rw [List.getElem?_append_left (by omega)] at hc
    obtain ⟨bs, x, y⟩ := h.low j c hj hc
    have e : (mkUp j2 j3 j).map (fun i => (cs ++ [C]).getD i 0) = (mkUp j2 j3 j).map fun i => cs.getD i 0 := List.map_congr_left fun i hi => getD_app (by have := (mkUp_end h2 h3 hj).2.2.2 i hi; omega)
    rw [e]
    exact ⟨bs, x, y⟩
  · rw [g0]
    by_cases q : j < cs.length
    · rw [List.getElem?_append_left q] at hc
      exact h.hi j c hj h7 hc
    · have hj2 : j = k := by
        have := (List.getElem?_eq_some_iff.mp hc).1
        rw [List.length_append, List.length_singleton] at this; omega
      subst hj2
      have hc' : (cs ++ [C])[cs.length]? = some C := by simp
      rw [hk] at hc'
      rw [hc'] at hc
      cases hc
      exact ⟨tv, bs, nm, t0, d, ub, vl, t1, hC, hT⟩
/-- a low class is made -/
theorem mk_low {j2 j3 k : Nat} {cs : List Addr} {t : Tok} {tvl bl b : Addr} (h2 : j2 < 2) (h3 : j3 < 3) (h : CsOk g j2 j3 cs) (hk : cs.length = k) (h1 : 1 ≤ k) (h4 : k < 4) (hl : Lst g tvl []) (hb : Lst g bl [.ref b]) (tb : InstOf g b (cs.getD (par j2 j3 k) 0) []) :
    Pu prog w (KP w.params) 10 (call (.ref 64) [.str (nmK k) t, .ref tvl, .ref bl] []) (fun r g' => ∃ C, r = .ref C ∧ CsOk g' j2 j3 (cs ++ [C])) g := by
  have hp := mkUp_par h2 h3 h1 h4
  have hpk : par j2 j3 k < 4 := by omega
  obtain ⟨m1, m2, m3, m4⟩ := mkUp_end h2 h3 hpk
  have hpl : par j2 j3 k < cs.length := by omega
  have hin : ∀ i ∈ mkUp j2 j3 (par j2 j3 k), i < cs.length ∧ i < 4 := fun i hi => by have := m4 i hi; omega
  obtain ⟨bsB, cB, _⟩ := h.low (par j2 j3 k) cs[par j2 j3 k] hpk (List.getElem?_eq_getElem hpl)
  have eB : cs.getD (par j2 j3 k) 0 = cs[par j2 j3 k] := getD_at (List.getElem?_eq_getElem hpl)
  rw [eB] at tb
  obtain ⟨bs0, c0, hb0, _⟩ := h.low 0 cs[0] (by omega) (List.getElem?_eq_getElem (by omega))
  have hb00 := hb0 rfl
  subst hb00
  have e0 : cs.getD 0 0 = cs[0] := getD_at (List.getElem?_eq_getElem (by omega))
  have hmro : (mkUp j2 j3 (par j2 j3 k)).map (fun i => cs.getD i 0) = ((mkUp j2 j3 (par j2 j3 k)).dropLast.map fun i => cs.getD i 0) ++ [cs[0]] := by
    conv => lhs; rw [m1]
    rw [List.map_append, ← e0]; rfl
  have hnd : ((mkUp j2 j3 (par j2 j3 k)).map (fun i => cs.getD i 0)).Nodup := by
    rw [List.Nodup, List.pairwise_map]
    refine List.Pairwise.imp_of_mem (fun {a b} ha hb hab e => hab ?_) m2
    have h1 := (hin a ha).1
    have h2 := (hin b hb).1
    rw [getD_at (List.getElem?_eq_getElem h1), getD_at (List.getElem?_eq_getElem h2)] at e
    exact (List.getElem?_inj h1 h.nd).mp (by rw [List.getElem?_eq_getElem h1, List.getElem?_eq_getElem h2, e])
  rw [hmro] at cB hnd
  refine (mk_one (nm := nmK k) (tvs := []) (l := (mkUp j2 j3 (par j2 j3 k)).dropLast.map fun i => cs.getD i 0) (fun j tv e => by cases j <;> cases e) hl hb (by simp) ?_ tb cB ?_ c0 hnd).mono (Nat.le_refl _) fun r g' l ⟨C, q1, q2, q3⟩ => ⟨C, q1, (h.mono l).snocLow (b := b) h2 h3 hk h1 h4 (fun z => h.live (by omega) z q2) ?_⟩
  · rw [List.length_map, List.length_dropLast]
    have := (mkUp_all h2 h3 _ hpk).2.2.1
    omega
  · intro x hx
    obtain ⟨i, hi, rfl⟩ := List.mem_map.mp hx
    have hi0 := m3 i hi
    have hil := hin i (List.dropLast_subset _ hi)
    obtain ⟨bs, x, _, hne⟩ := h.low i cs[i] hil.2 (List.getElem?_eq_getElem hil.1)
    have hne := hne hi0
    rw [getD_at (List.getElem?_eq_getElem hil.1)]
    cases bs with
    | nil => exact absurd rfl hne
    | cons c bs => exact ⟨_, _, c, bs, _, x⟩
  · rw [hmro]; exact q3

end
section
variable {prog : Program} {w : World} {g : G} {n : Nat} {Z : Wm} {X : Wa}
theorem ints_get : ∀ {vs : List Value} {ns : List Int} {i : Nat} {m : Int}, IntsAre vs ns → ns[i]? = some m → ∃ t, vs[i]? = some (.int m t)
  | _, _, 0, _, .cons n t _, e => by cases e; exact ⟨t, rfl⟩
  | _, _, i + 1, _, .cons n t h, e => ints_get (i := i) h e
  | _, _, _, _, .nil, e => by simp at e
theorem mk_hi {j2 j3 k : Nat} {cs : List Addr} {t : Tok} {tvl bl b tv : Addr} {nm : Str} {t0 : Tok} {d ub vl : Addr} {t1 : Tok} (h2 : j2 < 2) (h3 : j3 < 3) (h : CsOk g j2 j3 cs) (hk : cs.length = k) (h4 : 4 ≤ k) (h7 : k < 7) (hl : Lst g tvl [.ref tv]) (hb : Lst g bl [.ref b]) (tb : InstOf g b (cs.getD 0 0) [])
    (hT : Inst g tv 204 [("name", .str nm t0), ("id", .ref d), ("upper_bound", .ref ub), ("values", .ref vl), ("variance", .int (vrc k) t1)]) :
    Pu prog w (KP w.params) 10 (call (.ref 64) [.str (nmK k) t, .ref tvl, .ref bl] []) (fun r g' => ∃ C, r = .ref C ∧ CsOk g' j2 j3 (cs ++ [C])) g := by
  obtain ⟨bs0, c0, hb0, _⟩ := h.low 0 cs[0] (by omega) (List.getElem?_eq_getElem (by omega))
  have hb00 := hb0 rfl
  subst hb00
  have e0 : cs.getD 0 0 = cs[0] := getD_at (List.getElem?_eq_getElem (by omega))
  have c0' : ClsA g cs[0] (nmK 0) [] [] ([] ++ [cs[0]]) := by
    have : (mkUp j2 j3 0).map (fun i => cs.getD i 0) = [] ++ [cs[0]] := by rw [← e0]; rfl
    rw [← this]; exact c0
  rw [e0] at tb
  refine (mk_one (nm := nmK k) (tvs := [tv]) (l := []) (fun j tv' e => ?_) hl hb (by simp) (by simp) tb c0' (fun _ h => nomatch h) c0' (by simp)).mono (Nat.le_refl _) fun r g' l ⟨C, q1, q2, q3⟩ => ⟨C, q1, (h.mono l).snocHi h2 h3 hk h4 (fun z => h.live (by omega) z q2) (by rw [e0]; exact q3) (hT.mono l)⟩
  cases j with
  | zero => cases e; exact ⟨_, _, _, _, _, _, _, hT⟩
  | succ j => cases e
theorem CsOk.kz {j2 j3 : Nat} {cs : List Addr} {il al : Addr} (h2 : j2 < 2) (h3 : j3 < 3) (h : CsOk g j2 j3 cs) (hl : cs.length = 7) (hi : Lst g il (cs.map .ref)) (ha : ∃ ls, Lst g al ls ∧ ∀ k, k < 4 → ∃ l vs, ls[k]? = some (.ref l) ∧ Lst g l vs ∧ IntsAre vs ((mkUp j2 j3 k).map Int.ofNat)) : Kz g j2 j3 (fun k => cs.getD k 0) il al := by
  have at_ : ∀ k, k < 7 → cs[k]? = some (cs.getD k 0) := fun k hk => by
    have : k < cs.length := by omega
    rw [getD_at (List.getElem?_eq_getElem this)]
    exact List.getElem?_eq_getElem this
  have low : ∀ k, k < 4 → ∃ bs, ClsA g (cs.getD k 0) (nmK k) [] bs ((mkUp j2 j3 k).map fun i => cs.getD i 0) := fun k hk => by
    obtain ⟨bs, x, _⟩ := h.low k _ hk (at_ k (by omega))
    exact ⟨bs, x⟩
  refine ⟨h2, h3, fun k hk => ?_, fun v h4 h6 => ?_, fun u v hu hv e => ?_, ?_, ha⟩
  · obtain ⟨bs, x⟩ := low k hk
    refine ⟨bs, _, x, by simp, fun j c nm hj hn => ?_⟩
    rw [List.getElem?_map] at hj hn
    obtain ⟨i, e1, e2⟩ := Option.map_eq_some_iff.mp hj
    rw [e1] at hn
    have hn : some (nmK i) = some nm := hn
    cases hn
    have hi := List.mem_of_getElem? e1
    obtain ⟨bs', y⟩ := low i ((mkUp_all h2 h3 k hk).2.2.2 i hi).1
    rw [← e2]
    exact ⟨_, _, _, y⟩
  · obtain ⟨tv, bs, nm, t0, d, ub, vl, t1, x, y⟩ := h.hi v _ h4 (by omega) (at_ v (by omega))
    refine ⟨tv, bs, _, nm, t0, d, ub, vl, t1, x, ⟨rfl, fun j c nm hj hn => ?_⟩, y⟩
    match j, hj, hn with
    | 0, hj, hn => cases hj; cases hn; exact ⟨_, _, _, x⟩
    | 1, hj, hn =>
      cases hj; cases hn
      obtain ⟨bs', z⟩ := low 0 (by omega)
      exact ⟨_, _, _, z⟩
    | j + 2, hj, hn => cases hj
  · refine (List.getElem?_inj (by omega) h.nd).mp ?_
    rw [at_ u hu, at_ v hv]
    exact congrArg some e
  · have e : cs = [cs.getD 0 0, cs.getD 1 0, cs.getD 2 0, cs.getD 3 0, cs.getD 4 0, cs.getD 5 0, cs.getD 6 0] := by
      match cs, hl with
      | [a, b, c, d, e, f, i], _ => rfl
    rw [e] at hi
    exact hi
structure Nb (ρ : Str → Option Value) (il rt al R : Addr) : Prop where
  r1 : ρ "infos" = some (.ref il)
  r2 : ρ "root" = some (.ref rt)
  r3 : ρ "above" = some (.ref al)
  r4 : ρ "rest" = some (.ref R)
theorem nm_int {k : Nat} {t : Tok} {v : Value} (h : some (Value.int (k : Int) t) = some v) : ∃ t, v = .int (k : Int) t := ⟨t, (Option.some.inj h).symm⟩
set_option maxHeartbeats 4000000 in
theorem partB {oc : Value} {od : Option Addr} {fd : FuncData} {osl : Array (Option Value)} {body : List Stmt} (hK : (KP w.params).lookup 698 = some ⟨oc, od, .func fd, osl⟩) (hb : fd.body = .stmts body) {c : Cx} (O : c.Ok (KP w.params) 600) (W : c.Own) (hS : c.env.scope.names = fd.scope.names)
    {ρ : Str → Option Value} {j2 j3 : Nat} {al R : Addr} {ys : List Value} (h2 : j2 < 2) (h3 : j3 < 3) (ha : ∃ ls, Lst g al ls ∧ ∀ k, k < 4 → ∃ l vs, ls[k]? = some (.ref l) ∧ Lst g l vs ∧ IntsAre vs ((mkUp j2 j3 k).map Int.ofNat)) (hr : RestV ys)
    (r5 : ρ "above" = some (.ref al)) (r8 : ρ "rest" = some (.ref R)) :
    T prog w c (execs (body.drop 4) c.env) (fun fl _ _ _ => retOf fl = .bool true) g ρ [(R, .list ys)] := by
  have hK0 := hK
  have hb0 := hb
  cases hK
  cases hb
  dsimp only [List.drop] at hS ⊢
  tb_start
  refine T.newListE (by simp) fun x1 g1 l1 S1 => ?_
  tb_start
  refine T.newListE (by simp) fun x2 g2 l2 S2 => ?_
  tb_start
  refine T.pu O (mk_root (S1.mono l2) S2) (by omega) fun r g3 l3 ⟨C0, q1, _, cRoot⟩ => ?_
  subst q1
  tb_start
  refine T.newList (by simp) fun IL => ?_
  tb_start
  refine T.itemL (v := .ref C0) (.inr (.head _)) (by decide) (by decide) rfl (by rfl) ?_
  tb_start
  refine T.newListE (by simp) fun x3 g4 l4 S3 => ?_
  tb_start
  refine T.pu O (mk_Instance (vs := []) S3 (by simp)) (by omega) fun r g5 l5 ⟨rt, er, q1, q2, q3⟩ => ?_
  subst q1
  have hrt : InstOf g5 rt C0 [] := ⟨er, q2, q3⟩
  have hcs0 : CsOk g5 j2 j3 [C0] := by
    refine ⟨by simp, fun k c hk hc => ?_, fun k c hk _ hc => ?_⟩
    · cases k with
      | zero => cases hc; exact ⟨[], cRoot.mono (l4.trans l5), fun _ => rfl, fun z => absurd rfl z⟩
      | succ k => cases hc
    · cases k with
      | zero => omega
      | succ k => cases hc
  have l05 := l1.trans (l2.trans (l3.trans (l4.trans l5)))
  tb_start
  refine T.for_ O W hS (fun _ => rfl) ?_
  tb_start
  refine T.newTupleE (by simp) fun b6 g6 l6 S6 => ?_
  refine Seqs.tuple O S6 ⟨fun j g' ρ' M' => Nb ρ' IL rt al R ∧ ∃ cs, M' = [(IL, .list (cs.map .ref)), (R, .list ys)] ∧ cs.length = j + 1 ∧ cs.getD 0 0 = C0 ∧ CsOk g' j2 j3 cs,
    ⟨⟨by k_subL, by k_subL, by k_subL, by k_subL⟩, [C0], rfl, rfl, rfl, hcs0.mono l6⟩, ?_, ?_⟩
  · rintro c' O' W' hS' i v g7 ρ' M1 hi hv l7 ⟨⟨n1, n2, n3, n4⟩, cs, rfl, hcl, hC0, hcs⟩
    have hi3 : i < 3 := hi
    have hiv : ∃ t1, v = .int ((i + 1 : Nat) : Int) t1 := by
      have hi3 : i = 0 ∨ i = 1 ∨ i = 2 := by omega
      rcases hi3 with rfl | rfl | rfl <;> exact ⟨_, (Option.some.inj hv).symm⟩
    obtain ⟨tv, rfl⟩ := hiv
    generalize hkk : i + 1 = k at *
    have hk1 : 1 ≤ k := by omega
    have hk4 : k < 4 := by omega
    have hp := mkUp_par h2 h3 hk1 hk4
    have l57 := l6.trans l7
    obtain ⟨ls, hL, hls⟩ := ha
    have hL7 := hL.mono (l05.trans l57)
    obtain ⟨lk, vs, e1, e2, e3⟩ := hls k hk4
    have e2 := e2.mono (l05.trans l57)
    obtain ⟨tp, e4⟩ := ints_get (i := 1) (m := (par j2 j3 k : Int)) e3 (by rw [List.getElem?_map, hp.2.2]; rfl)
    refine T.assign_stored ?_
    tb_start
    refine T.methodL (.inr (.head _)) F.slot_list_append F.type_list_append ?_
    tb_start
    refine T.pu O' lawNames (by omega) fun r g8 l8 ⟨nl, nvs, q1, q2, q3⟩ => ?_
    subst q1
    obtain ⟨tn, q4⟩ := q3 k (by omega)
    tb_start
    refine T.itemL (.inl q2) (by omega) (by omega) q4 (by rfl) ?_
    tb_start
    refine T.newListE (by simp) fun x9 g9 l9 S9 => ?_
    tb_start
    refine T.itemL (.inl (hL7.mono (l8.trans l9))) (by omega) (by omega) e1 (by rfl) ?_
    tb_start
    refine T.itemL (.inl (e2.mono (l8.trans l9))) (by decide) (by decide) e4 (by rfl) ?_
    tb_start
    have hpl : par j2 j3 k < cs.length := by omega
    refine T.itemL (v := .ref (cs.getD (par j2 j3 k) 0)) (.inr (.head _)) (by omega) (by omega) (by show (cs.map Value.ref)[par j2 j3 k]? = _; rw [List.getElem?_map, List.getElem?_eq_getElem hpl, getD_at (List.getElem?_eq_getElem hpl)]; rfl) (by rfl) ?_
    tb_start
    refine T.newListE (by simp) fun x10 g10 l10 S10 => ?_
    tb_start
    refine T.pu O' (mk_Instance (vs := []) S10 (by simp)) (by omega) fun r g11 l11 ⟨bi, eb, p1, p2, p3⟩ => ?_
    subst p1
    tb_start
    refine T.newListE (by simp) fun x12 g12 l12 S12 => ?_
    tb_start
    have l812 := l8.trans (l9.trans (l10.trans (l11.trans l12)))
    refine T.pu O' (mk_low h2 h3 (hcs.mono l812) hcl hk1 hk4 (S9.mono (l10.trans (l11.trans l12))) S12 ⟨eb, p2.mono l12, p3.mono l12⟩) (by omega) fun r g13 l13 ⟨C, p4, p5⟩ => ?_
    subst p4
    tb_start
    refine T.appendL (pre := []) O' (by rw [List.length_map]; omega) ?_
    tb_start
    refine ⟨rfl, ?_⟩
    tb_start
    exact ⟨⟨by k_subL, by k_subL, by k_subL, by k_subL⟩, cs ++ [C], by rw [List.map_append]; rfl, by simp; omega, by rw [getD_app (by omega)]; exact hC0, p5⟩
  · rintro g7 ρ' M1 l7 ⟨⟨n1, n2, n3, n4⟩, cs, rfl, hcl, hC0, hcs⟩
    refine ExecK.next ?_
    obtain ⟨k1, gc⟩ := gl_COVARIANT w.params
    obtain ⟨k2, gd⟩ := gl_CONTRAVARIANT w.params
    obtain ⟨k3, gi⟩ := gl_INVARIANT w.params
    have l57 := l6.trans l7
    have hrt7 := hrt.mono l57
    tb_start
    refine T.for_ O W hS (fun _ => rfl) ?_
    tb_start
    refine T.glob O hS gc (by kernel_rfl) (by kernel_rfl) ?_
    tb_start
    refine T.newTupleE (by simp) fun y1 h1 m1 Y1 => ?_
    tb_start
    refine T.glob O hS gd (by kernel_rfl) (by kernel_rfl) ?_
    tb_start
    refine T.newTupleE (by simp) fun y2 h2' m2 Y2 => ?_
    tb_start
    refine T.glob O hS gi (by kernel_rfl) (by kernel_rfl) ?_
    tb_start
    refine T.newTupleE (by simp) fun y3 h3' m3 Y3 => ?_
    tb_start
    refine T.newTupleE (by simp) fun y4 h4' m4 Y4 => ?_
    have m14 := m1.trans (m2.trans (m3.trans m4))
    have Y1 := Y1.mono (m2.trans (m3.trans m4))
    have Y2 := Y2.mono (m3.trans m4)
    have Y3 := Y3.mono m4
    refine Seqs.tuple O Y4 ⟨fun j g' ρ' M' => Nb ρ' IL rt al R ∧ ∃ cs, M' = [(IL, .list (cs.map .ref)), (R, .list ys)] ∧ cs.length = j + 4 ∧ cs.getD 0 0 = C0 ∧ CsOk g' j2 j3 cs,
      ⟨⟨by k_subL, by k_subL, by k_subL, by k_subL⟩, cs, rfl, hcl, hC0, hcs.mono m14⟩, ?_, ?_⟩
    · rintro c' O' W' hS' i v g8 ρ' M1 hi hv l8 ⟨⟨n1, n2, n3, n4⟩, cs, rfl, hcl, hC0, hcs⟩
      have hi3 : i < 3 := hi
      have hiv : ∃ x t1 t2, v = .ref x ∧ Tup g8 x [.int ((i + 4 : Nat) : Int) t1, .int (vrc (i + 4)) t2] := by
        have hi3 : i = 0 ∨ i = 1 ∨ i = 2 := by omega
        rcases hi3 with rfl | rfl | rfl
        · exact ⟨_, _, _, (Option.some.inj hv).symm, Y1.mono l8⟩
        · exact ⟨_, _, _, (Option.some.inj hv).symm, Y2.mono l8⟩
        · exact ⟨_, _, _, (Option.some.inj hv).symm, Y3.mono l8⟩
      obtain ⟨x, t1, t2, rfl, hx⟩ := hiv
      generalize hkk : i + 4 = k at *
      have hk4 : 4 ≤ k := by omega
      have hk7 : k < 7 := by omega
      refine T.unpackT O' (.inr hx) rfl rfl ?_
      refine T.inOrder_cons (T.assign_stored ?_)
      tb_start
      refine T.inOrder_cons (T.assign_stored ?_)
      tb_start
      refine T.inOrder_nil ?_
      tb_start
      refine T.methodL (.inr (.head _)) F.slot_list_append F.type_list_append ?_
      tb_start
      refine T.pu O' lawNames (by omega) fun r g9 l9 ⟨nl, nvs, q1, q2, q3⟩ => ?_
      subst q1
      obtain ⟨tn, q4⟩ := q3 k (by omega)
      tb_start
      refine T.itemL (.inl q2) (by omega) (by omega) q4 (by rfl) ?_
      tb_start
      refine T.pu O' mk_TypeVarId (by omega) fun r g10 l10 ⟨id, p1, p2⟩ => ?_
      subst p1
      tb_start
      refine T.newListE (by simp) fun x11 g11 l11 S11 => ?_
      tb_start
      refine T.pu O' mk_TypeVarType5 (by omega) fun r g12 l12 ⟨tv, p3, p4⟩ => ?_
      subst p3
      tb_start
      refine T.newListE (by simp) fun x13 g13 l13 S13 => ?_
      tb_start
      refine T.newListE (by simp) fun x14 g14 l14 S14 => ?_
      tb_start
      have l914 := l9.trans (l10.trans (l11.trans (l12.trans (l13.trans l14))))
      refine T.pu O' (mk_hi h2 h3 (hcs.mono l914) hcl hk4 hk7 (S13.mono l14) S14 (by rw [hC0]; exact hrt7.mono (m14.trans (l8.trans l914))) (p4.mono (l13.trans l14))) (by omega) fun r g15 l15 ⟨C, p5, p6⟩ => ?_
      subst p5
      tb_start
      refine T.appendL (pre := []) O' (by rw [List.length_map]; omega) ?_
      tb_start
      refine ⟨rfl, ?_⟩
      tb_start
      exact ⟨⟨by k_subL, by k_subL, by k_subL, by k_subL⟩, cs ++ [C], by rw [List.map_append]; rfl, by simp; omega, by rw [getD_app (by omega)]; exact hC0, p6⟩
    · rintro g8 ρ' M1 l8 ⟨⟨n1, n2, n3, n4⟩, cs, rfl, hcl, hC0, hcs⟩
      refine ExecK.next ?_
      have hcl : cs.length = 7 := hcl
      refine T.freeze0 fun hIL => ?_
      have SI : Lst (setG g8 IL (.list (cs.map .ref))) IL (cs.map .ref) := setG_self
      have lI : Le g8 (setG g8 IL (.list (cs.map .ref))) := Le.setG hIL
      generalize setG g8 IL (.list (cs.map .ref)) = g9 at SI lI
      obtain ⟨ls, hL, hls⟩ := ha
      have l09 := l05.trans (l57.trans (m14.trans (l8.trans lI)))
      exact partC hK0 hb0 O W hS ((hcs.mono lI).kz h2 h3 hcl SI ⟨ls, hL.mono l09, fun k hk => let ⟨x, vs, y, z, u⟩ := hls k hk; ⟨x, vs, y, z.mono l09, u⟩⟩) hr n1 n3 n4

end
section
variable {prog : Program} {w : World} {g : G} {n : Nat} {Z : Wm} {X : Wa}
theorem up_step {j2 j3 i d : Nat} (h2 : j2 < 2) (h3 : j3 < 3) (hi : i < 2) (hd : d < i + 2) : ∃ a b, a < 2 ∧ b < 3 ∧ (∀ k, k < i + 2 → mkUp a b k = mkUp j2 j3 k) ∧ mkUp a b (i + 2) = (i + 2) :: mkUp j2 j3 d := by
  have hi' : i = 0 ∨ i = 1 := by omega
  rcases hi' with rfl | rfl
  · refine ⟨d, 0, by omega, by omega, fun k hk => ?_, ?_⟩
    · have : k = 0 ∨ k = 1 := by omega
      rcases this with rfl | rfl <;> rfl
    · have : d = 0 ∨ d = 1 := by omega
      rcases this with rfl | rfl <;> rfl
  · refine ⟨j2, d, h2, by omega, fun k hk => ?_, ?_⟩
    · have : k = 0 ∨ k = 1 ∨ k = 2 := by omega
      rcases this with rfl | rfl | rfl <;> rfl
    · have : d = 0 ∨ d = 1 ∨ d = 2 := by omega
      rcases this with rfl | rfl | rfl <;> rfl
def UpsOk (g : G) (j2 j3 m : Nat) (ls : List Value) : Prop := ls.length = m ∧ ∀ k, k < m → ∃ l vs, ls[k]? = some (.ref l) ∧ Lst g l vs ∧ IntsAre vs ((mkUp j2 j3 k).map Int.ofNat)
theorem UpsOk.mono {g g' : G} {j2 j3 m : Nat} {ls : List Value} (h : UpsOk g j2 j3 m ls) (l : Le g g') : UpsOk g' j2 j3 m ls := ⟨h.1, fun k hk => let ⟨a, b, c, d, e⟩ := h.2 k hk; ⟨a, b, c, d.mono l, e⟩⟩
theorem UpsOk.snoc {j2 j3 a b m : Nat} {ls : List Value} {x : Addr} {vs : List Value} (h : UpsOk g j2 j3 m ls) (e : ∀ k, k < m → mkUp a b k = mkUp j2 j3 k) (S : Lst g x vs) (i : IntsAre vs ((mkUp a b m).map Int.ofNat)) : UpsOk g a b (m + 1) (ls ++ [.ref x]) := by
  refine ⟨by rw [List.length_append, h.1]; rfl, fun k hk => ?_⟩
  by_cases q : k < m
  · obtain ⟨l, us, p, q1, q2⟩ := h.2 k q
    exact ⟨l, us, by rw [List.getElem?_append_left (by rw [h.1]; exact q)]; exact p, q1, by rw [e k q]; exact q2⟩
  · obtain rfl : k = m := by omega
    exact ⟨x, vs, by rw [List.getElem?_append_right (by rw [h.1]; omega), h.1]; simp, S, i⟩
set_option maxHeartbeats 4000000 in
theorem lawTrue {a : Addr} {vs : List Value} (S : Lst g a vs) (hz : vs.length ≤ 63) (hv : ∀ v ∈ vs, ∃ i t, v = Value.int i t) : Pu prog w (KP w.params) 601 (call (.ref 698) [.ref a]) (fun r _ => r = .bool true) g := by
  refine Fn.def (f := 698) (n := 600) (binds := [("script", .ref a)]) rfl ⟨rfl, rfl, rfl, rfl, rfl, rfl, by kernel_rfl, by decide +kernel, by kernel_rfl⟩ rfl (fun s X => BindsTo.of_eq rfl) rfl fun c O W hS => ?_
  dsimp only [ofBinds, List.foldl_cons, List.foldl_nil] at hS ⊢
  tb_start
  refine T.sliceU ?_
  tb_start
  refine ⟨_, _, rfl, fun sl => ?_⟩
  tb_start
  refine T.sliceLU (i := 63) (.inl S) (by omega) (by rfl) fun b1 g1 l1 S1 => ?_
  tb_start
  refine T.listOfL (.inl S1) (by rw [List.length_take]; omega) fun R => ?_
  tb_start
  refine T.methodL (.inr (.head _)) F.slot_list_reverse F.type_list_reverse ?_
  tb_start
  refine T.reverseL (pre := []) O (by rw [List.length_take]; omega) ?_
  have hr : RestV (vs.take 63).reverse := ⟨by rw [List.length_reverse, List.length_take]; omega, fun v hv' => hv v (List.take_subset _ _ (List.mem_reverse.mp hv'))⟩
  generalize (vs.take 63).reverse = ys0 at hr ⊢
  tb_start
  refine ⟨rfl, ?_⟩
  tb_start
  refine T.newListE (by simp) fun x0 g2 l2 S2 => ?_
  tb_start
  refine T.newListE (by simp) fun x1 g3 l3 S3 => ?_
  tb_start
  refine T.newList (by simp) fun AL => ?_
  have h0 : UpsOk g3 0 0 2 [.ref x0, .ref x1] := ⟨rfl, fun k hk => by
    have : k = 0 ∨ k = 1 := by omega
    rcases this with rfl | rfl
    · exact ⟨_, _, rfl, S2.mono l3, .cons _ _ .nil⟩
    · exact ⟨_, _, rfl, S3, .cons _ _ (.cons _ _ .nil)⟩⟩
  tb_start
  refine T.for_ O W hS (fun _ => rfl) ?_
  tb_start
  refine T.newTupleE (by simp) fun b4 g4 l4 S4 => ?_
  refine Seqs.tuple O S4 ⟨fun j g' ρ' M' => ρ' "above" = some (.ref AL) ∧ ρ' "rest" = some (.ref R) ∧ ∃ ls ys j2 j3, j2 < 2 ∧ j3 < 3 ∧ M' = [(AL, .list ls), (R, .list ys)] ∧ RestV ys ∧ UpsOk g' j2 j3 (j + 2) ls,
    ⟨by k_subL, by k_subL, _, _, 0, 0, by decide, by decide, rfl, hr, h0.mono l4⟩, ?_, ?_⟩
  · rintro c' O' W' hS' i v g5 ρ' M1 hi hv l5 ⟨n1, n2, ls, ys, j2, j3, h2, h3, rfl, hr, hu⟩
    have hi2 : i < 2 := hi
    have hiv : ∃ t1, v = .int ((i + 2 : Nat) : Int) t1 := by
      have hi3 : i = 0 ∨ i = 1 := by omega
      rcases hi3 with rfl | rfl <;> exact ⟨_, (Option.some.inj hv).symm⟩
    obtain ⟨tv, rfl⟩ := hiv
    refine T.assign_stored ?_
    tb_start
    refine T.methodL (.inr (.head _)) F.slot_list_append F.type_list_append ?_
    tb_start
    refine T.newListE (by simp) fun x5 g6 l6 S6 => ?_
    tb_start
    refine T.puL (pre := [(AL, .list ls)]) O' (draw (top := ((i + 2 : Nat) : Int)) (by omega) hr) (by omega) fun r ys1 g7 _ ⟨d, t0, q1, h00, h01, hr1, q2⟩ => ?_
    subst q1 q2
    obtain ⟨d, rfl, hd⟩ := nat_of (k := i + 2) h00 h01
    obtain ⟨lx, us, e1, e2, e3⟩ := hu.2 d hd
    tb_start
    refine T.itemL (v := .ref lx) (.inr (.head _)) (by omega) (by omega) e1 (by rfl) ?_
    tb_start
    have hus : us.length ≤ 4 := by
      rw [e3.length, List.length_map]
      have := (mkUp_all h2 h3 d (by omega)).2.2.1
      omega
    refine T.addL (.inl S6) (.inl (e2.mono l6)) (by simp; omega) fun y hy => ?_
    have Sy : Lst (setG g7 y (.list ([Value.int ((i + 2 : Nat) : Int) tv] ++ us))) y ([Value.int ((i + 2 : Nat) : Int) tv] ++ us) := setG_self
    have ly : Le g7 (setG g7 y (.list ([Value.int ((i + 2 : Nat) : Int) tv] ++ us))) := Le.setG hy
    generalize setG g7 y (.list ([Value.int ((i + 2 : Nat) : Int) tv] ++ us)) = g8 at Sy ly ⊢
    tb_start
    refine T.appendL (pre := []) O' (by rw [hu.1]; omega) ?_
    tb_start
    refine ⟨rfl, ?_⟩
    tb_start
    obtain ⟨a', b', ha, hb, q1, q2⟩ := up_step h2 h3 hi2 hd
    exact ⟨by k_subL, by k_subL, _, _, a', b', ha, hb, rfl, hr1, (hu.mono (l6.trans ly)).snoc q1 Sy (by rw [q2]; exact .cons _ _ e3)⟩
  · rintro g5 ρ' M1 l5 ⟨n1, n2, ls, ys, j2, j3, h2, h3, rfl, hr, hu⟩
    refine ExecK.next ?_
    refine T.freeze0 fun hAL => ?_
    have SA : Lst (setG g5 AL (.list ls)) AL ls := setG_self
    have lA : Le g5 (setG g5 AL (.list ls)) := Le.setG hAL
    generalize setG g5 AL (.list ls) = g6 at SA lA
    exact partB rfl rfl O W hS h2 h3 ⟨ls, SA, (hu.mono lA).2⟩ hr n1 n2

end
end Mine

namespace Mine
theorem well_list {P : Params} {h : Heap} {a : Addr} {d : WData} {items : Array Value} (W : Well P h (.ref a) d) (hL : h.IsList a items) : h.get? a = some { cls := .type "list", data := .seq items } := by
  obtain ⟨o, ho, hc, n, hd⟩ := hL
  cases W with
  | list e _ => rw [e] at ho; cases ho; cases hd; exact e
  | bytearray e => rw [e] at ho; cases ho; simp at hc
  | tuple e => rw [e] at ho; cases ho; simp at hc
  | dict e => rw [e] at ho; cases ho; simp at hc
  | set e => rw [e] at ho; cases ho; simp at hc
  | frozenset e => rw [e] at ho; cases ho; simp at hc
  | obj e => rw [e] at ho; cases ho; simp at hc
theorem IntsAre.intV : ∀ {vs : List Value} {ns : List Int}, IntsAre vs ns → ∀ v ∈ vs, ∃ i t, v = Value.int i t
  | _, _, .cons n t r, v, h => by
    rcases List.mem_cons.mp h with rfl | h
    · exact ⟨_, _, rfl⟩
    · exact IntsAre.intV r v h
theorem gl_law (P : Params) : nsIn (KP P) mainGlobals "law" = some (some (.ref 698)) := by kernel_rfl
theorem joined : PySem.Challenge.rw_ft0020_02.Holds := by
  refine hd ?_
  intro w s₀ s₁ mg mb G Y fa o pm cd doc dV kV ho hdd hcd hD hmg hg args vals as hpre hlay hrd hwl hlo
  have KX := kIn_of Y
  have TT := G.T
  clear hdd hcd hD ho
  have hfa : fa = 698 := by
    have e := mg_of KX TT.g (gl_law w.params)
    have e2 : mg "law" = some (.ref fa) := hmg
    rw [e2] at e
    cases e; rfl
  subst hfa
  wrow_args hpre hlay hrd hwl hlo
  rename_i ns _ _ _ _ _ _ _ a vs _ hL _ hw _ hI _ hlen _
  have hz : vs.length ≤ 63 := by rw [hI.length]; omega
  have e := well_list hw hL
  let g : Mine.G := fun b => if b = a then some (.list vs) else none
  have S : Lst g a vs := if_pos rfl
  have wd : Wd (KP w.params) s₁.heap := ⟨KX, ⟨_, TT.g⟩, ⟨_, TT.b, TT.builtins⟩, TT.nolimit⟩
  have sb : Sub w.params g s₁.heap := fun b m hb => by
    by_cases q : b = a
    · subst q
      have : m = .list vs := by
        have := S.symm.trans hb
        cases this; rfl
      subst this
      exact ⟨_, e, 0, rfl⟩
    · rw [show g b = none from if_neg q] at hb; cases hb
  refine wpAny_mono (lawTrue (prog := PySem.Challenge.rw_ft0020_02.row.toRowW.prog) S hz (IntsAre.intV hI) callerA s₁ ⟨by decide +kernel, by decide +kernel, rfl⟩ wd sb) (fun v s' ⟨x, rs, g', _, _, _, q⟩ => ?_) (fun _ _ h => h.elim)
  subst q
  refine GoodW.toG ⟨.inl ⟨.bool true, .bool true, [], rfl, raisesW_false (by wrow_none_raised), .bool _, ?_, fun _ => ⟨List.nodup_nil, fun _ h => nomatch h⟩⟩, x, rs.2.2, rs.1.trans hg⟩
  wrow_post
end Mine

theorem PySem.Challenge.cw_ft0020_02_holds : PySem.Challenge.rw_ft0020_02.Holds := by
  exact Mine.joined
