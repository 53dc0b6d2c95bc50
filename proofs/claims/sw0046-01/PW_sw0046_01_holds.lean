import PyProof.Rows.All
import OpenK.KLine
import OpenK.KMore
import OpenK.KRaise
import Wide.Txt2
import PySem.Challenge.RW_sw0046_01
/-! One law, by hand: a shallow picture of the text's defs (values, statements, calls) is derived against the model; what the picture gives is then told in plain lists. -/
set_option Elab.async false
set_option linter.unusedVariables false
set_option linter.unusedSimpArgs false
section
open PySem PySem.W PyProof.Rows PySem.Calls
set_option maxRecDepth 100000
set_option maxHeartbeats 8000000
namespace Mine
open_top hd for PySem.Challenge.rw_sw0046_01
end Mine
end
section
open PySem PySem.W PyProof.Rows PySem.Calls
set_option Elab.async false
set_option linter.unusedVariables false
namespace Mine

inductive MV where
  | int (i : Int)
  | fint (i : Int)
  | lo (i : Int) (T0 : Nat)
  | hi (i : Int) (T0 : Nat)
  | opq (v : Value)
  | bool (b : Bool)
  | non
  | str (s : Str)
  | list (l : List MV)
  | tup (l : List MV)
  | ws (raw : Str) (count : List Int) (b n nt : Int)

/-- a local of a frame: not known; a frozen tree; a list that this frame may only read (ali) or that it alone holds (own) -/
inductive LV where
  | undef
  | val (m : MV)
  | ali (l : List MV)
  | pla (l : List MV)
  | own (l : List MV)

noncomputable abbrev AP := Addr → Prop

/-- what is told of a Whitespace object: its fields -/
inductive WsAt (wsC : Addr) (P : AP) (h : Heap) (raw : Str) (count : List Int) (b n nt : Int) (v : Value) : Prop
  | mk (x dx : Addr) (es : List DictEntry) (ne : Nat) (ev : v = .ref x) (px : P x) (pd : P dx) (gx : h.get? x = some (instObj wsC dx)) (gd : h.get? dx = some (dictOf es ne))
    (t1 t2 t3 : Tok) (tu cu : Addr) (vs us : Array Value) (t4 : Tok) (h1 h2 h3 h4 h5 : Int) (k1 k2 k3 k4 k5 : Tok) (pt : P tu) (pc : P cu)
    (ee : es = [⟨h1, .str "raw" k1, .str raw t1⟩, ⟨h2, .str "n" k2, .int n t2⟩, ⟨h3, .str "nt" k3, .int nt t3⟩, ⟨h4, .str "norm" k4, .ref tu⟩, ⟨h5, .str "is_simple" k5, .bool (decide (count.length ≤ 1))⟩])
    (it : IsTup h tu vs) (iv : vs.toList = [.ref cu, .int b t4]) (ic : IsTup h cu us) (ii : IntsAre us.toList count)

noncomputable def wsC : Addr := 173

mutual
noncomputable def VR (P : AP) (h : Heap) (T : Nat) : MV → Value → Prop
  | .int i, v => ∃ t, v = .int i t
  | .fint i, v => ∃ t, v = .int i t ∧ 0 < t ∧ t < T
  | .lo i T0, v => ∃ t, v = .int i t ∧ 0 < t ∧ t < T0
  | .hi i T0, v => ∃ t, v = .int i t ∧ T0 ≤ t
  | .opq u, v => v = u
  | .bool b, v => v = .bool b
  | .non, v => v = .none
  | .str s, v => ∃ t, v = .str s t
  | .list ms, v => ∃ a vs, v = .ref a ∧ P a ∧ h.PlainList a vs ∧ VRs P h T ms vs.toList
  | .tup ms, v => ∃ a vs, v = .ref a ∧ P a ∧ IsTup h a vs ∧ VRs P h T ms vs.toList
  | .ws raw count b n nt, v => WsAt wsC P h raw count b n nt v
noncomputable def VRs (P : AP) (h : Heap) (T : Nat) : List MV → List Value → Prop
  | [], vs => vs = []
  | m :: ms, vs => ∃ v r, vs = v :: r ∧ VR P h T m v ∧ VRs P h T ms r
end

noncomputable def MV.num : MV → Option Int
  | .int i => some i
  | .fint i => some i
  | .lo i _ => some i
  | .hi i _ => some i
  | _ => none
theorem VR.num {P : AP} {h : Heap} {T : Nat} {m : MV} {v : Value} {i : Int} (x : VR P h T m v) (e : m.num = some i) : ∃ t, v = .int i t := by
  cases m <;> first | (cases e; done) | skip
  · cases e; exact x
  · cases e; obtain ⟨t, e, _⟩ := x; exact ⟨t, e⟩
  · cases e; obtain ⟨t, e, _⟩ := x; exact ⟨t, e⟩
  · cases e; obtain ⟨t, e, _⟩ := x; exact ⟨t, e⟩

/-- a heap keeps a set of objects -/
noncomputable def KeepOn (P : AP) (h h' : Heap) : Prop := ∀ b o, P b → h.get? b = some o → h'.get? b = some o
noncomputable def Grow (h h' : Heap) : Prop := ∀ b o, h.get? b = some o → h'.get? b = some o
theorem Grow.refl (h : Heap) : Grow h h := fun _ _ e => e
theorem Grow.trans {h h' h'' : Heap} (x : Grow h h') (y : Grow h' h'') : Grow h h'' := fun b o e => y b o (x b o e)
theorem Grow.on {P : AP} {h h' : Heap} (x : Grow h h') : KeepOn P h h' := fun b o _ e => x b o e
theorem Grow.push (h : Heap) (o : Obj) : Grow h (h.push o) := fun _ _ e => Heap.get?_push_of_some o e

theorem isList_on {P : AP} {h h' : Heap} {a vs} (k : KeepOn P h h') (p : P a) (x : h.IsList a vs) : h'.IsList a vs := let ⟨o, ho, r⟩ := x; ⟨o, k a o p ho, r⟩
theorem plain_on {P : AP} {h h' : Heap} {a vs} (k : KeepOn P h h') (p : P a) (x : h.PlainList a vs) : h'.PlainList a vs := let ⟨n, e⟩ := x; ⟨n, k a _ p e⟩
theorem isTup_on {P : AP} {h h' : Heap} {a vs} (k : KeepOn P h h') (p : P a) (x : IsTup h a vs) : IsTup h' a vs := let ⟨o, ho, r⟩ := x; ⟨o, k a o p ho, r⟩

theorem WsAt.mono {P P' : AP} {h h' : Heap} (hp : ∀ a, P a → P' a) (k : KeepOn P h h') {raw count b n nt v} (x : WsAt wsC P h raw count b n nt v) : WsAt wsC P' h' raw count b n nt v := by
  obtain ⟨x, dx, es, ne, e, p1, p2, g1, g2, t1, t2, t3, tu, cu, vs, us, t4, h1, h2, h3, h4, h5, k1, k2, k3, k4, k5, p3, p4, he, i1, i2, i3, i4⟩ := x
  exact ⟨x, dx, es, ne, e, hp _ p1, hp _ p2, k _ _ p1 g1, k _ _ p2 g2, t1, t2, t3, tu, cu, vs, us, t4, h1, h2, h3, h4, h5, k1, k2, k3, k4, k5, hp _ p3, hp _ p4, he, isTup_on k p3 i1, i2, isTup_on k p4 i3, i4⟩

mutual
theorem VR.mono {P P' : AP} {h h' : Heap} {T T' : Nat} (hp : ∀ a, P a → P' a) (k : KeepOn P h h') (ht : T ≤ T') : ∀ {m : MV} {v : Value}, VR P h T m v → VR P' h' T' m v
  | .int _, _, x => x
  | .fint _, _, ⟨t, e, a, b⟩ => ⟨t, e, a, Nat.lt_of_lt_of_le b ht⟩
  | .lo .., _, x => x
  | .hi .., _, x => x
  | .opq _, _, x => x
  | .bool _, _, x => x
  | .non, _, x => x
  | .str _, _, x => x
  | .list _, _, ⟨a, vs, e, p, l, r⟩ => ⟨a, vs, e, hp a p, plain_on k p l, VRs.mono hp k ht r⟩
  | .tup _, _, ⟨a, vs, e, p, l, r⟩ => ⟨a, vs, e, hp a p, isTup_on k p l, VRs.mono hp k ht r⟩
  | .ws .., _, x => WsAt.mono hp k x
theorem VRs.mono {P P' : AP} {h h' : Heap} {T T' : Nat} (hp : ∀ a, P a → P' a) (k : KeepOn P h h') (ht : T ≤ T') : ∀ {ms : List MV} {vs : List Value}, VRs P h T ms vs → VRs P' h' T' ms vs
  | [], _, x => x
  | _ :: _, _, ⟨v, r, e, x, y⟩ => ⟨v, r, e, VR.mono hp k ht x, VRs.mono hp k ht y⟩
end
theorem VR.grow {P : AP} {h h' : Heap} {T T' : Nat} (g : Grow h h') (ht : T ≤ T') {m v} (x : VR P h T m v) : VR P h' T' m v := x.mono (fun _ p => p) g.on ht
theorem VRs.grow {P : AP} {h h' : Heap} {T T' : Nat} (g : Grow h h') (ht : T ≤ T') {m v} (x : VRs P h T m v) : VRs P h' T' m v := x.mono (fun _ p => p) g.on ht
theorem VR.sub {P P' : AP} {h : Heap} {T : Nat} (hp : ∀ a, P a → P' a) {m v} (x : VR P h T m v) : VR P' h T m v := x.mono hp (Grow.refl _).on (Nat.le_refl _)
theorem VRs.sub {P P' : AP} {h : Heap} {T : Nat} (hp : ∀ a, P a → P' a) {m v} (x : VRs P h T m v) : VRs P' h T m v := x.mono hp (Grow.refl _).on (Nat.le_refl _)

theorem VRs.length {P : AP} {h : Heap} {T : Nat} : ∀ {ms : List MV} {vs : List Value}, VRs P h T ms vs → vs.length = ms.length
  | [], _, x => by cases x; rfl
  | _ :: _, _, ⟨v, r, e, _, y⟩ => by subst e; simp [VRs.length y]
theorem VRs.get {P : AP} {h : Heap} {T : Nat} : ∀ {ms : List MV} {vs : List Value}, VRs P h T ms vs → ∀ (i : Nat) (v : Value), vs[i]? = some v → ∃ m, ms[i]? = some m ∧ VR P h T m v
  | [], _, x, i, v, e => by cases x; simp at e
  | m :: _, _, ⟨v₀, r, e, x, y⟩, 0, v, q => by subst e; simp at q; subst q; exact ⟨m, rfl, x⟩
  | _ :: _, _, ⟨v₀, r, e, x, y⟩, i + 1, v, q => by subst e; simpa using VRs.get y i v (by simpa using q)
theorem VRs.get' {P : AP} {h : Heap} {T : Nat} : ∀ {ms : List MV} {vs : List Value}, VRs P h T ms vs → ∀ (i : Nat) (m : MV), ms[i]? = some m → ∃ v, vs[i]? = some v ∧ VR P h T m v
  | [], _, x, i, m, e => by simp at e
  | m₀ :: _, _, ⟨v₀, r, e, x, y⟩, 0, m, q => by subst e; simp at q; subst q; exact ⟨v₀, rfl, x⟩
  | _ :: _, _, ⟨v₀, r, e, x, y⟩, i + 1, m, q => by subst e; simpa using VRs.get' y i m (by simpa using q)
theorem VRs.append {P : AP} {h : Heap} {T : Nat} : ∀ {ms ns : List MV} {vs us : List Value}, VRs P h T ms vs → VRs P h T ns us → VRs P h T (ms ++ ns) (vs ++ us)
  | [], _, _, _, x, y => by cases x; exact y
  | _ :: _, _, _, _, ⟨v, r, e, x, y⟩, z => by subst e; exact ⟨v, r ++ _, rfl, x, VRs.append y z⟩
theorem VRs.snoc {P : AP} {h : Heap} {T : Nat} {ms : List MV} {vs : List Value} {m v} (x : VRs P h T ms vs) (y : VR P h T m v) : VRs P h T (ms ++ [m]) (vs ++ [v]) := x.append ⟨v, [], rfl, y, rfl⟩

noncomputable def nums : List MV → Option (List Int)
  | [] => some []
  | m :: ms => match m.num, nums ms with
    | some i, some r => some (i :: r)
    | _, _ => none
theorem VRs.nums {P : AP} {h : Heap} {T : Nat} : ∀ {ms : List MV} {vs : List Value} {ns : List Int}, VRs P h T ms vs → nums ms = some ns → IntsAre vs ns
  | [], _, _, x, e => by cases x; cases e; exact .nil
  | m :: ms, _, _, ⟨v, r, e, x, y⟩, q => by
    subst e
    unfold Mine.nums at q
    cases hm : m.num with
    | none => simp [hm] at q
    | some i =>
      cases hs : Mine.nums ms with
      | none => simp [hm, hs] at q
      | some k =>
        simp [hm, hs] at q; subst q
        obtain ⟨t, rfl⟩ := x.num hm
        exact .cons _ _ (VRs.nums y hs)
theorem VRs.ofInts {P : AP} {h : Heap} {T : Nat} : ∀ {ns : List Int} {vs : List Value}, IntsAre vs ns → VRs P h T (ns.map .int) vs
  | _, _, .nil => rfl
  | _, _, .cons _ t x => ⟨_, _, rfl, ⟨t, rfl⟩, VRs.ofInts x⟩

/-- frozen, or not there yet -/
noncomputable def PF (P : AP) (h : Heap) : AP := fun a => P a ∨ h.get? a = none
theorem PF.sub {P : AP} {h : Heap} {a} (p : P a) : PF P h a := .inl p
theorem PF.sub2 {P : AP} {h h' : Heap} (g : Grow h h') {a} (p : PF (PF P h) h' a) : PF P h a := by
  rcases p with p | p
  · exact p
  · refine .inr ?_
    cases e : h.get? a with
    | none => rfl
    | some o => rw [g a o e] at p; cases p

/-- the locals of a frame -/
noncomputable def Has (env : Env) (h : Heap) (x : Str) (v : Value) : Prop :=
  (env.kindOf x = some .local ∧ ∃ m, h.Ns env.locals m ∧ m x = some v) ∨
  ((env.kindOf x = some .cell ∨ env.kindOf x = some .free) ∧ ∃ c, env.cells.lookup x = some c ∧ h.IsCell c (some v))
theorem Has.grow {env : Env} {h h' : Heap} (g : Grow h h') {x v} (y : Has env h x v) : Has env h' x v := by
  rcases y with ⟨k, m, n, e⟩ | ⟨k, c, e, i⟩
  · exact .inl ⟨k, m, n.keeps g, e⟩
  · exact .inr ⟨k, c, e, i.keeps g⟩

noncomputable def LR (P : AP) (h : Heap) (T : Nat) : LV → Value → Prop
  | .undef, _ => False
  | .val m, v => VR P h T m v
  | .ali ms, v => ∃ a vs, v = .ref a ∧ h.IsList a vs ∧ VRs P h T ms vs.toList
  | .pla ms, v => ∃ a vs, v = .ref a ∧ h.PlainList a vs ∧ VRs P h T ms vs.toList
  | .own ms, v => ∃ a vs, v = .ref a ∧ h.PlainList a vs ∧ VRs P h T ms vs.toList
theorem LR.grow {P P' : AP} {h h' : Heap} {T T' : Nat} (hp : ∀ a, P a → P' a) (g : Grow h h') (ht : T ≤ T') : ∀ {lv : LV} {v}, LR P h T lv v → LR P' h' T' lv v
  | .undef, _, x => x
  | .val _, _, x => VR.mono hp g.on ht x
  | .ali _, _, ⟨a, vs, e, l, r⟩ => ⟨a, vs, e, isList_on (P := fun _ => True) g.on trivial l, r.mono hp g.on ht⟩
  | .pla _, _, ⟨a, vs, e, l, r⟩ => ⟨a, vs, e, plain_on (P := fun _ => True) g.on trivial l, r.mono hp g.on ht⟩
  | .own _, _, ⟨a, vs, e, l, r⟩ => ⟨a, vs, e, plain_on (P := fun _ => True) g.on trivial l, r.mono hp g.on ht⟩
theorem LR.sub {P P' : AP} {h : Heap} {T : Nat} (hp : ∀ a, P a → P' a) {lv v} (x : LR P h T lv v) : LR P' h T lv v := x.grow hp (Grow.refl _) (Nat.le_refl _)
theorem LR.step {P : AP} {h h' : Heap} {T T' : Nat} (g : Grow h h') (ht : T ≤ T') {lv v} (x : LR P h T lv v) : LR P h' T' lv v := x.grow (fun _ p => p) g ht
/-- every slot of the mini frame stands in the real one -/
noncomputable def LRel (P : AP) (env : Env) (sl : List Str) (ℓ : List LV) (h : Heap) (T : Nat) : Prop :=
  ∀ (i : Nat) (x : Str) (lv : LV), sl[i]? = some x → ℓ[i]? = some lv → lv = .undef ∨ ∃ v, Has env h x v ∧ LR P h T lv v
theorem LRel.grow {P P' : AP} {env : Env} {sl ℓ} {h h' : Heap} {T T' : Nat} (hp : ∀ a, P a → P' a) (g : Grow h h') (ht : T ≤ T') (R : LRel P env sl ℓ h T) : LRel P' env sl ℓ h' T' := fun i x lv e q => by
  rcases R i x lv e q with u | ⟨v, a, b⟩
  · exact .inl u
  · exact .inr ⟨v, a.grow g, b.grow hp g ht⟩

/-- what a list operand shows -/
noncomputable def LV.mv : LV → Option MV
  | .undef => none
  | .val m => some m
  | .ali _ => none
  | .pla l => some (.list l)
  | .own l => some (.list l)
theorem LR.mv {P : AP} {h : Heap} {T : Nat} {lv : LV} {v m} (x : LR P h T lv v) (e : lv.mv = some m) : VR (fun _ => True) h T m v := by
  cases lv with
  | undef => cases e
  | val k => have e2 : k = m := Option.some.inj e; subst e2; exact VR.sub (m := k) (fun _ _ => trivial) x
  | ali => cases e
  | pla l => have e2 : MV.list l = m := Option.some.inj e; subst e2; obtain ⟨a, vs, e3, l, r⟩ := x; exact ⟨a, vs, e3, trivial, l, r.sub (fun _ _ => trivial)⟩
  | own l => have e2 : MV.list l = m := Option.some.inj e; subst e2; obtain ⟨a, vs, e3, l, r⟩ := x; exact ⟨a, vs, e3, trivial, l, r.sub (fun _ _ => trivial)⟩
noncomputable def LV.list? : LV → Option (List MV)
  | .val (.list l) => some l
  | .ali l => some l
  | .pla l => some l
  | .own l => some l
  | _ => none
theorem LR.list {P : AP} {h : Heap} {T : Nat} {lv : LV} {v l} (x : LR P h T lv v) (e : lv.list? = some l) : ∃ a vs, v = .ref a ∧ h.IsList a vs ∧ VRs P h T l vs.toList := by
  cases lv with
  | undef => cases e
  | val m =>
    cases m <;> first | cases e
    obtain ⟨a, vs, e', _, l, r⟩ := x
    exact ⟨a, vs, e', l.isList, r⟩
  | ali => cases e; exact x
  | pla => cases e; obtain ⟨a, vs, e', l, r⟩ := x; exact ⟨a, vs, e', l.isList, r⟩
  | own => cases e; obtain ⟨a, vs, e', l, r⟩ := x; exact ⟨a, vs, e', l.isList, r⟩
noncomputable def LV.num : LV → Option Int
  | .val (.int i) => some i
  | .val (.fint i) => some i
  | .val (.lo i _) => some i
  | .val (.hi i _) => some i
  | _ => none
theorem LR.num {P : AP} {h : Heap} {T : Nat} {lv : LV} {v i} (x : LR P h T lv v) (e : lv.num = some i) : ∃ t, v = .int i t := by
  cases lv with
  | undef => cases e
  | val m => exact VR.num (m := m) x (by cases m <;> first | exact e | cases e)
  | ali => cases e
  | pla => cases e
  | own => cases e

/-- what the surroundings are -/
structure Wd where
  prog : Program
  w : World
  hB : Heap
  mg : Str → Option Value
  mb : Str → Option Value
  /-- frames further out, of which only the record may change -/
  N : AP
  /-- are they all of them -/
  full : Bool

structure Wd.Ok (W : Wd) : Prop where
  g : W.hB.Ns mainGlobals W.mg
  b : W.hB.Ns builtinsNs W.mb
  nolimit : W.hB.NoLimit

structure Cx (W : Wd) (n : Nat) (C : Scope) (A : Around) (env : Env) (h : Heap) (T : Nat) : Prop where
  base : Grow W.hB h
  tok : 0 < T
  handled : A.handled = none
  depth : A.depth + n < recursionLimit
  units : A.units + 20 * n + 100 < cLine
  scope : env.scope = C
  kind : C.kind = .function
  globals : env.globals = mainGlobals
  builtins : env.builtins = builtinsNs
  frames : ∃ out, A.frames = some out ∧ h.FunFrames W.hB out
theorem funFrames_grow {h h' base : Heap} (g : Grow h h') {l : List Env} (x : h.FunFrames base l) : h'.FunFrames base l := x.of_keeps fun b o e _ => ⟨o, g b o e, rfl⟩
theorem Cx.grow {W : Wd} {n C A env} {h h' : Heap} {T T' : Nat} (X : Cx W n C A env h T) (g : Grow h h') (ht : T ≤ T') : Cx W n C A env h' T' :=
  { X with tok := Nat.lt_of_lt_of_le X.tok ht, base := X.base.trans g, frames := let ⟨o, a, b⟩ := X.frames; ⟨o, a, funFrames_grow g b⟩ }

noncomputable abbrev MF := List LV → Option MV
noncomputable abbrev LF := List LV → Option LV

/-- an expression's value, as a function of the locals: a frozen tree -/
noncomputable def DenE (W : Wd) (n : Nat) (C : Scope) (sl : List Str) (e : Expr) (f : MF) : Prop :=
  ∀ {A : Around} {env : Env} {P : AP} {ℓ : List LV} {s : Shared} {m : MV} {E : Value → Shared → Prop} {Q : Value → Shared → Prop},
    Cx W n C A env s.heap s.toks → LRel P env sl ℓ s.heap s.toks → f ℓ = some m →
    (∀ v h' tk, Grow s.heap h' → s.toks ≤ tk → VR (PF P s.heap) h' tk m v → Q v { s with heap := h', toks := tk }) → wpAny (model W.prog W.w) A (eval e env) Q E s
/-- an operand: it may be a list that is only read -/
noncomputable def DenA (W : Wd) (n : Nat) (C : Scope) (sl : List Str) (e : Expr) (f : LF) : Prop :=
  ∀ {A : Around} {env : Env} {P : AP} {ℓ : List LV} {s : Shared} {lv : LV} {E : Value → Shared → Prop} {Q : Value → Shared → Prop},
    Cx W n C A env s.heap s.toks → LRel P env sl ℓ s.heap s.toks → f ℓ = some lv →
    (∀ v h' tk, Grow s.heap h' → s.toks ≤ tk → LR (PF P s.heap) h' tk lv v → Q v { s with heap := h', toks := tk }) → wpAny (model W.prog W.w) A (eval e env) Q E s
/-- a fresh list: no one else holds it -/
noncomputable def DenN (W : Wd) (n : Nat) (C : Scope) (sl : List Str) (e : Expr) (f : List LV → Option (List MV)) : Prop :=
  ∀ {A : Around} {env : Env} {P : AP} {ℓ : List LV} {s : Shared} {l : List MV} {E : Value → Shared → Prop} {Q : Value → Shared → Prop},
    Cx W n C A env s.heap s.toks → LRel P env sl ℓ s.heap s.toks → f ℓ = some l →
    (∀ a vs h' tk P', (∀ b, P' b → PF P s.heap b) → ¬ P' a → s.heap.get? a = none → Grow s.heap h' → s.toks ≤ tk → h'.PlainList a vs → VRs P' h' tk l vs.toList → Q (.ref a) { s with heap := h', toks := tk }) → wpAny (model W.prog W.w) A (eval e env) Q E s
/-- a test -/
noncomputable def DenT (W : Wd) (n : Nat) (C : Scope) (sl : List Str) (e : Expr) (f : List LV → Option Bool) : Prop :=
  ∀ {A : Around} {env : Env} {P : AP} {ℓ : List LV} {s : Shared} {b : Bool} {E : Value → Shared → Prop} {Q : Bool → Shared → Prop},
    Cx W n C A env s.heap s.toks → LRel P env sl ℓ s.heap s.toks → f ℓ = some b →
    (∀ h' tk, Grow s.heap h' → s.toks ≤ tk → Q b { s with heap := h', toks := tk }) → wpAny (model W.prog W.w) A (isTrue e env (eval e env)) Q E s

/-- tokens only grow: a rule need not say so -/
theorem mono_toks {α : Type} {M : Model} {A : Around} {t : Sem α} {s : Shared} {Q : α → Shared → Prop} {E : Value → Shared → Prop}
    (h : wpAny M A t (fun a s' => s.toks ≤ s'.toks → Q a s') (fun e s' => s.toks ≤ s'.toks → E e s') s) : wpAny M A t Q E s := wpAny_with_toks (Nat.le_refl _) h
theorem mono_toks' {α : Type} {M : Model} {A : Around} {t : Sem α} {s : Shared} {Q : α → Shared → Prop} {E : Value → Shared → Prop}
    (h : ∀ E', wpAny M A t (fun a s' => s.toks ≤ s'.toks → Q a s') E' s) : wpAny M A t Q E s := mono_toks (h _)

theorem DenE.toA {W n C sl e f} (D : DenE W n C sl e f) : DenA W n C sl e (fun ℓ => (f ℓ).map .val) := by
  intro A env P ℓ s lv E Q X R e q
  dsimp only at e
  cases hf : f ℓ with
  | none => simp [hf] at e
  | some m =>
    simp [hf] at e; subst e
    exact D X R hf q
theorem DenN.toE {W n C sl e f} (D : DenN W n C sl e f) : DenE W n C sl e (fun ℓ => (f ℓ).map .list) := by
  intro A env P ℓ s lv E Q X R e q
  dsimp only at e
  cases hf : f ℓ with
  | none => simp [hf] at e
  | some m =>
    simp [hf] at e; subst e
    refine D X R hf fun a vs h' tk P' h1 h2 h3 g t l r => q _ h' tk g t ⟨a, vs, rfl, .inr h3, l, r.sub (fun b p => h1 b p)⟩
theorem Cx.le {W n n' C A env} {hp : Heap} {T : Nat} (X : Cx W n' C A env hp T) (h : n ≤ n') : Cx W n C A env hp T :=
  { X with depth := by have := X.depth; omega, units := by have := X.units; omega }
theorem DenE.le {W n n' C sl e f} (D : DenE W n C sl e f) (h : n ≤ n') : DenE W n' C sl e f := fun X R e q => D (X.le h) R e q
theorem DenA.le {W n n' C sl e f} (D : DenA W n C sl e f) (h : n ≤ n') : DenA W n' C sl e f := fun X R e q => D (X.le h) R e q
theorem DenN.le {W n n' C sl e f} (D : DenN W n C sl e f) (h : n ≤ n') : DenN W n' C sl e f := fun X R e q => D (X.le h) R e q
theorem DenT.le {W n n' C sl e f} (D : DenT W n C sl e f) (h : n ≤ n') : DenT W n' C sl e f := fun X R e q => D (X.le h) R e q
end Mine
end
section
open PySem PySem.W PyProof.Rows PySem.Calls
set_option Elab.async false
set_option linter.unusedVariables false
namespace Mine

section
variable {W : Wd} {n : Nat} {C : Scope} {sl : List Str}

theorem Cx.kindE {A env h T} (X : Cx W n C A env h T) : env.scope.kind = .function := X.scope ▸ X.kind
theorem Has.load {M : Model} {A : Around} {env : Env} {s : Shared} {x : Str} {v : Value} {E Q} (hk : env.scope.kind = .function) (H : Has env s.heap x v) (hd : (x == ("__classdict__" : Str)) = false) (q : Q v s) : wpAny M A (loadName env x) Q E s := by
  rcases H with ⟨k, m, hn, e⟩ | ⟨k | k, c, e, i⟩
  · exact wpAny_loadName_local hk k hn e q
  · exact wpAny_loadName_cell hk k e i q
  · exact wpAny_loadName_free hk k e i q hd

noncomputable def lookA (ℓ : List LV) (i : Nat) : Option LV := match ℓ[i]? with
  | some (.val m) => some (.val m)
  | some (.ali l) => some (.ali l)
  | some (.pla l) => some (.pla l)
  | some (.own l) => some (.pla l)
  | _ => none
noncomputable def lookE (ℓ : List LV) (i : Nat) : Option MV := match ℓ[i]? with
  | some (.val m) => some m
  | _ => none

theorem den_nameA {x : Str} {pos : Pos} (i : Nat) (hi : sl[i]? = some x) (hd : (x == ("__debug__" : Str)) = false) (hc : (x == ("__classdict__" : Str)) = false) :
    DenA W n C sl (.Name x pos) (fun ℓ => lookA ℓ i) := by
  intro A env P ℓ s lv E Q X R e q
  unfold lookA at e
  cases hl : ℓ[i]? with
  | none => simp [hl] at e
  | some l =>
    simp only [hl] at e
    rcases R i x l hi hl with u | ⟨v, H, r⟩
    · subst u; cases e
    · refine wpAny_Name (H.load X.kindE hc ?_) hd
      have key : LR (PF P s.heap) s.heap s.toks lv v := by
        have r' := r.sub (fun a p => PF.sub (h := s.heap) p)
        cases l with
        | undef => cases e
        | val => cases e; exact r'
        | ali => cases e; exact r'
        | pla => cases e; exact r'
        | own => cases e; exact r'
      exact q v s.heap s.toks (Grow.refl _) (Nat.le_refl _) key
theorem den_nameE {x : Str} {pos : Pos} (i : Nat) (hi : sl[i]? = some x) (hd : (x == ("__debug__" : Str)) = false) (hc : (x == ("__classdict__" : Str)) = false) :
    DenE W n C sl (.Name x pos) (fun ℓ => lookE ℓ i) := by
  intro A env P ℓ s m E Q X R e q
  unfold lookE at e
  cases hl : ℓ[i]? with
  | none => simp [hl] at e
  | some l =>
    simp only [hl] at e
    rcases R i x l hi hl with u | ⟨v, H, r⟩
    · subst u; cases e
    · refine wpAny_Name (H.load X.kindE hc ?_) hd
      cases l <;> first | cases e
      exact q v s.heap s.toks (Grow.refl _) (Nat.le_refl _) (VR.sub (fun a p => PF.sub p) r)

theorem den_int {i : Int} {k pos} : DenE W n C sl (.Constant (.int i) k pos) (fun _ => some (.fint i)) := by
  intro A env P ℓ s m E Q X R e q
  cases e
  exact wpAny_Constant_int (q _ _ _ (Grow.refl _) (Nat.le_succ _) ⟨_, rfl, X.tok, Nat.lt_succ_self _⟩)
theorem den_str {x : Str} {k pos} : DenE W n C sl (.Constant (.str x) k pos) (fun _ => some (.str x)) := by
  intro A env P ℓ s m E Q X R e q
  cases e
  exact wpAny_Constant_str (q _ _ _ (Grow.refl _) (Nat.le_succ _) ⟨_, rfl⟩)
theorem den_bool {b : Bool} {k pos} : DenE W n C sl (.Constant (.bool b) k pos) (fun _ => some (.bool b)) := by
  intro A env P ℓ s m E Q X R e q
  cases e
  exact wpAny_Constant_bool (q _ s.heap s.toks (Grow.refl _) (Nat.le_refl _) rfl)

/-- two operands, then an operation -/
noncomputable def BinOK (W : Wd) (op : Value → Value → Sem Value) (F : LV → LV → Option MV) : Prop :=
  ∀ {A : Around} {P : AP} {s : Shared} {x y : LV} {va vb : Value} {m : MV} {E : Value → Shared → Prop} {Q : Value → Shared → Prop},
    A.handled = none → A.units + 100 < cLine → 0 < s.toks → LR P s.heap s.toks x va → LR P s.heap s.toks y vb → F x y = some m →
    (∀ v h' tk, Grow s.heap h' → s.toks ≤ tk → VR (PF P s.heap) h' tk m v → Q v { s with heap := h', toks := tk }) → wpAny (model W.prog W.w) A (op va vb) Q E s

noncomputable def bind2 (F : LV → LV → Option α) (fa fb : LF) : List LV → Option α := fun ℓ => match fa ℓ with
  | some x => (match fb ℓ with | some y => F x y | none => none)
  | none => none
theorem bind2_some {F : LV → LV → Option α} {fa fb : LF} {ℓ m} (e : bind2 F fa fb ℓ = some m) : ∃ x y, fa ℓ = some x ∧ fb ℓ = some y ∧ F x y = some m := by
  unfold bind2 at e
  cases ha : fa ℓ with
  | none => simp [ha] at e
  | some x =>
    cases hb : fb ℓ with
    | none => simp [ha, hb] at e
    | some y => simp only [ha, hb] at e; exact ⟨x, y, rfl, rfl, e⟩
theorem two_operands {a b : Expr} {fa fb : LF} (Da : DenA W n C sl a fa) (Db : DenA W n C sl b fb) {A env P ℓ s x y E} {Q : Value → Value → Shared → Prop}
    (X : Cx W n C A env s.heap s.toks) (R : LRel P env sl ℓ s.heap s.toks) (ha : fa ℓ = some x) (hb : fb ℓ = some y)
    (q : ∀ va vb h' tk, Grow s.heap h' → s.toks ≤ tk → LR (PF P s.heap) h' tk x va → LR (PF P s.heap) h' tk y vb → Q va vb { s with heap := h', toks := tk }) :
    wpAny (model W.prog W.w) A (eval a env) (fun va s₁ => wpAny (model W.prog W.w) A (eval b env) (fun vb s₂ => Q va vb s₂) E s₁) E s := by
  refine Da X R ha fun va h₁ tk₁ g₁ t₁ r₁ => ?_
  refine Db (P := PF P s.heap) (s := { s with heap := h₁, toks := tk₁ }) (X.grow g₁ t₁) (R.grow (fun a p => PF.sub p) g₁ t₁) hb fun vb h₂ tk₂ g₂ t₂ r₂ => ?_
  exact q va vb h₂ tk₂ (g₁.trans g₂) (Nat.le_trans t₁ t₂) (r₁.step g₂ t₂) (r₂.sub (fun a p => PF.sub2 g₁ p))

theorem den_bin {a b : Expr} {op : Operator} {pos} {fa fb : LF} {F} (Da : DenA W n C sl a fa) (Db : DenA W n C sl b fb) (hF : BinOK W (binaryOp op) F) :
    DenE W n C sl (.BinOp a op b pos) (bind2 F fa fb) := by
  intro A env P ℓ s m E Q X R e q
  obtain ⟨x, y, ha, hb, hm⟩ := bind2_some e
  refine wpAny_BinOp (two_operands Da Db X R ha hb fun va vb h' tk g t ra rb => ?_)
  refine hF (s := { s with heap := h', toks := tk }) X.handled (by have := X.units; omega) (Nat.lt_of_lt_of_le X.tok t) ra rb hm fun v h₂ tk₂ g₂ t₂ r => ?_
  exact q v h₂ tk₂ (g.trans g₂) (Nat.le_trans t t₂) (r.sub (fun a p => PF.sub2 g p))

noncomputable def CmpOK (W : Wd) (op : CmpOp) (F : LV → LV → Option Bool) : Prop :=
  ∀ {A : Around} {P : AP} {s : Shared} {x y : LV} {va vb : Value} {b : Bool} {E : Value → Shared → Prop} {Q : Value → Shared → Prop},
    A.handled = none → A.units + 100 < cLine → LR P s.heap s.toks x va → LR P s.heap s.toks y vb → F x y = some b →
    Q (.bool b) s → wpAny (model W.prog W.w) A (compareOp op va vb) Q E s

theorem den_cmp {a b : Expr} {op : CmpOp} {pos} {fa fb : LF} {F} (Da : DenA W n C sl a fa) (Db : DenA W n C sl b fb) (hF : CmpOK W op F) (hm : behindInMarks op b = false) :
    DenE W n C sl (.Compare a [op] [b] pos) (fun ℓ => (bind2 F fa fb ℓ).map .bool) := by
  intro A env P ℓ s m E Q X R e q
  dsimp only at e
  cases hc : bind2 F fa fb ℓ with
  | none => simp [hc] at e
  | some c =>
    simp [hc] at e; subst e
    obtain ⟨x, y, ha, hb, hm'⟩ := bind2_some hc
    refine wpAny_Compare1 (two_operands Da Db X R ha hb fun va vb h' tk g t ra rb => ?_) hm
    exact hF (s := { s with heap := h', toks := tk }) X.handled (by have := X.units; omega) ra rb hm' (q _ h' tk g t rfl)
theorem den_cmpT {a b : Expr} {op : CmpOp} {pos} {fa fb : LF} {F} (Da : DenA W n C sl a fa) (Db : DenA W n C sl b fb) (hF : CmpOK W op F) (hm : behindInMarks op b = false) :
    DenT W n C sl (.Compare a [op] [b] pos) (bind2 F fa fb) := by
  intro A env P ℓ s c E Q X R hc q
  obtain ⟨x, y, ha, hb, hm'⟩ := bind2_some hc
  refine wpAny_isTrue_Compare1 (two_operands Da Db X R ha hb fun va vb h' tk g t ra rb => ?_) hm
  exact hF (s := { s with heap := h', toks := tk }) X.handled (by have := X.units; omega) ra rb hm' (wpAny_truthy_bool (q h' tk g t))
theorem den_notT {a : Expr} {pos} {fa : List LV → Option Bool} (Da : DenT W n C sl a fa) : DenT W n C sl (.UnaryOp .Not a pos) (fun ℓ => (fa ℓ).map (!·)) := by
  intro A env P ℓ s c E Q X R hc q
  dsimp only at hc
  cases h : fa ℓ with
  | none => simp [h] at hc
  | some b => simp [h] at hc; subst hc; exact wpAny_isTrue_Not (Da X R h (by simpa using q))
theorem den_neg {a : Expr} {pos} {fa : MF} (Da : DenE W n C sl a fa) : DenE W n C sl (.UnaryOp .USub a pos) (fun ℓ => match fa ℓ with | some m => (match m.num with | some i => some (.fint (-i)) | none => none) | none => none) := by
  intro A env P ℓ s m E Q X R hc q
  dsimp only at hc
  split at hc
  · rename_i m' h
    split at hc
    · rename_i i hi
      cases hc
      refine wpAny_UnaryOp (Da X R h fun v h' tk g t r => ?_)
      obtain ⟨t, rfl⟩ := r.num hi
      exact neg_int (q _ h' _ g (Nat.le_succ_of_le ‹_›) ⟨_, rfl, Nat.lt_of_lt_of_le X.tok ‹_›, Nat.lt_succ_self _⟩)
    · cases hc
  · cases hc

noncomputable def ifM {α : Type} (ft : List LV → Option Bool) (fa fb : List LV → Option α) : List LV → Option α := fun ℓ => match ft ℓ with
  | some true => fa ℓ
  | some false => fb ℓ
  | none => none
theorem den_ifexp {t a b : Expr} {pos} {ft} {fa fb : MF} (Dt : DenT W n C sl t ft) (Da : DenE W n C sl a fa) (Db : DenE W n C sl b fb) : DenE W n C sl (.IfExp t a b pos) (ifM ft fa fb) := by
  intro A env P ℓ s m E Q X R e q
  unfold ifM at e
  cases ht : ft ℓ with
  | none => simp [ht] at e
  | some c =>
    refine wpAny_IfExp (Dt X R ht fun h' tk g t => ?_)
    have R' := R.grow (fun a p => PF.sub (h := s.heap) p) g t
    have X' := X.grow g t
    cases c with
    | true =>
      simp only [ht] at e
      rw [if_pos rfl]
      refine Da (s := { s with heap := h', toks := tk }) X' R' e fun v h₂ tk₂ g₂ t₂ r => q v h₂ tk₂ (g.trans g₂) (Nat.le_trans t t₂) (r.sub (fun a p => PF.sub2 g p))
    | false =>
      simp only [ht] at e
      rw [if_neg (by decide)]
      refine Db (s := { s with heap := h', toks := tk }) X' R' e fun v h₂ tk₂ g₂ t₂ r => q v h₂ tk₂ (g.trans g₂) (Nat.le_trans t t₂) (r.sub (fun a p => PF.sub2 g p))

/-- a row of expressions -/
noncomputable def DenL (W : Wd) (n : Nat) (C : Scope) (sl : List Str) (es : List Expr) (f : List LV → Option (List MV)) : Prop :=
  ∀ {A : Around} {env : Env} {P : AP} {ℓ : List LV} {s : Shared} {ms : List MV} {pos : Pos} {E : Value → Shared → Prop} {Q : List Value → Shared → Prop},
    Cx W n C A env s.heap s.toks → LRel P env sl ℓ s.heap s.toks → f ℓ = some ms →
    (∀ vs h' tk, Grow s.heap h' → s.toks ≤ tk → VRs (PF P s.heap) h' tk ms vs → Q vs { s with heap := h', toks := tk }) → wpAny (model W.prog W.w) A (spliced (backTo pos (starEach es env))) Q E s
noncomputable def DenLA (W : Wd) (n : Nat) (C : Scope) (sl : List Str) (es : List Expr) (f : List LV → Option (List LV)) : Prop :=
  ∀ {A : Around} {env : Env} {P : AP} {ℓ : List LV} {s : Shared} {ms : List LV} {pos : Pos} {E : Value → Shared → Prop} {Q : List Value → Shared → Prop},
    Cx W n C A env s.heap s.toks → LRel P env sl ℓ s.heap s.toks → f ℓ = some ms →
    (∀ vs h' tk, Grow s.heap h' → s.toks ≤ tk → Paired (LR (PF P s.heap) h' tk) ms vs → Q vs { s with heap := h', toks := tk }) → wpAny (model W.prog W.w) A (spliced (backTo pos (starEach es env))) Q E s
noncomputable def cons2 {α : Type} (f : List LV → Option α) (g : List LV → Option (List α)) : List LV → Option (List α) := fun ℓ => match f ℓ with
  | some x => (match g ℓ with | some y => some (x :: y) | none => none)
  | none => none
theorem cons2_some {α : Type} {f : List LV → Option α} {g : List LV → Option (List α)} {ℓ m} (e : cons2 f g ℓ = some m) : ∃ x y, f ℓ = some x ∧ g ℓ = some y ∧ m = x :: y := by
  unfold cons2 at e
  cases ha : f ℓ with
  | none => simp [ha] at e
  | some x =>
    cases hb : g ℓ with
    | none => simp [ha, hb] at e
    | some y => simp [ha, hb] at e; exact ⟨x, y, rfl, rfl, e.symm⟩
theorem den_nil : DenL W n C sl [] (fun _ => some []) := by
  intro A env P ℓ s ms pos E Q X R e q
  cases e
  exact spliced_nil (q [] s.heap s.toks (Grow.refl _) (Nat.le_refl _) rfl)
theorem den_cons {e : Expr} {es : List Expr} {f : MF} {g} (De : DenE W n C sl e f) (Ds : DenL W n C sl es g) (hs : ∀ env, starEach (e :: es) env = (false, eval e env) :: starEach es env := by intro _; rfl) : DenL W n C sl (e :: es) (cons2 f g) := by
  intro A env P ℓ s ms pos E Q X R hm q
  obtain ⟨x, y, hx, hy, rfl⟩ := cons2_some hm
  rw [hs]
  refine spliced_cons ?_
  have main : wpAny (model W.prog W.w) A (eval e env) (fun v s₁ => wpAny (model W.prog W.w) A (spliced (backTo pos (starEach es env))) (fun vs s₂ => Q (v :: vs) s₂) E s₁) E s := by
    refine De X R hx fun v h₁ tk₁ g₁ t₁ r₁ => ?_
    refine Ds (s := { s with heap := h₁, toks := tk₁ }) (X.grow g₁ t₁) (R.grow (fun a p => PF.sub (h := s.heap) p) g₁ t₁) hy fun vs h₂ tk₂ g₂ t₂ r₂ => ?_
    exact q _ h₂ tk₂ (g₁.trans g₂) (Nat.le_trans t₁ t₂) ⟨v, vs, rfl, r₁.grow g₂ t₂, r₂.sub (fun a p => PF.sub2 g₁ p)⟩
  exact main
end
end Mine
end
section
open PySem PySem.W PyProof.Rows PySem.Calls
set_option Elab.async false
set_option linter.unusedVariables false
namespace Mine
section
variable {W : Wd} {n : Nat} {C : Scope} {sl : List Str}
theorem den_nilA : DenLA W n C sl [] (fun _ => some []) := by
  intro A env P ℓ s ms pos E Q X R e q
  cases e
  exact spliced_nil (q [] s.heap s.toks (Grow.refl _) (Nat.le_refl _) .nil)
theorem Paired.imp {α β : Type} {F G : α → β → Prop} (h : ∀ a b, F a b → G a b) : ∀ {l : List α} {k : List β}, Paired F l k → Paired G l k := fun p => by
  induction p with
  | nil => exact .nil
  | cons x r ih => exact .cons (h _ _ x) ih
theorem den_consA {e : Expr} {es : List Expr} {f : LF} {g} (De : DenA W n C sl e f) (Ds : DenLA W n C sl es g) (hs : ∀ env, starEach (e :: es) env = (false, eval e env) :: starEach es env := by intro _; rfl) : DenLA W n C sl (e :: es) (cons2 f g) := by
  intro A env P ℓ s ms pos E Q X R hm q
  obtain ⟨x, y, hx, hy, rfl⟩ := cons2_some hm
  rw [hs]
  refine spliced_cons ?_
  have main : wpAny (model W.prog W.w) A (eval e env) (fun v s₁ => wpAny (model W.prog W.w) A (spliced (backTo pos (starEach es env))) (fun vs s₂ => Q (v :: vs) s₂) E s₁) E s := by
    refine De X R hx fun v h₁ tk₁ g₁ t₁ r₁ => ?_
    refine Ds (s := { s with heap := h₁, toks := tk₁ }) (X.grow g₁ t₁) (R.grow (fun a p => PF.sub (h := s.heap) p) g₁ t₁) hy fun vs h₂ tk₂ g₂ t₂ r₂ => ?_
    exact q _ h₂ tk₂ (g₁.trans g₂) (Nat.le_trans t₁ t₂) (.cons (r₁.step g₂ t₂) (Paired.imp (fun _ _ x => x.sub (fun a p => PF.sub2 g₁ p)) r₂))
  exact main

noncomputable def fits (l : List MV) : Option (List MV) := if l.length ≤ 65536 then some l else none
theorem fits_some {l m : List MV} (e : fits l = some m) : m = l ∧ l.length ≤ sizeLine := by
  unfold fits at e
  split at e
  · cases e; exact ⟨rfl, by rw [sizeLine_eq]; omega⟩
  · cases e
theorem PF.push {P : AP} {h : Heap} : ∀ b, PF P h b → PF P h b := fun _ p => p
theorem plain_new (h : Heap) (vs : Array Value) (n : Nat) : (h.push { cls := .type "list", data := .seq vs n }).PlainList h.objs.size vs := ⟨n, Heap.get?_push_size _ rfl⟩
theorem none_of_size {h h' : Heap} (g : Grow h h') : h.get? h'.objs.size = none := by
  cases e : h.get? h'.objs.size with
  | none => rfl
  | some o => exact absurd (Heap.lt_size (g _ _ e)) (Nat.lt_irrefl _)
/-- frozen or fresh, but not this one -/
noncomputable def PFx (P : AP) (h : Heap) (a : Addr) : AP := fun b => PF P h b ∧ b ≠ a
noncomputable def nodeObj (o : Obj) : Bool := match o.data with
  | .seq .. => true
  | .plain => true
  | .dict .. => true
  | _ => false
theorem VR.node {P : AP} {h : Heap} {T : Nat} {m v} (x : VR P h T m v) : VR (fun b => P b ∧ ∃ o, h.get? b = some o ∧ nodeObj o = true) h T m v := by
  revert v
  refine MV.rec (motive_1 := fun m => ∀ {v}, VR P h T m v → VR (fun b => P b ∧ ∃ o, h.get? b = some o ∧ nodeObj o = true) h T m v) (motive_2 := fun ms => ∀ {vs}, VRs P h T ms vs → VRs (fun b => P b ∧ ∃ o, h.get? b = some o ∧ nodeObj o = true) h T ms vs)
    (fun _ _ x => x) (fun _ _ x => x) (fun _ _ _ x => x) (fun _ _ _ x => x) (fun _ _ x => x) (fun _ _ x => x) (fun x => x) (fun _ _ x => x) ?_ ?_ ?_ (fun x => x) ?_ m
  · rintro l ih v ⟨b, vs, e, p, hl, r⟩
    exact ⟨b, vs, e, ⟨p, by obtain ⟨n, ho⟩ := hl; exact ⟨_, ho, rfl⟩⟩, hl, ih r⟩
  · rintro l ih v ⟨b, vs, e, p, hl, r⟩
    exact ⟨b, vs, e, ⟨p, by obtain ⟨o, ho, _, n, hd⟩ := hl; exact ⟨o, ho, by unfold nodeObj; rw [hd]⟩⟩, hl, ih r⟩
  · rintro raw count b n nt v ⟨x, dx, es, ne, e, p1, p2, g1, g2, t1, t2, t3, tu, cu, vs, us, t4, h1, h2, h3, h4, h5, k1, k2, k3, k4, k5, p3, p4, he, i1, i2, i3, i4⟩
    exact ⟨x, dx, es, ne, e, ⟨p1, _, g1, rfl⟩, ⟨p2, _, g2, rfl⟩, g1, g2, t1, t2, t3, tu, cu, vs, us, t4, h1, h2, h3, h4, h5, k1, k2, k3, k4, k5, ⟨p3, let ⟨_, ho, _, n, hd⟩ := i1; ⟨_, ho, by unfold nodeObj; rw [hd]⟩⟩, ⟨p4, let ⟨_, ho, _, n, hd⟩ := i3; ⟨_, ho, by unfold nodeObj; rw [hd]⟩⟩, he, i1, i2, i3, i4⟩
  · rintro m ms ih1 ih2 vs ⟨v, r, e, x, y⟩
    exact ⟨v, r, e, ih1 x, ih2 y⟩
theorem VRs.node {P : AP} {h : Heap} {T : Nat} : ∀ {ms : List MV} {vs}, VRs P h T ms vs → VRs (fun b => P b ∧ ∃ o, h.get? b = some o ∧ nodeObj o = true) h T ms vs
  | [], _, x => x
  | _ :: _, _, ⟨v, r, e, x, y⟩ => ⟨v, r, e, x.node, VRs.node y⟩
theorem LR.node {P : AP} {h : Heap} {T : Nat} : ∀ {lv : LV} {v}, LR P h T lv v → LR (fun b => P b ∧ ∃ o, h.get? b = some o ∧ nodeObj o = true) h T lv v
  | .undef, _, x => x
  | .val m, _, x => VR.node (m := m) x
  | .ali _, _, ⟨a, vs, e, l, r⟩ => ⟨a, vs, e, l, r.node⟩
  | .pla _, _, ⟨a, vs, e, l, r⟩ => ⟨a, vs, e, l, r.node⟩
  | .own _, _, ⟨a, vs, e, l, r⟩ => ⟨a, vs, e, l, r.node⟩
theorem VR.live {P : AP} {h : Heap} {T : Nat} {m v} (x : VR P h T m v) : VR (fun b => P b ∧ ∃ o, h.get? b = some o) h T m v := x.node.sub fun b p => ⟨p.1, let ⟨o, e, _⟩ := p.2; ⟨o, e⟩⟩
theorem VRs.live {P : AP} {h : Heap} {T : Nat} {ms : List MV} {vs} (x : VRs P h T ms vs) : VRs (fun b => P b ∧ ∃ o, h.get? b = some o) h T ms vs := x.node.sub fun b p => ⟨p.1, let ⟨o, e, _⟩ := p.2; ⟨o, e⟩⟩
theorem LR.live {P : AP} {h : Heap} {T : Nat} {lv : LV} {v} (x : LR P h T lv v) : LR (fun b => P b ∧ ∃ o, h.get? b = some o) h T lv v := x.node.sub fun b p => ⟨p.1, let ⟨o, e, _⟩ := p.2; ⟨o, e⟩⟩
theorem VR.avoid {P : AP} {h : Heap} {T : Nat} {a : Addr} {m v} (x : VR P h T m v) (ha : h.get? a = none) : VR (fun b => P b ∧ b ≠ a) h T m v :=
  x.live.sub fun b p => ⟨p.1, fun q => by obtain ⟨o, e⟩ := p.2; rw [q, ha] at e; cases e⟩
theorem VRs.avoid {P : AP} {h : Heap} {T : Nat} {a : Addr} (ha : h.get? a = none) {ms : List MV} {vs} (x : VRs P h T ms vs) : VRs (fun b => P b ∧ b ≠ a) h T ms vs :=
  x.live.sub fun b p => ⟨p.1, fun q => by obtain ⟨o, e⟩ := p.2; rw [q, ha] at e; cases e⟩

/-- a new list object, its items there before it -/
theorem newN {P : AP} {s : Shared} {h₁ : Heap} {tk n : Nat} {l : List MV} {vs : Array Value} {Q : Value → Shared → Prop} (g : Grow s.heap h₁) (ht : s.toks ≤ tk) (r : VRs (PF P s.heap) h₁ tk l vs.toList)
    (q : ∀ a vs h' tk P', (∀ b, P' b → PF P s.heap b) → ¬ P' a → s.heap.get? a = none → Grow s.heap h' → s.toks ≤ tk → h'.PlainList a vs → VRs P' h' tk l vs.toList → Q (.ref a) { s with heap := h', toks := tk }) :
    Q (.ref h₁.objs.size) { s with heap := h₁.push { cls := .type "list", data := .seq vs n }, toks := tk } := by
  have hn : h₁.get? h₁.objs.size = none := Heap.get?_none_of_le (Nat.le_refl _)
  refine q h₁.objs.size vs _ tk (PFx P s.heap h₁.objs.size) (fun b p => p.1) (fun p => p.2 rfl) (none_of_size g) (g.trans (Grow.push _ _)) ht (plain_new ..) ?_
  exact VRs.grow (Grow.push _ _) (Nat.le_refl _) (VRs.avoid hn r)
theorem den_listN {es : List Expr} {pos} {f} (D : DenL W n C sl es f) : DenN W n C sl (.List es pos) (fun ℓ => (f ℓ).bind fits) := by
  intro A env P ℓ s l E Q X R e q
  dsimp only at e
  cases h : f ℓ with
  | none => simp [h] at e
  | some l' =>
    rw [h, Option.bind_some] at e
    obtain ⟨rfl, hlen⟩ := fits_some e
    refine wpAny_List_spliced (D X R h fun vs h₁ tk₁ g₁ t₁ r₁ => ⟨by rw [r₁.length]; exact hlen, ?_⟩)
    exact newN (s := s) (vs := vs.toArray) g₁ t₁ r₁ q
theorem den_tuple {es : List Expr} {k pos} {f} (D : DenL W n C sl es f) : DenE W n C sl (.Tuple es k pos) (fun ℓ => ((f ℓ).bind fits).map .tup) := by
  intro A env P ℓ s m E Q X R e q
  dsimp only at e
  cases h : f ℓ with
  | none => simp [h] at e
  | some l' =>
    rw [h, Option.bind_some] at e
    cases hf : fits l' with
    | none => rw [hf] at e; cases e
    | some l =>
      rw [hf] at e; simp at e; subst e
      obtain ⟨rfl, hlen⟩ := fits_some hf
      refine wpAny_Tuple_spliced (D X R h fun vs h₁ tk₁ g₁ t₁ r₁ => ⟨by rw [r₁.length]; exact hlen, ?_⟩)
      refine q _ _ tk₁ (g₁.trans (Grow.push _ _)) t₁ ⟨_, vs.toArray, rfl, .inr (none_of_size g₁), IsTup.new .., r₁.grow (Grow.push _ _) (Nat.le_refl _)⟩

/-! places and slices -/
noncomputable def pick {α : Type} (l : List α) (lo hi st : Option Int) : List α :=
  (sliceRange (sliceBounds lo hi st l.length).1 (sliceBounds lo hi st l.length).2.1 (sliceBounds lo hi st l.length).2.2).filterMap (l[·]?)
theorem VRs.at {P : AP} {h : Heap} {T : Nat} {ms : List MV} {vs : List Value} (x : VRs P h T ms vs) : ∀ is : List Nat, VRs P h T (is.filterMap (ms[·]?)) (is.filterMap (vs[·]?))
  | [] => rfl
  | i :: is => by
    rw [List.filterMap_cons, List.filterMap_cons]
    cases e : ms[i]? with
    | none =>
      have : vs[i]? = none := by rw [List.getElem?_eq_none_iff] at e ⊢; rw [x.length]; exact e
      rw [this]; exact VRs.at x is
    | some m =>
      obtain ⟨v, hv, r⟩ := x.get' i m e
      rw [hv]
      exact ⟨v, _, rfl, r, VRs.at x is⟩
theorem VRs.pick {P : AP} {h : Heap} {T : Nat} {ms : List MV} {vs : Array Value} (x : VRs P h T ms vs.toList) (lo hi st) : VRs P h T (pick ms lo hi st) (slicePick vs lo hi st).toList := by
  have e : vs.size = ms.length := by rw [← x.length, Array.length_toList]
  unfold Mine.pick slicePick
  rw [e]
  simpa using VRs.at x _

noncomputable def okSlice : Expr → Bool
  | .Slice .. => false
  | _ => true
theorem subscripted_plain {slice : Expr} {o i : Value} (h : okSlice slice = true) : subscripted slice false o i = operate [o, i] (getItem o i) := by
  cases slice <;> first | rfl | cases h

noncomputable def szOK (l : List MV) : Bool := decide (l.length ≤ 65536)
noncomputable def itemS : LV → LV → Option MV := fun o i => match i.num with
  | some k => match o with
    | .val (.tup l) => if 0 ≤ k ∧ szOK l then l[k.toNat]? else none
    | o => match o.list? with
      | some l => if szOK l then (if 0 ≤ k then l[k.toNat]? else if (-(l.length : Int)) ≤ k then l[(k + l.length).toNat]? else none) else none
      | none => none
  | none => none

theorem den_item {a b : Expr} {pos} {fa fb : LF} (Da : DenA W n C sl a fa) (Db : DenA W n C sl b fb) (hs : okSlice b = true) : DenE W n C sl (.Subscript a b pos) (bind2 itemS fa fb) := by
  intro A env P ℓ s m E Q X R e q
  obtain ⟨x, y, ha, hb, hm⟩ := bind2_some e
  refine Subscript_ (two_operands Da Db X R ha hb fun va vb h' tk g t ra rb => ?_)
  unfold itemS at hm
  split at hm
  · rename_i k hk0
    obtain ⟨u, rfl⟩ := rb.num hk0
    split at hm
    · rename_i l
      obtain ⟨a, vs, rfl, pa, ht, r⟩ := ra
      split at hm
      · rename_i hk
        obtain ⟨hk, hz⟩ := hk
        obtain ⟨v, hv, rv⟩ := r.get' _ _ hm
        have hlt : k.toNat < l.length := by
          rcases Nat.lt_or_ge k.toNat l.length with h | h
          · exact h
          · rw [List.getElem?_eq_none h] at hm; cases hm
        have hsz : vs.size = l.length := by rw [← r.length, Array.length_toList]
        have hz' : l.length ≤ 65536 := by simpa [szOK] using hz
        refine tail_any (IsTup.typeIs (s := { s with heap := h', toks := tk }) ht) slot_tuple_getitem.lookup (getItem_tuple ht (j := k.toNat) (by omega) (by omega) ?_ (by simpa using hv) (q v h' tk g t rv)) (subscripted_plain hs)
        have hk0 : ¬ k < 0 := by omega
        have hk1 : k < (l.length : Int) := by omega
        simp [seqIndex?, hk0, hsz, hk, hk1]
      · cases hm
    · rename_i hnt
      split at hm
      · rename_i l hl
        obtain ⟨a, vs, rfl, hL, r⟩ := ra.list hl
        split at hm
        · rename_i hz
          have hz' : l.length ≤ 65536 := by simpa [szOK] using hz
          have hsz : vs.size = l.length := by rw [← r.length, Array.length_toList]
          have hT : Shared.TypeIs { s with heap := h', toks := tk } (.ref a) "list" := by obtain ⟨o, ho, hc, _⟩ := hL; exact ⟨o, ho, hc⟩
          split at hm
          · rename_i hk
            obtain ⟨v, hv, rv⟩ := r.get' _ _ hm
            have hlt : k.toNat < l.length := by
              rcases Nat.lt_or_ge k.toNat l.length with h | h
              · exact h
              · rw [List.getElem?_eq_none h] at hm; cases hm
            exact tail_any hT slot_list_getitem.lookup (wpAny_getItem_list hL hk (by omega) (by simpa using hv) (q v h' tk g t rv)) (subscripted_plain hs)
          · rename_i hk
            split at hm
            · rename_i hk2
              obtain ⟨v, hv, rv⟩ := r.get' _ _ hm
              exact tail_any hT slot_list_getitem.lookup (wpAny_getItem_list_neg hL (by omega) (by rw [hsz]; exact hk2) (by omega) (by rw [hsz]; simpa using hv) (q v h' tk g t rv)) (subscripted_plain hs)
            · cases hm
        · cases hm
      · cases hm
  · cases hm

/-! slices -/
noncomputable def DenO (W : Wd) (n : Nat) (C : Scope) (sl : List Str) (e : Option Expr) (f : List LV → Option (Option Int)) : Prop :=
  ∀ {A : Around} {env : Env} {P : AP} {ℓ : List LV} {s : Shared} {o : Option Int} {E : Value → Shared → Prop} {Q : Value → Shared → Prop},
    Cx W n C A env s.heap s.toks → LRel P env sl ℓ s.heap s.toks → f ℓ = some o →
    (∀ v h' tk, Grow s.heap h' → s.toks ≤ tk → IsPart v o → Q v { s with heap := h', toks := tk }) → wpAny (model W.prog W.w) A (evalPart e env) Q E s
theorem den_part0 : DenO W n C sl none (fun _ => some none) := by
  intro A env P ℓ s o E Q X R e q
  cases e
  exact wpAny_evalPart_none (q _ s.heap s.toks (Grow.refl _) (Nat.le_refl _) .none)
theorem den_part {e : Expr} {f : LF} (D : DenA W n C sl e f) : DenO W n C sl (some e) (fun ℓ => match f ℓ with | some v => v.num.map some | none => none) := by
  intro A env P ℓ s o E Q X R e q
  dsimp only at e
  split at e
  · rename_i lv h
    cases hn : lv.num with
    | none => simp [hn] at e
    | some i =>
      simp [hn] at e; subst e
      refine wpAny_evalPart_some (D X R h fun v h' tk g t r => ?_)
      obtain ⟨u, rfl⟩ := r.num hn
      exact q _ h' tk g t (.int i u)
  · cases e
noncomputable def sliceF (fa : LF) (f1 f2 f3 : List LV → Option (Option Int)) : List LV → Option (List MV) := fun ℓ => match fa ℓ, f1 ℓ, f2 ℓ, f3 ℓ with
  | some o, some lo, some hi, some st => (match o.list? with
    | some l => if szOK l ∧ st ≠ some 0 then some (pick l lo hi st) else none
    | none => none)
  | _, _, _, _ => none
theorem subscripted_slice {lo hi st : Option Expr} {p : Pos} {o i : Value} : ∃ ops, subscripted (.Slice lo hi st p) false o i = operate ops (getItem o i) := by
  cases st with
  | none => exact ⟨_, rfl⟩
  | some _ => exact ⟨_, rfl⟩
theorem den_slice {a : Expr} {lo hi st : Option Expr} {p pos : Pos} {fa : LF} {f1 f2 f3} (Da : DenA W n C sl a fa) (D1 : DenO W n C sl lo f1) (D2 : DenO W n C sl hi f2) (D3 : DenO W n C sl st f3) :
    DenN W n C sl (.Subscript a (.Slice lo hi st p) pos) (sliceF fa f1 f2 f3) := by
  intro A env P ℓ s l E Q X R e q
  unfold sliceF at e
  split at e
  · rename_i o plo phi pst h0 h1 h2 h3
    split at e
    · rename_i l' hl
      split at e
      · rename_i hc
        obtain ⟨hz, hst⟩ := hc
        cases e
        have hz' : l'.length ≤ 65536 := by simpa [szOK] using hz
        refine Subscript_ (Da X R h0 fun va s1 tk1 g1 t1 ra => ?_)
        have X1 := X.grow g1 t1
        have R1 := R.grow (fun a p => PF.sub (h := s.heap) p) g1 t1
        refine wpAny_Slice (D1 (s := { s with heap := s1, toks := tk1 }) X1 R1 h1 fun v1 s2 tk2 g2 t2 p1 => ?_)
        have X2 := X1.grow g2 t2
        have R2 := R1.grow (fun a p => p) g2 t2
        refine D2 (s := { s with heap := s2, toks := tk2 }) X2 R2 h2 fun v2 s3 tk3 g3 t3 p2 => ?_
        have X3 := X2.grow g3 t3
        have R3 := R2.grow (fun a p => p) g3 t3
        refine D3 (s := { s with heap := s3, toks := tk3 }) X3 R3 h3 fun v3 s4 tk4 g4 t4 p3 => ?_
        obtain ⟨a, vs, rfl, hL, r⟩ := (ra.step ((g2.trans g3).trans g4) (Nat.le_trans t2 (Nat.le_trans t3 t4))).list hl
        have G : Grow s.heap s4 := ((g1.trans g2).trans g3).trans g4
        have hL' := hL.push (o := { cls := Value.type "slice", data := Data.fields #[v1, v2, v3] })
        have hT : Shared.TypeIs { s with heap := s4.push { cls := Value.type "slice", data := Data.fields #[v1, v2, v3] }, toks := tk4 } (.ref a) "list" := by obtain ⟨o, ho, hc, _⟩ := hL'; exact ⟨o, ho, hc⟩
        obtain ⟨ops, hops⟩ := @subscripted_slice lo hi st p (.ref a) (.ref s4.objs.size)
        have hsz : vs.size = l'.length := by rw [← r.length, Array.length_toList]
        refine tail_any hT slot_list_getitem.lookup (wpAny_getItem_list_slice (sl := s4.objs.size) hL' ⟨_, Heap.get?_push_size _ rfl, rfl, rfl⟩ p1 p2 p3 hst ?_ (by rw [hsz, sizeLine_eq]; omega)) hops
        refine newN (s := s) (h₁ := s4.push { cls := Value.type "slice", data := Data.fields #[v1, v2, v3] }) (tk := tk4) (G.trans (Grow.push _ _)) (Nat.le_trans t1 (Nat.le_trans t2 (Nat.le_trans t3 t4))) ?_ q
        exact VRs.pick (r.grow (Grow.push _ _) (Nat.le_refl _)) _ _ _
      · cases e
    · cases e
  · cases e
end
end Mine
end
section
open PySem PySem.W PyProof.Rows PySem.Calls
set_option Elab.async false
set_option linter.unusedVariables false
namespace Mine
mutual
noncomputable def py : MV → Option PyData
  | .int i => some (.int i)
  | .fint i => some (.int i)
  | .lo i _ => some (.int i)
  | .hi i _ => some (.int i)
  | .opq _ => none
  | .bool b => some (.bool b)
  | .non => some .none
  | .str s => some (.str s)
  | .list l => (pys l).map .list
  | .tup l => (pys l).map .tuple
  | .ws .. => none
noncomputable def pys : List MV → Option (List PyData)
  | [] => some []
  | m :: ms => match py m, pys ms with
    | some d, some ds => some (d :: ds)
    | _, _ => none
end
theorem py_list (l : List MV) : py (.list l) = (pys l).map .list := by rw [py]
theorem py_tup (l : List MV) : py (.tup l) = (pys l).map .tuple := by rw [py]
theorem pys_cons (m : MV) (ms : List MV) : pys (m :: ms) = match py m, pys ms with
    | some d, some ds => some (d :: ds)
    | _, _ => none := by rw [pys]
theorem VR.reads {P : AP} {h : Heap} {T : Nat} {m : MV} {v : Value} {d : PyData} (x : VR P h T m v) (q : py m = some d) : ∃ as, Reads h v d as := by
  revert v d
  refine MV.rec (motive_1 := fun m => ∀ {v d}, VR P h T m v → py m = some d → ∃ as, Reads h v d as) (motive_2 := fun ms => ∀ {vs ds}, VRs P h T ms vs → pys ms = some ds → ∃ as, ReadsAll h vs ds as)
    ?_ ?_ ?_ ?_ ?_ ?_ ?_ ?_ ?_ ?_ ?_ ?_ ?_ m
  · rintro i v d ⟨t, rfl⟩ q; rw [py] at q; cases q; exact ⟨_, .int i t⟩
  · rintro i v d ⟨t, rfl, _⟩ q; rw [py] at q; cases q; exact ⟨_, .int i t⟩
  · rintro i T0 v d ⟨t, rfl, _⟩ q; rw [py] at q; cases q; exact ⟨_, .int i t⟩
  · rintro i T0 v d ⟨t, rfl, _⟩ q; rw [py] at q; cases q; exact ⟨_, .int i t⟩
  · intro u v d x q; rw [py] at q; cases q
  · intro b v d x q; rw [py] at q; have e : v = .bool b := x; subst e; cases q; exact ⟨_, .bool b⟩
  · intro v d x q; rw [py] at q; have e : v = .none := x; subst e; cases q; exact ⟨_, .none⟩
  · rintro y v d ⟨t, rfl⟩ q; rw [py] at q; cases q; exact ⟨_, .str y t⟩
  · rintro l ih v d ⟨a, vs, rfl, _, ⟨n, ho⟩, r⟩ q
    rw [py_list] at q
    cases hl : pys l with
    | none => simp [hl] at q
    | some ds =>
      simp [hl] at q; subst q
      obtain ⟨as, ra⟩ := ih r hl
      exact ⟨_, .list ho rfl rfl ra⟩
  · rintro l ih v d ⟨a, vs, rfl, _, ⟨o, ho, hc, n, hd⟩, r⟩ q
    rw [py_tup] at q
    cases hl : pys l with
    | none => simp [hl] at q
    | some ds =>
      simp [hl] at q; subst q
      obtain ⟨as, ra⟩ := ih r hl
      exact ⟨_, .tuple ho hc hd ra⟩
  · intro raw count b n nt v d x q
    rw [py] at q; cases q
  · intro vs ds e q
    have e' : vs = [] := e
    subst e'
    rw [pys] at q; cases q; exact ⟨_, .nil⟩
  · rintro m ms ih1 ih2 vs ds ⟨v, r, rfl, x, y⟩ q
    rw [pys_cons] at q
    cases hm : py m with
    | none => simp [hm] at q
    | some d =>
      cases hs : pys ms with
      | none => simp [hm, hs] at q
      | some ds' =>
        simp [hm, hs] at q; subst q
        obtain ⟨as, ra⟩ := ih1 x hm
        obtain ⟨bs, rb⟩ := ih2 y hs
        exact ⟨_, .cons ra rb⟩

/-! comparisons -/
noncomputable def eqF : LV → LV → Option Bool := fun x y => match x.num, y.num with
  | some a, some b => some (a == b)
  | _, _ => match x.mv, y.mv with
    | some m, some k => (match py m, py k with
      | some d, some e => if SeqAt.shaped d && SeqAt.shaped e then some (d.eqv e) else none
      | _, _ => none)
    | _, _ => none
theorem ok_eq (W : Wd) : CmpOK W .Eq eqF := by
  intro A P s x y va vb b E Q hh hu rx ry e q
  unfold eqF at e
  split at e
  · rename_i a b' ha hb
    cases e
    obtain ⟨t, rfl⟩ := rx.num ha
    obtain ⟨u, rfl⟩ := ry.num hb
    exact eq_int q
  · split at e
    · rename_i m k hm hk
      split at e
      · rename_i d e' hd he
        split at e
        · rename_i hc
          cases e
          rw [Bool.and_eq_true] at hc
          obtain ⟨as, ra⟩ := (rx.mv hm).reads hd
          obtain ⟨bs, rb⟩ := (ry.mv hk).reads he
          exact eq_dataH ra rb hc.1 hc.2 (by omega) q
        · cases e
      · cases e
    · cases e
theorem ok_ne (W : Wd) : CmpOK W .NotEq (fun x y => (eqF x y).map (!·)) := by
  intro A P s x y va vb b E Q hh hu rx ry e q
  dsimp only at e
  cases he : eqF x y with
  | none => simp [he] at e
  | some b' =>
    rw [he] at e
    have e' : (!b') = b := Option.some.inj e
    subst e'
    unfold eqF at he
    split at he
    · rename_i a b2 ha hb
      have he' := Option.some.inj he
      subst he'
      obtain ⟨t, rfl⟩ := rx.num ha
      obtain ⟨u, rfl⟩ := ry.num hb
      exact ne_int q
    · split at he
      · rename_i m k hm hk
        split at he
        · rename_i d e' hd he'
          split at he
          · rename_i hc
            have he'' := Option.some.inj he
            subst he''
            rw [Bool.and_eq_true] at hc
            obtain ⟨as, ra⟩ := (rx.mv hm).reads hd
            obtain ⟨bs, rb⟩ := (ry.mv hk).reads he'
            exact ne_dataH ra rb hc.1 hc.2 (by omega) q
          · cases he
        · cases he
      · cases he
noncomputable def intCmp (g : Int → Int → Bool) : LV → LV → Option Bool := fun x y => match x.num, y.num with
  | some a, some b => some (g a b)
  | _, _ => none
theorem intCmp_some {g x y b} (e : intCmp g x y = some b) : ∃ i j, x.num = some i ∧ y.num = some j ∧ g i j = b := by
  unfold intCmp at e
  split at e
  · rename_i a b' ha hb; cases e; exact ⟨a, b', ha, hb, rfl⟩
  · cases e
theorem ok_lt (W : Wd) : CmpOK W .Lt (intCmp fun a b => decide (a < b)) := by
  intro A P s x y va vb b E Q hh hu rx ry e q
  obtain ⟨i, j, hi, hj, rfl⟩ := intCmp_some e
  obtain ⟨t, rfl⟩ := rx.num hi
  obtain ⟨u, rfl⟩ := ry.num hj
  exact lt_int q
theorem ok_gt (W : Wd) : CmpOK W .Gt (intCmp fun a b => decide (b < a)) := by
  intro A P s x y va vb b E Q hh hu rx ry e q
  obtain ⟨i, j, hi, hj, rfl⟩ := intCmp_some e
  obtain ⟨t, rfl⟩ := rx.num hi
  obtain ⟨u, rfl⟩ := ry.num hj
  exact gt_int q
theorem ok_ge (W : Wd) : CmpOK W .GtE (intCmp fun a b => decide (b ≤ a)) := by
  intro A P s x y va vb b E Q hh hu rx ry e q
  obtain ⟨i, j, hi, hj, rfl⟩ := intCmp_some e
  obtain ⟨t, rfl⟩ := rx.num hi
  obtain ⟨u, rfl⟩ := ry.num hj
  exact ge_int q
noncomputable def LV.bool? : LV → Option Bool
  | .val (.bool a) => some a
  | _ => none
theorem LR.bool {P : AP} {h : Heap} {T : Nat} {x : LV} {v : Value} {a : Bool} (r : LR P h T x v) (e : x.bool? = some a) : v = .bool a := by
  cases x with
  | val m => cases m <;> first | (cases e; done) | (cases e; exact r)
  | _ => cases e
noncomputable def isNotF : LV → LV → Option Bool := fun x y => match x.bool?, y.bool? with
  | some a, some b => some (!(a == b))
  | _, _ => none
theorem ok_isNot (W : Wd) : CmpOK W .IsNot isNotF := by
  intro A P s x y va vb b E Q hh hu rx ry e q
  have e' : ∃ a c, x.bool? = some a ∧ y.bool? = some c ∧ b = !(a == c) := by
    unfold isNotF at e
    cases hx : x.bool? with
    | none => rw [hx] at e; cases e
    | some a =>
      cases hy : y.bool? with
      | none => rw [hx, hy] at e; cases e
      | some c => rw [hx, hy] at e; cases e; exact ⟨a, c, rfl, rfl, rfl⟩
  obtain ⟨a, c, hx, hy, rfl⟩ := e'
  have e1 : va = .bool a := rx.bool hx
  have e2 : vb = .bool c := ry.bool hy
  subst e1 e2
  refine wpAny_isNot_plain rfl ?_
  have : (Value.bool a == Value.bool c) = (a == c) := by cases a <;> cases c <;> rfl
  rw [this]; exact q
noncomputable def inF : LV → LV → Option Bool := fun x y => match x.num, y.list? with
  | some k, some l => (match nums l with
    | some ns => some (ns.any (· == k))
    | none => none)
  | _, _ => none
theorem ok_in (W : Wd) : CmpOK W .In inF := by
  intro A P s x y va vb b E Q hh hu rx ry e q
  unfold inF at e
  split at e
  · rename_i k l hk hl
    split at e
    · rename_i ns hn
      cases e
      obtain ⟨t, rfl⟩ := rx.num hk
      obtain ⟨a, vs, rfl, hL, r⟩ := ry.list hl
      exact in_list_ints (vs := vs.toList) (by simpa using hL) (r.nums hn) q
    · cases e
  · cases e

/-! arithmetic -/
noncomputable def small (i : Int) : Bool := decide (-1000000000000 < i) && decide (i < 1000000000000)
theorem small_iff {i : Int} (h : small i = true) : -1000000000000 < i ∧ i < 1000000000000 := by simpa [small] using h
noncomputable def catF (l k : List MV) : Option MV := if szOK l && szOK k then some (.list (l ++ k)) else none
noncomputable def addF : LV → LV → Option MV := fun x y => match x.num, y.num with
  | some a, some b => some (.fint (a + b))
  | _, _ => match x, y with
    | .val (.str a), .val (.str b) => if a.length + b.length ≤ 100000 then some (.str (a ++ b)) else none
    | x, y => match x.list?, y.list? with
      | some l, some k => catF l k
      | _, _ => none
theorem add_lists_raw {prog : Program} {w : World} {A : Around} {E : Value → Shared → Prop} {s : Shared} {l b : Addr} {vs ws : Array Value} {Q : Value → Shared → Prop}
    (hl : s.heap.IsList l vs) (hb : s.heap.IsList b ws) (hsz : vs.size + ws.size ≤ sizeLine)
    (h : Q (.ref s.heap.objs.size) { s with heap := s.heap.push { cls := .type "list", data := .seq (vs ++ ws) } }) :
    wpAny (model prog w) A (binaryOp .Add (.ref l) (.ref b)) Q E s := by
  obtain ⟨⟨cls, dd, data, sl⟩, ho, hc, n, hd⟩ := id hl
  obtain ⟨⟨cls2, dd2, data2, sl2⟩, ho2, hc2, n2, hd2⟩ := id hb
  simp only at hc hd hc2 hd2
  subst hc hd hc2 hd2
  exact concat_meets ⟨_, ho, rfl⟩ ⟨_, ho2, rfl⟩ noFill_list_add seq_list_add PySem.F.slot_list_add PySem.F.entry_list_add (PySem.F.args_list_add_2 _ _) (list_addW l b vs ws n n2 dd dd2 sl sl2 hsz) ⟨ho, ho2, h⟩
theorem ok_add (W : Wd) : BinOK W (binaryOp .Add) addF := by
  intro A P s x y va vb m E Q hh hu ht rx ry e q
  unfold addF at e
  split at e
  · rename_i a b ha hb
    cases e
    obtain ⟨t, rfl⟩ := rx.num ha
    obtain ⟨u, rfl⟩ := ry.num hb
    exact add_int (q _ s.heap _ (Grow.refl _) (Nat.le_succ _) ⟨_, rfl, ht, Nat.lt_succ_self _⟩)
  · split at e
    · rename_i a b
      split at e
      · rename_i hc
        cases e
        obtain ⟨t, rfl⟩ := rx
        obtain ⟨u, rfl⟩ := ry
        refine mono_toks' fun E' => add_str (fun t' tk ht' => q _ s.heap tk (Grow.refl _) ht' ⟨_, rfl⟩) (by rw [sizeLine_eq]; omega)
      · cases e
    · split at e
      · rename_i l k hl hk
        obtain ⟨a, vs, rfl, hL, r⟩ := rx.list hl
        obtain ⟨b, us, rfl, hK, r2⟩ := ry.list hk
        unfold catF at e
        split at e
        · rename_i hc
          cases e
          rw [Bool.and_eq_true] at hc
          have h1 : l.length ≤ 65536 := by simpa [szOK] using hc.1
          have h2 : k.length ≤ 65536 := by simpa [szOK] using hc.2
          have e1 : vs.size = l.length := by rw [← r.length, Array.length_toList]
          have e2 : us.size = k.length := by rw [← r2.length, Array.length_toList]
          refine add_lists_raw hL hK (by rw [sizeLine_eq]; omega) ?_
          refine q _ _ s.toks (Grow.push _ _) (Nat.le_refl _) ⟨_, vs ++ us, rfl, .inr (none_of_size (Grow.refl _)), plain_new .., ?_⟩
          rw [Array.toList_append]
          exact VRs.sub (fun a p => PF.sub p) (VRs.grow (Grow.push _ _) (Nat.le_refl _) (r.append r2))
        · cases e
      · cases e
noncomputable def intBin (g : Int → Int → Option MV) : LV → LV → Option MV := fun x y => match x.num, y.num with
  | some a, some b => g a b
  | _, _ => none
theorem intBin_some {g x y m} (e : intBin g x y = some m) : ∃ i j, x.num = some i ∧ y.num = some j ∧ g i j = some m := by
  unfold intBin at e
  split at e
  · rename_i a b' ha hb; exact ⟨a, b', ha, hb, e⟩
  · cases e
theorem ok_sub (W : Wd) : BinOK W (binaryOp .Sub) (intBin fun a b => some (.fint (a - b))) := by
  intro A P s x y va vb m E Q hh hu ht rx ry e q
  obtain ⟨i, j, hi, hj, e⟩ := intBin_some e
  cases e
  obtain ⟨t, rfl⟩ := rx.num hi
  obtain ⟨u, rfl⟩ := ry.num hj
  exact sub_int (q _ s.heap _ (Grow.refl _) (Nat.le_succ _) ⟨_, rfl, ht, Nat.lt_succ_self _⟩)
theorem small_mul {i j : Int} (h : small i = true) : IntMulOk i j := IntMulOk.of_left (intBits_le_64 (by have := small_iff h; omega) (by have := small_iff h; omega))
theorem ok_mulI (W : Wd) : BinOK W (binaryOp .Mult) (intBin fun a b => if small a then some (.fint (a * b)) else none) := by
  intro A P s x y va vb m E Q hh hu ht rx ry e q
  obtain ⟨i, j, hi, hj, e⟩ := intBin_some e
  split at e
  · rename_i hs
    cases e
    obtain ⟨t, rfl⟩ := rx.num hi
    obtain ⟨u, rfl⟩ := ry.num hj
    exact mul_int (q _ s.heap _ (Grow.refl _) (Nat.le_succ _) ⟨_, rfl, ht, Nat.lt_succ_self _⟩) (small_mul hs)
  · cases e
theorem ok_mod (W : Wd) : BinOK W (binaryOp .Mod) (intBin fun a b => if b = 0 then none else some (.fint (a.fmod b))) := by
  intro A P s x y va vb m E Q hh hu ht rx ry e q
  obtain ⟨i, j, hi, hj, e⟩ := intBin_some e
  split at e
  · cases e
  · rename_i hb
    cases e
    obtain ⟨t, rfl⟩ := rx.num hi
    obtain ⟨u, rfl⟩ := ry.num hj
    exact mod_int' hb (q _ s.heap _ (Grow.refl _) (Nat.le_succ _) ⟨_, rfl, ht, Nat.lt_succ_self _⟩)
theorem ok_div (W : Wd) : BinOK W (binaryOp .FloorDiv) (intBin fun a b => if b = 0 then none else if -1000000000 < b ∧ b < 1000000000 then some (.fint (a.fdiv b)) else none) := by
  intro A P s x y va vb m E Q hh hu ht rx ry e q
  obtain ⟨i, j, hi, hj, e⟩ := intBin_some e
  split at e
  · cases e
  · rename_i hb
    split at e
    · rename_i hs
      cases e
      obtain ⟨t, rfl⟩ := rx.num hi
      obtain ⟨u, rfl⟩ := ry.num hj
      exact floordiv_int hb (q _ s.heap _ (Grow.refl _) (Nat.le_succ _) ⟨_, rfl, ht, Nat.lt_succ_self _⟩) (.inl (PyProof.noPylong_small (by omega)))
    · cases e
/-- dots: a text times a small number -/
noncomputable def mulS : LV → LV → Option MV := fun x y => match x, y.num with
  | .val (.str a), some k => if a.length ≤ 1000 ∧ 0 ≤ k ∧ k ≤ 1000 then some (.str (Txt.mul a k)) else none
  | _, _ => none
theorem mulOk_small {a : Str} {k : Int} (h1 : a.length ≤ 1000) (h2 : 0 ≤ k) (h3 : k ≤ 1000) : MulOk a k := by
  refine ⟨by simp; omega, fun _ _ => ?_, fun _ _ => ?_⟩
  · have : (1000 : Int) ≤ (2 ^ 63 - 1) / k := by
      rcases Int.lt_or_le k 1 with h | h
      · omega
      · exact (Int.le_ediv_iff_mul_le (by omega)).mpr (by omega)
    omega
  · have : a.length * k.toNat ≤ 1000 * 1000 := Nat.mul_le_mul h1 (by omega)
    unfold Builtin.Str.tooLong
    rw [sizeLine_eq]
    simp; omega
theorem ok_mulS (W : Wd) : BinOK W (binaryOp .Mult) mulS := by
  intro A P s x y va vb m E Q hh hu ht rx ry e q
  unfold mulS at e
  split at e
  · rename_i a k hk
    split at e
    · rename_i hc
      cases e
      obtain ⟨t, rfl⟩ := rx
      obtain ⟨u, rfl⟩ := ry.num hk
      exact mono_toks' fun E' => SB.mul (mulOk_small hc.1 hc.2.1 hc.2.2) (fun t' tk ht' => q _ s.heap tk (Grow.refl _) ht' ⟨_, rfl⟩)
    · cases e
  · cases e
end Mine
end
section
open PySem PySem.W PyProof.Rows PySem.Calls
set_option Elab.async false
set_option linter.unusedVariables false
namespace Mine

/-! walking over a row of items -/
structure MW (prog : Program) (w : World) (A : Around) (I : Addr) (fp wr : List Addr) (n : Nat) (Pt : Nat → Nat → Value → Prop) (St : Nat → Heap → Prop) : Prop where
  sub : ∀ b ∈ wr, b ∈ fp
  frame : ∀ i h h', St i h → (∀ b ∈ fp, ∀ o, h.get? b = some o → h'.get? b = some o) → St i h'
  item : ∀ i (s : Shared) (Q : Option Value → Shared → Prop) (E : Value → Shared → Prop), i < n → St i s.heap → 0 < s.toks →
    (∀ v h' tk, s.toks ≤ tk → Pt i tk v → St (i + 1) h' → (∀ b o, b ∉ wr → s.heap.get? b = some o → h'.get? b = some o) → Q (some v) { s with heap := h', toks := tk }) → wpAny (model prog w) A (pyNext (.ref I)) Q E s
  done : ∀ (s : Shared) (Q : Option Value → Shared → Prop) (E : Value → Shared → Prop), St n s.heap →
    (∀ h' tk, s.toks ≤ tk → (∀ b o, b ∉ wr → s.heap.get? b = some o → h'.get? b = some o) → Q none { s with heap := h', toks := tk }) → wpAny (model prog w) A (pyNext (.ref I)) Q E s
  self : ∀ i (s : Shared) (Q : Value → Shared → Prop) (E : Value → Shared → Prop), St i s.heap → Q (.ref I) s → wpAny (model prog w) A (pyIter (.ref I)) Q E s
  live : ∀ i h, St i h → ∀ b ∈ wr, ∃ o, h.get? b = some o ∧ nodeObj o = false
theorem MW.of {prog w A I fp wr n P St} (x : Walks prog w A I fp wr n P St) (live : ∀ i h, St i h → ∀ b ∈ wr, ∃ o, h.get? b = some o ∧ nodeObj o = false) : MW prog w A I fp wr n (fun i _ v => P i v) St where
  sub := x.sub
  frame := x.frame
  item := fun i s Q E hi st _ hQ => mono_toks' fun E' => x.item i s _ E' hi st fun v h' tk p st' k ht => hQ v h' tk ht p st' k
  done := fun s Q E st hQ => mono_toks' fun E' => x.done s _ E' st fun h' tk k ht => hQ h' tk ht k
  self := x.self
  live := live
theorem MW.range {prog : Program} {w : World} {A : Around} (hh : A.handled = none) (I : Addr) (a c : Int) (n : Nat) :
    MW prog w A I [I] [I] n (fun i T v => ∃ t, v = .int (a + (i : Nat) * c) t ∧ 0 < t ∧ t < T) (fun i h => IsRangeIter h I (a + (i : Nat) * c) ((n : Int) - (i : Nat)) c) where
  sub := (Walks.range (prog := prog) (w := w) hh I a c n).sub
  frame := (Walks.range (prog := prog) (w := w) hh I a c n).frame
  item := fun i s Q E hi st ht hQ => by
    refine wpAny_pyNext_range_item st (by omega) fun h' hit hs => ?_
    refine hQ _ h' _ (Nat.le_succ _) ⟨_, rfl, ht, Nat.lt_succ_self _⟩ ?_ fun b o hb e => hs.extBut b o (fun q => hb (by simp [q])) e
    have e1 : a + ((i + 1 : Nat) : Int) * c = a + (i : Nat) * c + c := by rw [Int.natCast_succ, Int.add_mul]; omega
    have e2 : (n : Int) - ((i + 1 : Nat) : Int) = (n : Int) - (i : Nat) - 1 := by omega
    show IsRangeIter h' I _ _ c
    rw [e1, e2]; exact hit
  done := fun s Q E st hQ => mono_toks' fun E' => (Walks.range (prog := prog) (w := w) hh I a c n).done s _ E' st fun h' tk k ht => hQ h' tk ht k
  self := (Walks.range (prog := prog) (w := w) hh I a c n).self
  live := fun i h st b hb => by rw [List.mem_singleton.mp hb]; exact ⟨_, st, rfl⟩

/-- a source of items; strong: a statement's body may go on in between -/
noncomputable def DenI (strong : Bool) (W : Wd) (n : Nat) (C : Scope) (sl : List Str) (e : Expr) (f : List LV → Option (List MV)) : Prop :=
  ∀ {A : Around} {env : Env} {P : AP} {ℓ : List LV} {s : Shared} {items : List MV} {E : Value → Shared → Prop} {K : Value → Shared → Prop},
    Cx W n C A env s.heap s.toks → LRel P env sl ℓ s.heap s.toks → f ℓ = some items →
    (∀ I fp wr Pt St h₂ tk, Grow s.heap h₂ → s.toks ≤ tk → MW W.prog W.w A I fp wr items.length Pt St → St 0 h₂ → (∀ b ∈ fp, ∃ o, h₂.get? b = some o) → (∀ b ∈ wr, s.heap.get? b = none) → (strong = true → ∀ b ∈ fp, PF P s.heap b) →
      (∀ i T v, tk ≤ T → Pt i T v → ∃ m, items[i]? = some m ∧ VR (fun b => PF P s.heap b ∧ b ∉ wr) h₂ T m v) → items.length ≤ sizeLine → K (.ref I) { s with heap := h₂, toks := tk }) →
    wpAny (model W.prog W.w) A (eval e env) (fun x s₁ => wpAny (model W.prog W.w) A (pyIter x) K E s₁) E s

section
variable {W : Wd} {n : Nat} {C : Scope} {sl : List Str}

theorem list_walk {strong : Bool} {A : Around} {P : AP} {s : Shared} {h₁ : Heap} {tk₁ : Nat} {l : List MV} {a : Addr} {vs : Array Value} {E : Value → Shared → Prop} {K : Value → Shared → Prop} (hh : A.handled = none)
    (g : Grow s.heap h₁) (t : s.toks ≤ tk₁) (hL : h₁.IsList a vs) (r : VRs (PF P s.heap) h₁ tk₁ l vs.toList) (hz : l.length ≤ 65536) (hs : strong = true → PF P s.heap a)
    (q : ∀ I fp wr Pt St h₂ tk, Grow s.heap h₂ → s.toks ≤ tk → MW W.prog W.w A I fp wr l.length Pt St → St 0 h₂ → (∀ b ∈ fp, ∃ o, h₂.get? b = some o) → (∀ b ∈ wr, s.heap.get? b = none) → (strong = true → ∀ b ∈ fp, PF P s.heap b) →
      (∀ i T v, tk ≤ T → Pt i T v → ∃ m, l[i]? = some m ∧ VR (fun b => PF P s.heap b ∧ b ∉ wr) h₂ T m v) → l.length ≤ sizeLine → K (.ref I) { s with heap := h₂, toks := tk }) :
    wpAny (model W.prog W.w) A (pyIter (.ref a)) K E { s with heap := h₁, toks := tk₁ } := by
  have hsz : vs.size = l.length := by rw [← r.length, Array.length_toList]
  have ha : a < h₁.objs.size := by obtain ⟨o, ho, _⟩ := hL; exact Heap.lt_size ho
  refine wpAny_pyIter_list (s := { s with heap := h₁, toks := tk₁ }) hL ?_
  have Wk := MW.of (Walks.list (prog := W.prog) (w := W.w) hh h₁.objs.size a (Nat.ne_of_lt ha) vs) (fun i h st b hb => by rw [List.mem_singleton.mp hb]; obtain ⟨⟨o, ho, hc, hd⟩, _⟩ := st; exact ⟨o, ho, by unfold nodeObj; rw [hd]⟩)
  rw [hsz] at Wk
  refine q h₁.objs.size _ _ _ _ _ tk₁ (g.trans (Grow.push _ _)) t Wk ⟨⟨_, Heap.get?_push_size _ rfl, rfl, rfl⟩, hL.push _⟩ ?_ ?_ ?_ ?_ (by rw [sizeLine_eq]; omega)
  · intro b hb
    rcases List.mem_cons.mp hb with rfl | hb
    · exact ⟨_, Heap.get?_push_size _ rfl⟩
    · rw [List.mem_singleton.mp hb]
      obtain ⟨o, ho, _⟩ := hL
      exact ⟨o, Grow.push _ _ _ _ ho⟩
  · intro b hb
    rw [List.mem_singleton.mp hb]; exact none_of_size g
  · intro e b hb
    rcases List.mem_cons.mp hb with rfl | hb
    · exact .inr (none_of_size g)
    · rw [List.mem_singleton.mp hb]; exact hs e
  · intro i T v hT hv
    obtain ⟨m, hm, rm⟩ := r.get i v (by simpa using hv)
    refine ⟨m, hm, ((rm.avoid (Heap.get?_none_of_le (Nat.le_refl _))).grow (Grow.push _ _) hT).sub fun b p => ⟨p.1, fun q => p.2 (List.mem_singleton.mp q)⟩⟩

theorem den_iterA {e : Expr} {f : LF} (D : DenA W n C sl e f) : DenI false W n C sl e (fun ℓ => match f ℓ with | some lv => (match lv.list? with | some l => if szOK l then some l else none | none => none) | none => none) := by
  intro A env P ℓ s items E K X R e q
  dsimp only at e
  split at e
  · rename_i lv hlv
    split at e
    · rename_i l hl
      split at e
      · rename_i hz
        cases e
        refine D X R hlv fun v h₁ tk₁ g t r => ?_
        obtain ⟨a, vs, rfl, hL, r'⟩ := r.list hl
        exact list_walk X.handled g t hL r' (by simpa [szOK] using hz) (fun h => by cases h) q
      · cases e
    · cases e
  · cases e

/-! names of the top and of the built-ins -/
noncomputable def GName (W : Wd) (x : Str) (v : Value) : Prop := W.mg x = some v ∨ (W.mg x = none ∧ W.mb x = some v)
theorem load_g (O : W.Ok) {A env s x pos v E} {Q : Value → Shared → Prop} (X : Cx W n C A env s.heap s.toks) (hx : C.names.lookup x = some .globalImplicit) (hd : (x == ("__debug__" : Str)) = false) (g : GName W x v) (q : Q v s) :
    wpAny (model W.prog W.w) A (eval (.Name x pos) env) Q E s := by
  have hk : env.kindOf x = some .globalImplicit := by unfold Env.kindOf; rw [X.scope]; exact hx
  rcases g with e | ⟨e1, e2⟩
  · exact Name_function_global X.kindE hk (loadGlobal_global (by rw [X.globals]; exact O.g.keeps X.base) e q) hd
  · exact Name_function_global X.kindE hk (loadGlobal_builtin (by rw [X.globals]; exact O.g.keeps X.base) e1 (by rw [X.builtins]; exact O.b.keeps X.base) e2 q) hd

/-- how a value is called -/
noncomputable def CallForm (W : Wd) (v : Value) : Prop := (∃ id, v = .builtin id) ∨ (∃ T, v = .type T) ∨ (∃ a o fd, v = .ref a ∧ W.hB.get? a = some o ∧ o.data = .func fd)
noncomputable def OneArg (args : List Expr) : Prop := ∀ env pos, ∃ x rest, backTo pos (starEach args env) = (false, x) :: rest ∧ rest.any (·.1) = false
theorem call_form {A env s fv pos args E} {Q : Value → Shared → Prop} (X : Cx W n C A env s.heap s.toks) (hf : CallForm W fv) (h1 : OneArg args)
    (h : wpAny (model W.prog W.w) A (spliced (backTo pos (starEach args env))) (fun vs s₁ => Grow s.heap s₁.heap ∧ wpAny (model W.prog W.w) A (call fv vs) Q E s₁) E s) :
    wpAny (model W.prog W.w) A (callWith pos fv [] (backTo pos (starEach args env)) []) Q E s := by
  obtain ⟨x, rest, e, hr⟩ := h1 env pos
  rw [e] at h ⊢
  have hany : ((false, x) :: rest).any (·.1) = false := by simpa using hr
  rcases hf with ⟨id, rfl⟩ | ⟨T, rfl⟩ | ⟨a, o, fd, rfl, ho, hd⟩
  · exact callWith_builtin hany (evalArgs_plain (wpAny_mono h (fun _ _ y => y.2) fun _ _ y => y))
  · exact PyProof.Rows.callWith_type hany (evalArgs_plain (wpAny_mono h (fun _ _ y => y.2) fun _ _ y => y))
  · exact callWith_function (o := o) (fd := fd) (evalArgs_plain (wpAny_mono h (fun vs s₁ y => ⟨⟨y.1 _ _ (X.base _ _ ho), hd⟩, y.2⟩) fun _ _ y => y))

/-- the surroundings of a call -/
structure Cs (W : Wd) (n : Nat) (A : Around) (h : Heap) (T : Nat) : Prop where
  base : Grow W.hB h
  tok : 0 < T
  handled : A.handled = none
  depth : A.depth + n < recursionLimit
  units : A.units + 20 * n + 100 < cLine
  frames : ∃ out, A.frames = some out ∧ h.FunFrames W.hB out
theorem Cx.cs {A env h T} (X : Cx W n C A env h T) : Cs W n A h T := ⟨X.base, X.tok, X.handled, X.depth, X.units, X.frames⟩
noncomputable def CallOK (W : Wd) (n : Nat) (fv : Value) (F : List LV → Option MV) : Prop :=
  ∀ {A : Around} {P : AP} {s : Shared} {lvs : List LV} {vs : List Value} {m : MV} {E : Value → Shared → Prop} {Q : Value → Shared → Prop},
    Cs W n A s.heap s.toks → Paired (LR P s.heap s.toks) lvs vs → F lvs = some m →
    (∀ v h' tk, Grow s.heap h' → s.toks ≤ tk → VR (PF P s.heap) h' tk m v → Q v { s with heap := h', toks := tk }) → wpAny (model W.prog W.w) A (call fv vs) Q E s

theorem den_call (O : W.Ok) {x : Str} {np pos : Pos} {args : List Expr} {g} {fv : Value} {F : List LV → Option MV} (hx : C.names.lookup x = some .globalImplicit) (hd : (x == ("__debug__" : Str)) = false) (hg : GName W x fv) (hf : CallForm W fv) (h1 : OneArg args)
    (Da : DenLA W n C sl args g) (hF : CallOK W n fv F) : DenE W n C sl (.Call (.Name x np) args [] pos) (fun ℓ => match g ℓ with | some a => F a | none => none) := by
  intro A env P ℓ s m E Q X R e q
  dsimp only at e
  split at e
  · rename_i lvs hl
    refine Call_Name (trees := backTo pos (starEach args env)) rfl (load_g O X hx hd hg (call_form X hf h1 (Da X R hl fun vs h₁ tk₁ g₁ t₁ p => ⟨g₁, ?_⟩)))
    refine hF (s := { s with heap := h₁, toks := tk₁ }) (X.grow g₁ t₁).cs p e fun v h' tk g' t' r => ?_
    exact q v h' tk (g₁.trans g') (Nat.le_trans t₁ t') (r.sub (fun a p => PF.sub2 g₁ p))
  · cases e

/-- a fresh list from a call -/
noncomputable def CallOKN (W : Wd) (n : Nat) (fv : Value) (F : List LV → Option (List MV)) : Prop :=
  ∀ {A : Around} {P : AP} {s : Shared} {lvs : List LV} {vs : List Value} {m : List MV} {E : Value → Shared → Prop} {Q : Value → Shared → Prop},
    Cs W n A s.heap s.toks → Paired (LR P s.heap s.toks) lvs vs → F lvs = some m →
    (∀ a us h' tk P', (∀ b, P' b → PF P s.heap b) → ¬ P' a → s.heap.get? a = none → Grow s.heap h' → s.toks ≤ tk → h'.PlainList a us → VRs P' h' tk m us.toList → Q (.ref a) { s with heap := h', toks := tk }) → wpAny (model W.prog W.w) A (call fv vs) Q E s
theorem den_callN (O : W.Ok) {x : Str} {np pos : Pos} {args : List Expr} {g} {fv : Value} {F} (hx : C.names.lookup x = some .globalImplicit) (hd : (x == ("__debug__" : Str)) = false) (hg : GName W x fv) (hf : CallForm W fv) (h1 : OneArg args)
    (Da : DenLA W n C sl args g) (hF : CallOKN W n fv F) : DenN W n C sl (.Call (.Name x np) args [] pos) (fun ℓ => match g ℓ with | some a => F a | none => none) := by
  intro A env P ℓ s m E Q X R e q
  dsimp only at e
  split at e
  · rename_i lvs hl
    refine Call_Name (trees := backTo pos (starEach args env)) rfl (load_g O X hx hd hg (call_form X hf h1 (Da X R hl fun vs h₁ tk₁ g₁ t₁ p => ⟨g₁, ?_⟩)))
    refine hF (s := { s with heap := h₁, toks := tk₁ }) (X.grow g₁ t₁).cs p e fun a us h' tk P' h1 h2 h3 g' t' hL r => ?_
    refine q a us h' tk P' (fun b p => PF.sub2 g₁ (h1 b p)) h2 ?_ (g₁.trans g') (Nat.le_trans t₁ t') hL r
    cases e : s.heap.get? a with
    | none => rfl
    | some o => rw [g₁ a o e] at h3; cases h3
  · cases e

end
end Mine
end
section
open PySem PySem.W PyProof.Rows PySem.Calls
set_option Elab.async false
set_option linter.unusedVariables false
namespace Mine
theorem MW.bound {prog w A I fp wr n Pt St} (x : MW prog w A I fp wr n Pt St) : MW prog w A I fp wr n (fun i T v => i < n ∧ Pt i T v) St where
  sub := x.sub
  frame := x.frame
  item := fun i s Q E hi st ht hQ => x.item i s Q E hi st ht fun v h' tk t p st' k => hQ v h' tk t ⟨hi, p⟩ st' k
  done := x.done
  self := x.self
  live := x.live
section
variable {W : Wd} {n : Nat} {C : Scope} {sl : List Str}
/-! range -/
noncomputable def rangeMV (a c : Int) (k : Nat) : List MV := (List.range k).map fun (i : Nat) => .fint (a + (i : Nat) * c)
noncomputable def rangeF (a b c : Int) : Option (List MV) :=
  if Builtin.Range.small a b c && decide (0 ≤ Builtin.Range.rangeSize a b c) && decide (Builtin.Range.rangeSize a b c ≤ 65536) && decide (c ≠ 0) && decide (-1000 < c) && decide (c < 1000) then
    some (rangeMV a c (Builtin.Range.rangeSize a b c).toNat) else none
theorem range_walk {strong : Bool} {A : Around} {P : AP} {s : Shared} {h₁ : Heap} {tk₁ : Nat} {r : Addr} {a b c : Int} {t u v : Tok} {l : List MV} {E : Value → Shared → Prop} {K : Value → Shared → Prop} (hh : A.handled = none)
    (g : Grow s.heap h₁) (ht : s.toks ≤ tk₁) (hr : IsRange h₁ r a b c t u v) (hl : rangeF a b c = some l)
    (q : ∀ I fp wr Pt St h₂ tk, Grow s.heap h₂ → s.toks ≤ tk → MW W.prog W.w A I fp wr l.length Pt St → St 0 h₂ → (∀ b ∈ fp, ∃ o, h₂.get? b = some o) → (∀ b ∈ wr, s.heap.get? b = none) → (strong = true → ∀ b ∈ fp, PF P s.heap b) →
      (∀ i T v, tk ≤ T → Pt i T v → ∃ m, l[i]? = some m ∧ VR (fun b => PF P s.heap b ∧ b ∉ wr) h₂ T m v) → l.length ≤ sizeLine → K (.ref I) { s with heap := h₂, toks := tk }) :
    wpAny (model W.prog W.w) A (pyIter (.ref r)) K E { s with heap := h₁, toks := tk₁ } := by
  unfold rangeF at hl
  split at hl
  · rename_i hc
    cases hl
    simp only [Bool.and_eq_true, decide_eq_true_eq] at hc
    obtain ⟨⟨⟨⟨⟨c1, c2⟩, c3⟩, c4⟩, c5⟩, c6⟩ := hc
    refine wpAny_pyIter_range (s := { s with heap := h₁, toks := tk₁ }) hr c1 ?_
    have hlen : (rangeMV a c (Builtin.Range.rangeSize a b c).toNat).length = (Builtin.Range.rangeSize a b c).toNat := by simp [rangeMV]
    rw [hlen] at q
    refine q h₁.objs.size _ _ _ _ _ tk₁ (g.trans (Grow.push _ _)) ht (MW.range hh h₁.objs.size a c (Builtin.Range.rangeSize a b c).toNat |>.bound) ?_ ?_ ?_ ?_ ?_ (by rw [sizeLine_eq]; omega)
    · show IsRangeIter _ _ _ _ _
      have e1 : a + ((0 : Nat) : Int) * c = a := by simp
      have e2 : (((Builtin.Range.rangeSize a b c).toNat : Nat) : Int) - ((0 : Nat) : Int) = Builtin.Range.rangeSize a b c := by omega
      rw [e1, e2]
      exact Heap.get?_push_size _ rfl
    · intro x hx
      rw [List.mem_singleton.mp hx]
      exact ⟨_, Heap.get?_push_size _ rfl⟩
    · intro x hx
      rw [List.mem_singleton.mp hx]; exact none_of_size g
    · intro _ x hx
      rw [List.mem_singleton.mp hx]; exact .inr (none_of_size g)
    · rintro i T v hT ⟨hi, t, e, p, q⟩
      exact ⟨.fint (a + (i : Nat) * c), by simp [rangeMV, hi], ⟨t, e, p, q⟩⟩
  · cases hl
noncomputable def rangeA : List LV → Option (List MV)
  | [x] => match x.num with | some b => rangeF 0 b 1 | none => none
  | [x, y] => match x.num, y.num with | some a, some b => rangeF a b 1 | _, _ => none
  | [x, y, z] => match x.num, y.num, z.num with | some a, some b, some c => rangeF a b c | _, _, _ => none
  | _ => none
theorem rangeF_c {a b c : Int} {l} (h : rangeF a b c = some l) : c ≠ 0 ∧ -1000 < c ∧ c < 1000 := by
  unfold rangeF at h
  split at h
  · rename_i hc
    simp only [Bool.and_eq_true, decide_eq_true_eq] at hc
    exact ⟨hc.1.1.2, hc.1.2, hc.2⟩
  · cases h
theorem den_range (O : W.Ok) {np pos : Pos} {args : List Expr} {g} (hx : C.names.lookup ("range" : Str) = some .globalImplicit) (hg : GName W "range" (.type "range")) (h1 : OneArg args)
    (Da : DenLA W n C sl args g) : DenI true W n C sl (.Call (.Name "range" np) args [] pos) (fun ℓ => match g ℓ with | some a => rangeA a | none => none) := by
  intro A env P ℓ s items E K X R e q
  dsimp only at e
  split at e
  · rename_i lvs hl
    refine Call_Name (trees := backTo pos (starEach args env)) rfl (load_g O X hx (by decide) hg (call_form X (.inr (.inl ⟨_, rfl⟩)) h1 (Da X R hl fun vs h₁ tk₁ g₁ t₁ p => ⟨g₁, ?_⟩)))
    unfold rangeA at e
    split at e
    · cases p with | cons p1 p => cases p with | nil =>
      split at e
      · rename_i b hb
        obtain ⟨t, rfl⟩ := p1.num hb
        exact call_range_1 (range_walk (s := s) X.handled (g₁.trans (Grow.push _ _)) (by show s.toks ≤ tk₁ + 1 + 1; omega) (IsRange.new ..) e q)
      · cases e
    · cases p with | cons p1 p => cases p with | cons p2 p => cases p with | nil =>
      split at e
      · rename_i a b ha hb
        obtain ⟨t, rfl⟩ := p1.num ha
        obtain ⟨u, rfl⟩ := p2.num hb
        exact call_range_2 (range_walk (s := s) X.handled (g₁.trans (Grow.push _ _)) (by show s.toks ≤ tk₁ + 1; omega) (IsRange.new ..) e q)
      · cases e
    · cases p with | cons p1 p => cases p with | cons p2 p => cases p with | cons p3 p => cases p with | nil =>
      split at e
      · rename_i a b c ha hb hc
        obtain ⟨t, rfl⟩ := p1.num ha
        obtain ⟨u, rfl⟩ := p2.num hb
        obtain ⟨v, rfl⟩ := p3.num hc
        have hcc := rangeF_c e
        exact call_range_3 hcc.1 (range_walk (s := s) X.handled (g₁.trans (Grow.push _ _)) t₁ (IsRange.new ..) e q) (.inl (PyProof.noPylong_small (by omega)))
      · cases e
    · cases e
  · cases e

/-! comprehensions: the block's own frame -/
noncomputable def relabelC (scope C : Scope) : Scope :=
  { scope with names := scope.names.map fun (n, k) => if (k == .free && C.names.lookup n == some .cell) then (n, .cell) else (n, k) }
theorem relabel_is {scope : Scope} {env : Env} (h1 : env.scope = C) (h2 : C.kind = .function) : relabel scope env = relabelC scope C := by
  unfold relabel relabelC Env.kindOf
  rw [h1, h2]
  simp
noncomputable def clOf (env : Env) : List (Str × NameKind) → List (Str × Addr) → List (Str × Addr)
  | [], acc => acc
  | (x, k) :: r, acc => clOf env r (if k == .free then (x, (env.cells.lookup x).getD 0) :: acc else acc)
theorem closureFor_is {scope : Scope} {env : Env} (h : ∀ x, (x, NameKind.free) ∈ scope.names → (env.cells.lookup x).isSome = true) : closureFor scope env = pure (clOf env scope.names []) := by
  have key : ∀ (l : List (Str × NameKind)) (acc : List (Str × Addr)), (∀ x, (x, NameKind.free) ∈ l → (env.cells.lookup x).isSome = true) →
      (forIn l acc (fun x r => match x with | (name, kind) => if (kind == NameKind.free) = true then (do let a ← cellOf env name; pure (ForInStep.yield ((name, a) :: r))) else pure (ForInStep.yield r)) : Sem (List (Str × Addr))) = pure (clOf env l acc) := by
    intro l
    induction l with
    | nil => intro acc _; rfl
    | cons p r ih =>
      obtain ⟨x, k⟩ := p
      intro acc h
      rw [List.forIn_cons]
      have hr : ∀ y, (y, NameKind.free) ∈ r → (env.cells.lookup y).isSome = true := fun y hy => h y (List.mem_cons_of_mem _ hy)
      unfold clOf
      by_cases hk : (k == NameKind.free) = true
      · have hk' : k = .free := by simpa using hk
        subst hk'
        have hx := h x List.mem_cons_self
        obtain ⟨c, hc⟩ := Option.isSome_iff_exists.mp hx
        simp only [hk, if_true]
        have e : cellOf env x = pure c := by unfold cellOf; rw [hc]
        rw [e, hc]
        exact ih ((x, c) :: acc) hr
      · simp only [hk, if_false]
        exact ih acc hr
  exact (congrArg (fun t : Sem (List (Str × Addr)) => t >>= fun r => pure r) (key scope.names [] h)).trans rfl
theorem clOf_lookup (env : Env) {y : Str} : ∀ (l : List (Str × NameKind)) (acc : List (Str × Addr)), ((y, NameKind.free) ∈ l ∨ acc.lookup y = some ((env.cells.lookup y).getD 0)) → (clOf env l acc).lookup y = some ((env.cells.lookup y).getD 0)
  | [], acc, h => by
    rcases h with h | h
    · cases h
    · exact h
  | (x, k) :: r, acc, h => by
    unfold clOf
    refine clOf_lookup env r _ ?_
    by_cases hk : (k == NameKind.free) = true
    · simp only [hk, if_true]
      have hk' : k = .free := by simpa using hk
      subst hk'
      by_cases hx : y = x
      · subst hx; exact .inr (by simp [List.lookup_cons])
      · rcases h with h | h
        · rcases List.mem_cons.mp h with e | h
          · exact absurd (Prod.mk.inj e).1 hx
          · exact .inl h
        · refine .inr ?_
          rw [List.lookup_cons]
          have : (y == x) = false := by simpa using hx
          rw [this]; exact h
    · simp only [hk, if_false]
      rcases h with h | h
      · rcases List.mem_cons.mp h with e | h
        · exact absurd (by rw [← (Prod.mk.inj e).2]; rfl) hk
        · exact .inl h
      · exact .inr h
end
end Mine
end
section
open PySem PySem.W PyProof.Rows PySem.Calls
set_option Elab.async false
set_option linter.unusedVariables false
set_option linter.unusedSimpArgs false
namespace Mine

theorem cellsFrom_other {y : Str} : ∀ (names : List (Str × NameKind)) (k : Nat) (acc : List (Str × Addr)), (y, NameKind.cell) ∉ names → (cellsFrom k names acc).lookup y = acc.lookup y
  | [], _, _, _ => rfl
  | (x, kd) :: r, k, acc, h => by
    unfold cellsFrom
    have hr : (y, NameKind.cell) ∉ r := fun q => h (List.mem_cons_of_mem _ q)
    by_cases hk : (kd == NameKind.cell) = true
    · rw [if_pos hk, cellsFrom_other r _ _ hr, List.lookup_cons]
      have hk' : kd = .cell := by simpa using hk
      subst hk'
      have : (y == x) = false := by
        cases e : y == x with
        | false => rfl
        | true => exact absurd (by rw [beq_iff_eq.mp e]; exact List.mem_cons_self) h
      rw [this]
    · rw [if_neg hk]; exact cellsFrom_other r _ _ hr
theorem cellsFrom_own {x : Str} {lo : Nat} : ∀ (names : List (Str × NameKind)) (h : Heap) (acc : List (Str × Addr)), lo ≤ h.objs.size →
    ((x, NameKind.cell) ∈ names ∨ ∃ c, acc.lookup x = some c ∧ h.IsCell c none ∧ lo ≤ c) →
    ∃ c, (cellsFrom h.objs.size names acc).lookup x = some c ∧ (pushCells h names).IsCell c none ∧ lo ≤ c
  | [], h, acc, _, q => by
    rcases q with q | q
    · cases q
    · exact q
  | (y, kd) :: r, h, acc, hlo, q => by
    unfold cellsFrom pushCells
    by_cases hk : (kd == NameKind.cell) = true
    · rw [if_pos hk, if_pos hk]
      have hk' : kd = .cell := by simpa using hk
      subst hk'
      have := cellsFrom_own (x := x) (lo := lo) r (h.push { cls := .type "cell", data := .cell none }) ((y, h.objs.size) :: acc) (by rw [Heap.size_push]; omega) ?_
      · rwa [Heap.size_push] at this
      · rcases q with q | ⟨c, e, i, l⟩
        · rcases List.mem_cons.mp q with e | q
          · have := (Prod.mk.inj e).1
            subst this
            exact .inr ⟨h.objs.size, by simp [List.lookup_cons], ⟨_, Heap.get?_push_size _ rfl, rfl⟩, hlo⟩
          · exact .inl q
        · refine .inr ?_
          by_cases hxy : x = y
          · subst hxy
            exact ⟨h.objs.size, by simp [List.lookup_cons], ⟨_, Heap.get?_push_size _ rfl, rfl⟩, hlo⟩
          · have : (x == y) = false := by simpa using hxy
            exact ⟨c, by rw [List.lookup_cons, this]; exact e, i.keeps (Grow.push _ _), l⟩
    · rw [if_neg hk, if_neg hk]
      refine cellsFrom_own (x := x) (lo := lo) r h acc hlo ?_
      rcases q with q | q
      · rcases List.mem_cons.mp q with e | q
        · exact absurd (by rw [← (Prod.mk.inj e).2]; rfl) hk
        · exact .inl q
      · exact .inr q

section
variable {W : Wd} {n : Nat} {C : Scope} {sl : List Str}

/-- the block's environment -/
theorem newCompEnv {M : Model} {A : Around} {E : Value → Shared → Prop} {s : Shared} {scope : Scope} {globals : Addr} {cl : List (Str × Addr)} {qual : Str} {env : Env} {Q : Env → Shared → Prop}
    (hQ : ∀ h', h'.Ns s.heap.objs.size (fun _ => none) → Grow s.heap h' →
      (∀ x, (x, NameKind.cell) ∈ scope.names → ∃ c, (cellsFrom (s.heap.objs.size + 1) scope.names cl).lookup x = some c ∧ h'.IsCell c none ∧ s.heap.objs.size + 1 ≤ c) →
      Q { scope, locals := s.heap.objs.size, globals, cells := cellsFrom (s.heap.objs.size + 1) scope.names cl, qual, func := none, code := env.code, frame := env.frame, builtins := env.builtins } { s with heap := h' }) :
    wpAny M A (newFunctionEnv scope globals cl [] qual none .none (some env)) Q E s := by
  simp only [newFunctionEnv, Option.isSome_some, if_true]
  refine wpAny_bind (wpAny_alloc ?_)
  refine wpAny_bind (wpAny_layCells _ (fun name kind cells => by cases hkc : kind == NameKind.cell <;> simp [hkc]) _ _ _ _ ?_)
  have e : ({ s with heap := s.heap.push { cls := .type "dict", data := .dict #[] } } : Shared).heap.objs.size = s.heap.objs.size + 1 := Heap.size_push ..
  rw [e]
  refine wpAny_bind ?_
  rw [List.forIn_nil]
  refine wpAny_pure (wpAny_pure ?_)
  refine hQ _ ((Heap.Ns.new s.heap (.type "dict")).keeps (pushCells_keeps _ _)) (fun b o q => pushCells_keeps _ _ b o (Heap.get?_push_of_some _ q)) fun x hx => ?_
  have := cellsFrom_own (x := x) (lo := s.heap.objs.size + 1) scope.names (s.heap.push { cls := .type "dict", data := .dict #[] }) cl (by rw [Heap.size_push]; exact Nat.le_refl _) (.inl hx)
  rwa [Heap.size_push] at this

/-- tests of a comprehension -/
noncomputable def DenTs (W : Wd) (n : Nat) (C : Scope) (sl : List Str) (ifs : List Expr) (f : List LV → Option Bool) : Prop :=
  ∀ {A : Around} {env : Env} {P : AP} {ℓ : List LV} {s : Shared} {b : Bool} {E : Value → Shared → Prop} {Q : Bool → Shared → Prop},
    Cx W n C A env s.heap s.toks → LRel P env sl ℓ s.heap s.toks → f ℓ = some b →
    (∀ h' tk, Grow s.heap h' → s.toks ≤ tk → Q b { s with heap := h', toks := tk }) →
    wpAny (model W.prog W.w) A (forIn ifs true fun c r => if r = true then do let ok ← isTrue c env (eval c env); pure (ForInStep.yield ok) else pure (ForInStep.yield r)) Q E s
theorem den_noTest : DenTs W n C sl [] (fun _ => some true) := by
  intro A env P ℓ s b E Q X R e q
  cases e
  exact wpAny_tests_nil (q s.heap s.toks (Grow.refl _) (Nat.le_refl _))
theorem den_oneTest {c : Expr} {f} (D : DenT W n C sl c f) : DenTs W n C sl [c] f := by
  intro A env P ℓ s b E Q X R e q
  exact wpAny_tests_one (D X R e q)

noncomputable def compF (ft : List LV → Option Bool) (fe : MF) (mk : MV → List LV) : List MV → Option (List MV)
  | [] => some []
  | m :: ms => match ft (mk m) with
    | some true => (match fe (mk m) with
      | some y => (match compF ft fe mk ms with
        | some ys => some (y :: ys)
        | none => none)
      | none => none)
    | some false => compF ft fe mk ms
    | none => none

/-- the target's storage -/
noncomputable def Tgt (cenv : Env) (x : Str) (c0 : Addr) (h : Heap) : Prop := (∃ m, h.Ns cenv.locals m) ∧
  ((cenv.kindOf x = some .local ∧ c0 = cenv.locals) ∨ (cenv.kindOf x = some .cell ∧ cenv.cells.lookup x = some c0 ∧ c0 ≠ cenv.locals ∧ ∃ v, h.IsCell c0 v))
theorem Tgt.on {cenv : Env} {x : Str} {c0 : Addr} {h h' : Heap} (T : Tgt cenv x c0 h) (k : ∀ b o, b = cenv.locals ∨ b = c0 → h.get? b = some o → h'.get? b = some o) : Tgt cenv x c0 h' := by
  obtain ⟨⟨m, hn⟩, q⟩ := T
  refine ⟨⟨m, hn.at' fun o e => k _ o (.inl rfl) e⟩, ?_⟩
  rcases q with q | ⟨a, b, c, v, o, ho, hd⟩
  · exact .inl q
  · exact .inr ⟨a, b, c, v, o, k _ o (.inr rfl) ho, hd⟩
theorem Tgt.store {M : Model} {A : Around} {E : Value → Shared → Prop} {s : Shared} {cenv : Env} {x : Str} {px : Pos} {c0 : Addr} {v : Value} {Q : Unit → Shared → Prop} (hk : cenv.scope.kind = .function) (T : Tgt cenv x c0 s.heap)
    (q : ∀ h' tk, Tgt cenv x c0 h' → Has cenv h' x v → s.toks ≤ tk → (∀ b o, b ≠ cenv.locals → b ≠ c0 → s.heap.get? b = some o → h'.get? b = some o) → Q () { s with heap := h', toks := tk }) :
    wpAny M A (assign (.Name x px) cenv v) Q E s := by
  obtain ⟨⟨m, hn⟩, T⟩ := T
  refine wpAny_assign_Name ?_
  rcases T with ⟨k, rfl⟩ | ⟨k, hc, hne, v0, hi⟩
  · refine wpAny_storeName_local k hn (fun h' hn' hs' => ?_) (by rw [hk]; rfl)
    exact q h' _ ⟨⟨_, hn'⟩, .inl ⟨k, rfl⟩⟩ (.inl ⟨k, _, hn', by simp⟩) (Nat.le_succ _) fun b o hb _ e => hs'.extBut b o hb e
  · refine wpAny_storeName_cell hk k hc hi fun h' hi' hs' => ?_
    exact q h' s.toks ⟨⟨m, hn.sameBut hs' (Ne.symm hne)⟩, .inr ⟨k, hc, hne, _, hi'⟩⟩ (.inr ⟨.inl k, c0, hc, hi'⟩) (Nat.le_refl _) fun b o _ hb e => hs'.extBut b o hb e

theorem drop_at {l : List MV} {i : Nat} {m : MV} (h : l[i]? = some m) : l.drop i = m :: l.drop (i + 1) := by
  obtain ⟨hi, e⟩ := List.getElem?_eq_some_iff.mp h
  rw [List.drop_eq_getElem_cons hi, e]

theorem comp_loop {elt iter : Expr} {x : Str} {px : Pos} {ifs : List Expr} {scope : Scope} {pos : Pos} {A : Around} {R : Result → Shared → Prop} {cenv : Env} {C' : Scope} {sl' : List Str} {ft : List LV → Option Bool} {fe : MF} {mk : MV → List LV}
    {I D c0 : Addr} {fp wr : List Addr} {Pt : Nat → Nat → Value → Prop} {St : Nat → Heap → Prop} {items outs : List MV} {P : AP} {hp h₂ : Heap} {s : Shared} {tk₂ : Nat}
    (Wk : MW W.prog W.w A I fp wr items.length Pt St) (Dt : DenTs W n C' sl' ifs ft) (De : DenE W n C' sl' elt fe)
    (X : Cx W n C' A cenv hp tk₂) (hx : sl'[0]? = some x) (hmk : ∀ m, (mk m)[0]? = some (.val m))
    (hcap : ∀ (i : Nat) (y : Str) (lv : LV) (m : MV), sl'[i + 1]? = some y → (mk m)[i + 1]? = some lv → lv = .undef ∨ ∃ v, Has cenv hp y v ∧ LR P hp tk₂ lv v)
    (hitems : ∀ i T v, tk₂ ≤ T → Pt i T v → ∃ m, items[i]? = some m ∧ VR (fun b => P b ∧ b ∉ wr) h₂ T m v)
    (hout : compF ft fe mk items = some outs) (hsz : items.length ≤ sizeLine)
    (hPD : ∀ b, P b → b ≠ D ∧ b ≠ cenv.locals ∧ b ≠ c0 ∧ b ∉ wr) (hpD : hp.get? D = none) (hpL : hp.get? cenv.locals = none) (hpc : hp.get? c0 = none) (hpw : ∀ b ∈ wr, hp.get? b = none)
    (h2D : h₂.get? D = none) (h2L : h₂.get? cenv.locals = none) (h2c : h₂.get? c0 = none) (hPf : ∀ b, hp.get? b = none → b ≠ D → b ≠ cenv.locals → b ≠ c0 → b ∉ wr → P b)
    (hDL : D ≠ cenv.locals) (hDc : D ≠ c0) (hDf : D ∉ fp) (hLf : cenv.locals ∉ fp) (hcf : c0 ∉ fp)
    (hst : St 0 s.heap) (htk : tk₂ ≤ s.toks) (hT : Tgt cenv x c0 s.heap) (hacc : s.heap.PlainList D #[]) (hgp : Grow hp s.heap) (hg2 : ∀ b o, b ∉ wr → h₂.get? b = some o → s.heap.get? b = some o)
    (hR : ∀ h' tk ys, Tgt cenv x c0 h' → h'.PlainList D ys → VRs P h' tk outs ys.toList → Grow hp h' → s.toks ≤ tk → R (.ok .next) { s with heap := h', toks := tk }) :
    codeAny (model W.prog W.w) A (.compLoop (.ListComp elt [⟨.Name x px, iter, ifs, 0⟩] scope pos) 0 (.ref I) (.ref D) cenv) R s := by
  have hk : cenv.scope.kind = .function := X.kindE
  refine codeAny_compLoop_tests
    (fun k s' => ∃ h' tk ys i, ∃ done rest : List MV, s' = { s with heap := h', toks := tk } ∧ St i h' ∧ h'.PlainList D ys ∧ Tgt cenv x c0 h' ∧ i ≤ items.length ∧ k = items.length + 1 - i ∧
      compF ft fe mk (items.drop i) = some rest ∧ done ++ rest = outs ∧ VRs P h' tk done ys.toList ∧ done.length ≤ i ∧ Grow hp h' ∧ s.toks ≤ tk ∧ (∀ b o, b ∉ wr → h₂.get? b = some o → h'.get? b = some o)) ?_ (items.length + 1)
    ⟨s.heap, s.toks, #[], 0, [], outs, rfl, hst, hacc, hT, Nat.zero_le _, rfl, hout, rfl, rfl, Nat.le_refl _, hgp, Nat.le_refl _, hg2⟩
  rintro k s' ⟨h₃, tk₃, ys, i, done, rest, rfl, hst₃, hacc₃, hT₃, hi, rfl, hrest, hdone, hys, hdl, hg₃, ht₃, hk₃⟩
  have hLw : cenv.locals ∉ wr := fun h => hLf (Wk.sub _ h)
  have hcw : c0 ∉ wr := fun h => hcf (Wk.sub _ h)
  have hDw : D ∉ wr := fun h => hDf (Wk.sub _ h)
  by_cases hlt : i < items.length
  · refine Wk.item i { s with heap := h₃, toks := tk₃ } _ _ hlt hst₃ (Nat.lt_of_lt_of_le X.tok (Nat.le_trans htk ht₃)) fun v h₄ tk₄ ht₄ hPv hst₄ hk₄ => ?_
    have ht₄' : tk₃ ≤ tk₄ := ht₄
    obtain ⟨m, hm, rm⟩ := hitems i tk₄ v (by omega) hPv
    have hT₄ : Tgt cenv x c0 h₄ := hT₃.on fun b o hb e => hk₄ b o (by rcases hb with rfl | rfl <;> assumption) e
    refine Tgt.store (s := { s with heap := h₄, toks := tk₄ }) hk hT₄ fun h₅ tk₅ hT₅ hH₅ ht₅ hk₅ => ?_
    have ht₅' : tk₄ ≤ tk₅ := ht₅
    have up : ∀ b o, b ≠ cenv.locals → b ≠ c0 → b ∉ wr → h₃.get? b = some o → h₅.get? b = some o := fun b o a1 a2 a3 e => hk₅ b o a1 a2 (hk₄ b o a3 e)
    have hg₅ : Grow hp h₅ := fun b o e => up b o (fun q => by rw [q, hpL] at e; cases e) (fun q => by rw [q, hpc] at e; cases e) (fun q => by rw [hpw b q] at e; cases e) (hg₃ b o e)
    have h2₅ : ∀ b o, b ∉ wr → h₂.get? b = some o → h₅.get? b = some o := fun b o hb e => hk₅ b o (fun q => by rw [q, h2L] at e; cases e) (fun q => by rw [q, h2c] at e; cases e) (hk₄ b o hb (hk₃ b o hb e))
    have rm₅ : VR P h₅ tk₅ m v := rm.mono (fun a p => p.1) (fun b o p e => h2₅ b o p.2 e) ht₅'
    have RL : ∀ {h : Heap} {tk : Nat}, Grow h₅ h → tk₅ ≤ tk → LRel P cenv sl' (mk m) h tk := by
      intro h tk g t j y lv e1 e2
      cases j with
      | zero =>
        rw [hx] at e1; cases e1
        rw [hmk] at e2; cases e2
        exact .inr ⟨v, hH₅.grow g, VR.grow g t rm₅⟩
      | succ j =>
        rcases hcap j y lv m e1 e2 with u | ⟨v', a, b⟩
        · exact .inl u
        · exact .inr ⟨v', a.grow (hg₅.trans g), b.step (hg₅.trans g) (by omega)⟩
    rw [drop_at hm] at hrest
    unfold compF at hrest
    have X₅ : Cx W n C' A cenv h₅ tk₅ := X.grow hg₅ (by omega)
    have hst₅ : St (i + 1) h₅ := Wk.frame _ _ _ hst₄ fun b hb o e => hk₅ b o (fun q => hLf (q ▸ hb)) (fun q => hcf (q ▸ hb)) e
    have hacc₅ : h₅.PlainList D ys := by obtain ⟨k, e⟩ := hacc₃; exact ⟨k, up D _ hDL hDc hDw e⟩
    have hys₅ : VRs P h₅ tk₅ done ys.toList := by
      exact VRs.mono (fun _ p => p) (fun b o p e => up b o (hPD b p).2.1 (hPD b p).2.2.1 (hPD b p).2.2.2 e) (by omega) hys
    refine Dt (s := { s with heap := h₅, toks := tk₅ }) (b := (ft (mk m)).getD false) X₅ (RL (Grow.refl _) (Nat.le_refl _)) ?_ fun h₆ tk₆ g₆ t₆ => ?_
    · cases hf : ft (mk m) with
      | none => rw [hf] at hrest; cases hrest
      | some b => rfl
    have t₆' : tk₅ ≤ tk₆ := t₆
    have g₆' : Grow h₅ h₆ := g₆
    have hst₆ : St (i + 1) h₆ := Wk.frame _ _ _ hst₅ fun b hb o e => g₆ b o e
    have hacc₆ : h₆.PlainList D ys := by obtain ⟨k, e⟩ := hacc₅; exact ⟨k, g₆ _ _ e⟩
    cases hf : ft (mk m) with
    | none => rw [hf] at hrest; cases hrest
    | some b =>
      cases b with
      | false =>
        rw [hf] at hrest
        rw [if_neg (by simp)]
        exact ⟨items.length + 1 - (i + 1), by omega, h₆, tk₆, ys, i + 1, done, rest, rfl, hst₆, hacc₆, hT₅.on fun b o _ e => g₆ b o e, hlt, rfl, hrest, hdone, hys₅.grow g₆' t₆', by omega, hg₅.trans g₆', by show s.toks ≤ tk₆; omega, fun b o hb e => g₆' b o (h2₅ b o hb e)⟩
      | true =>
        rw [hf] at hrest
        rw [if_pos (by simp)]
        dsimp only at hrest
        cases hfe : fe (mk m) with
        | none => rw [hfe] at hrest; cases hrest
        | some y =>
          rw [hfe] at hrest
          dsimp only at hrest
          cases hc : compF ft fe mk (items.drop (i + 1)) with
          | none => rw [hc] at hrest; cases hrest
          | some rest' =>
            rw [hc] at hrest
            cases hrest
            refine De (P := P) (s := { s with heap := h₆, toks := tk₆ }) (X₅.grow g₆' t₆') (RL g₆' t₆') hfe fun v' h₇ tk₇ g₇ t₇ r₇ => ?_
            have g₇' : Grow h₆ h₇ := g₇
            have t₇' : tk₆ ≤ tk₇ := t₇
            have hacc₇ : h₇.PlainList D ys := by obtain ⟨k, e⟩ := hacc₆; exact ⟨k, g₇' _ _ e⟩
            have hysz : ys.size = done.length := by rw [← hys.length, Array.length_toList]
            have r₇' : VR P h₇ tk₇ y v' := r₇.sub fun b p => by
              rcases p with p | p
              · exact p
              · have q6 : ∀ {c o}, h₆.get? c = some o → b ≠ c := fun e q => by rw [← q] at e; have p' : h₆.get? b = none := p; rw [p'] at e; cases e
                have hT₆ : Tgt cenv x c0 h₆ := hT₅.on fun b o _ e => g₆' b o e
                refine hPf b ?_ ?_ ?_ ?_ ?_
                · cases e : hp.get? b with
                  | none => rfl
                  | some o => exact absurd rfl (q6 (g₆' _ _ (hg₅ _ _ e)))
                · obtain ⟨k, e⟩ := hacc₆; exact q6 e
                · obtain ⟨⟨mm, o, _, _, e, _⟩, _⟩ := hT₆; exact q6 e
                · obtain ⟨⟨mm, o, _, _, e, _⟩, hh⟩ := hT₆
                  rcases hh with ⟨_, rfl⟩ | ⟨_, _, _, _, o', e', _⟩
                  · exact q6 e
                  · exact q6 e'
                · intro hb
                  obtain ⟨o, e, _⟩ := Wk.live _ _ hst₆ b hb
                  exact absurd rfl (q6 e)
            refine wpAny_list_append_plain (s := { s with heap := h₇, toks := tk₇ }) hacc₇ (fun h₈ hl₈ hs₈ => ?_) (by rw [hysz]; omega)
            have k₈ : ∀ b o, b ≠ D → h₇.get? b = some o → h₈.get? b = some o := fun b o hb e => hs₈.extBut b o hb e
            refine ⟨items.length + 1 - (i + 1), by omega, h₈, tk₇, ys.push v', i + 1, done ++ [y], rest', rfl, ?_, hl₈, ?_, hlt, rfl, hc, by rw [List.append_assoc]; exact hdone, ?_, by rw [List.length_append, List.length_singleton]; omega, ?_, by show s.toks ≤ tk₇; omega, ?_⟩
            · exact Wk.frame _ _ _ hst₆ fun b hb o e => k₈ b o (fun q => hDf (q ▸ hb)) (g₇' b o e)
            · exact (hT₅.on fun b o _ e => g₇' b o (g₆' b o e)).on fun b o hb e => k₈ b o (by rcases hb with rfl | rfl; exact Ne.symm hDL; exact Ne.symm hDc) e
            · rw [Array.toList_push]
              exact VRs.mono (fun _ p => p) (fun b o p e => k₈ b o (hPD b p).1 e) (Nat.le_refl _) ((hys₅.grow (g₆'.trans g₇') (by omega)).snoc r₇')
            · exact fun b o e => k₈ b o (fun q => by rw [q, hpD] at e; cases e) (g₇' b o (g₆' b o (hg₅ b o e)))
            · exact fun b o hb e => k₈ b o (fun q => by rw [q, h2D] at e; cases e) (g₇' b o (g₆' b o (h2₅ b o hb e)))
  · have hin : i = items.length := by omega
    subst hin
    rw [List.drop_length] at hrest
    cases hrest
    refine Wk.done { s with heap := h₃, toks := tk₃ } _ _ hst₃ fun h₄ tk₄ ht₄ hk₄ => ?_
    have ht₄' : tk₃ ≤ tk₄ := ht₄
    rw [List.append_nil] at hdone
    subst hdone
    have hacc₄ : h₄.PlainList D ys := by obtain ⟨k, e⟩ := hacc₃; exact ⟨k, hk₄ _ _ hDw e⟩
    exact hR h₄ tk₄ ys (hT₃.on fun b o hb e => hk₄ b o (by rcases hb with rfl | rfl <;> assumption) e) hacc₄ (hys.mono (fun _ p => p) (fun b o p e => hk₄ b o (hPD b p).2.2.2 e) ht₄')
      (fun b o e => hk₄ b o (fun q => by rw [hpw b q] at e; cases e) (hg₃ b o e)) (by omega)
end
end Mine
end
section
open PySem PySem.W PyProof.Rows PySem.Calls
set_option Elab.async false
set_option linter.unusedVariables false
set_option linter.unusedSimpArgs false
namespace Mine
section
variable {W : Wd} {n : Nat} {C : Scope} {sl : List Str}

noncomputable def LV.def? : LV → Bool
  | .undef => false
  | _ => true
noncomputable def caps (ℓ : List LV) (ix : List Nat) : List LV := ix.map fun j => (ℓ[j]?).getD .undef
noncomputable def compV (fi : List LV → Option (List MV)) (ft : List LV → Option Bool) (fe : MF) (ix : List Nat) : List LV → Option (List MV) := fun ℓ =>
  match fi ℓ with
  | some items => if (caps ℓ ix).all LV.def? then compF ft fe (fun m => .val m :: caps ℓ ix) items else none
  | none => none
noncomputable def isCapK (k : Option NameKind) : Bool := k == some .cell || k == some .free
noncomputable def compOK (scope C : Scope) (sl : List Str) (x : Str) (tl : List Str) (ix : List Nat) : Bool :=
  scope.kind == .function && scope.names.all (fun p => p.2 != .local || scope.names.lookup p.1 == some .local) &&
  ((relabelC scope C).names.lookup x == some .local || ((relabelC scope C).names.lookup x == some .cell && scope.names.contains (x, .cell))) &&
  tl.all (fun y => isCapK ((relabelC scope C).names.lookup y) && isCapK (C.names.lookup y) && scope.names.contains (y, .free) && !scope.names.contains (y, .cell)) &&
  scope.names.all (fun p => p.2 != .free || tl.contains p.1) && (ix.map fun j => sl[j]?) == tl.map some

theorem compOK_iff {scope C : Scope} {sl : List Str} {x : Str} {tl : List Str} {ix : List Nat} (h : compOK scope C sl x tl ix = true) :
    scope.kind = .function ∧ (∀ p ∈ scope.names, p.2 = .local → scope.names.lookup p.1 = some .local) ∧
    ((relabelC scope C).names.lookup x = some .local ∨ ((relabelC scope C).names.lookup x = some .cell ∧ (x, NameKind.cell) ∈ scope.names)) ∧
    (∀ y ∈ tl, ((relabelC scope C).names.lookup y = some .cell ∨ (relabelC scope C).names.lookup y = some .free) ∧ (C.names.lookup y = some .cell ∨ C.names.lookup y = some .free) ∧ (y, NameKind.free) ∈ scope.names ∧ (y, NameKind.cell) ∉ scope.names) ∧
    (∀ y, (y, NameKind.free) ∈ scope.names → y ∈ tl) ∧ (ix.map fun j => sl[j]?) = tl.map some := by
  unfold compOK at h
  simp only [Bool.and_eq_true, Bool.or_eq_true, beq_iff_eq, bne_iff_ne, List.all_eq_true, List.contains_iff_mem, Bool.not_eq_true', isCapK] at h
  obtain ⟨⟨⟨⟨⟨h1, h2⟩, h3⟩, h4⟩, h5⟩, h6⟩ := h
  refine ⟨h1, fun p hp hl => ?_, h3, fun y hy => ?_, fun y hy => ?_, h6⟩
  · rcases h2 p hp with q | q
    · exact absurd hl q
    · exact q
  · obtain ⟨⟨⟨a, b⟩, c⟩, d⟩ := h4 y hy
    refine ⟨a, b, c, fun q => ?_⟩
    have : scope.names.contains (y, NameKind.cell) = true := List.contains_iff_mem.mpr q
    rw [this] at d; cases d
  · rcases h5 _ hy with q | q
    · exact absurd rfl q
    · exact q

theorem comp_block {elt iter : Expr} {x : Str} {px : Pos} {ifs : List Expr} {scope : Scope} {pos : Pos} {fi ft} {fe : MF} {tl : List Str} {ix : List Nat}
    (Di : DenI false W n C sl iter fi) (Dt : DenTs W n (relabelC scope C) (x :: tl) ifs ft) (De : DenE W n (relabelC scope C) (x :: tl) elt fe) (hchk : compOK scope C sl x tl ix = true)
    {A : Around} {env : Env} {P : AP} {ℓ : List LV} {s : Shared} {outs : List MV} {E : Value → Shared → Prop} {RR : Value → Addr → Result → Shared → Prop}
    (X : Cx W n C A env s.heap s.toks) (R : LRel P env sl ℓ s.heap s.toks) (hv : compV fi ft fe ix ℓ = some outs)
    (hRR : ∀ D Lc h' tk ys m' P', (∀ b, P' b → PF P s.heap b) → ¬ P' D → ¬ P' Lc → s.heap.get? D = none → s.heap.get? Lc = none → D ≠ Lc → h'.Ns Lc m' → h'.PlainList D ys → VRs P' h' tk outs ys.toList → Grow s.heap h' → s.toks ≤ tk →
      RR (.ref D) Lc (.ok .next) { s with heap := h', toks := tk }) :
    closureFor scope env = pure (clOf env scope.names []) ∧
    wpAny (model W.prog W.w) A (eval iter env) (fun xv s₁ => wpAny (model W.prog W.w) A (pyIter xv) (fun it s₂ => wpAny (model W.prog W.w) A (newList []) (fun acc s₃ => wpAny (model W.prog W.w) A (newFunctionEnv scope env.globals (clOf env scope.names []) [] env.qual none .none (some env)) (fun cenv s₄ =>
      codeAny (model W.prog W.w) A (.compStart (.ListComp elt [⟨.Name x px, iter, ifs, 0⟩] scope pos) 0 it acc { cenv with scope := relabel scope env }) (RR acc cenv.locals) s₄) E s₃) E s₂) E s₁) E s := by
  obtain ⟨hk, hnm, htg, hcap, hcov, hix⟩ := compOK_iff hchk
  unfold compV at hv
  cases hfi : fi ℓ with
  | none => rw [hfi] at hv; cases hv
  | some items =>
  rw [hfi] at hv
  dsimp only at hv
  split at hv
  case isFalse => cases hv
  rename_i hdef
  -- what is captured
  have capAt : ∀ (j : Nat) (y : Str), tl[j]? = some y → ∃ lv v, (caps ℓ ix)[j]? = some lv ∧ Has env s.heap y v ∧ LR P s.heap s.toks lv v := by
    intro j y hy
    have e := congrArg (fun l => l[j]?) hix
    simp only [List.getElem?_map, hy, Option.map_some] at e
    cases hj : ix[j]? with
    | none => rw [hj] at e; cases e
    | some k =>
      rw [hj] at e
      simp only [Option.map_some, Option.some.injEq] at e
      have hc : (caps ℓ ix)[j]? = some ((ℓ[k]?).getD .undef) := by simp [caps, List.getElem?_map, hj]
      have hd := List.all_eq_true.mp hdef _ (List.mem_of_getElem? hc)
      cases hl : ℓ[k]? with
      | none => rw [hl] at hd; cases hd
      | some lv =>
        rw [hl] at hc hd
        rcases R k y lv e hl with u | ⟨v, a, b⟩
        · subst u; cases hd
        · exact ⟨lv, v, hc, a, b⟩
  have cellAt : ∀ y ∈ tl, ∃ c v, env.cells.lookup y = some c ∧ s.heap.IsCell c (some v) ∧ ∀ j : Nat, tl[j]? = some y → ∃ lv, (caps ℓ ix)[j]? = some lv ∧ LR P s.heap s.toks lv v := by
    intro y hy
    obtain ⟨j, hj⟩ := List.getElem?_of_mem hy
    obtain ⟨lv, v, h1, h2, h3⟩ := capAt j y hj
    have hkind := (hcap y hy).2.1
    have hke : env.kindOf y = C.names.lookup y := by unfold Env.kindOf; rw [X.scope]
    rcases h2 with ⟨k, _⟩ | ⟨_, c, hc, hi⟩
    · rw [hke] at k; rcases hkind with q | q <;> rw [q] at k <;> cases k
    · refine ⟨c, v, hc, hi, fun j' hj' => ?_⟩
      obtain ⟨lv', v', g1, g2, g3⟩ := capAt j' y hj'
      rcases g2 with ⟨k, _⟩ | ⟨_, c', hc', ⟨o', ho', hd'⟩⟩
      · rw [hke] at k; rcases hkind with q | q <;> rw [q] at k <;> cases k
      · rw [hc] at hc'; cases hc'
        obtain ⟨o, ho, hd⟩ := hi
        rw [ho] at ho'; cases ho'
        rw [hd] at hd'; cases hd'
        exact ⟨lv', g1, g3⟩
  refine ⟨closureFor_is fun y hy => ?_, ?_⟩
  · obtain ⟨c, v, hc, _⟩ := cellAt y (hcov y hy)
    rw [hc]; rfl
  refine Di X R hfi fun I fp wr Pt St h₂ tk₂ g₂ t₂ Wk hst hfp hwr _ hit hsz => ?_
  refine wpAny_newObj_type (newCompEnv fun h₄ hns hg₄ hcell => ?_)
  generalize hH : (({ s with heap := h₂, toks := tk₂ } : Shared).heap.push { cls := Value.type "list", dict := none, data := Data.seq ([] : List Value).toArray }) = H at hns hg₄ hcell
  dsimp only at hns hg₄ hcell ⊢
  have hsz₂ : H.objs.size = h₂.objs.size + 1 := by rw [← hH, Heap.size_push]
  have gH : Grow h₂ H := by rw [← hH]; exact Grow.push _ _
  have gs : Grow s.heap h₄ := g₂.trans (gH.trans hg₄)
  have fresh₂ : ∀ a : Nat, @LE.le Nat _ h₂.objs.size a → h₂.get? a = none := fun a ha => Heap.get?_none_of_le ha
  have freshS : ∀ a : Nat, @LE.le Nat _ h₂.objs.size a → s.heap.get? a = none := fun a ha => by
    cases e : s.heap.get? a with
    | none => rfl
    | some o => have := g₂ _ _ e; rw [fresh₂ a ha] at this; cases this
  have hDacc : h₄.PlainList h₂.objs.size #[] := by
    refine ⟨0, hg₄ _ _ ?_⟩
    rw [← hH]; exact Heap.get?_push_size _ rfl
  have hrl : relabel scope env = relabelC scope C := relabel_is X.scope X.kind
  have hlk : ∀ y, (y, NameKind.cell) ∉ scope.names → (cellsFrom (H.objs.size + 1) scope.names (clOf env scope.names [])).lookup y = (clOf env scope.names []).lookup y := fun y hy => cellsFrom_other _ _ _ hy
  -- the target's place
  obtain ⟨c0, hc0, hTgt⟩ : ∃ c0 : Nat, @LE.le Nat _ H.objs.size c0 ∧ Tgt { scope := relabelC scope C, locals := H.objs.size, globals := env.globals, cells := cellsFrom (H.objs.size + 1) scope.names (clOf env scope.names []), qual := env.qual, func := none, code := env.code, frame := env.frame, builtins := env.builtins } x c0 h₄ := by
    rcases htg with q | ⟨q, q2⟩
    · exact ⟨H.objs.size, Nat.le_refl _, ⟨_, hns⟩, .inl ⟨q, rfl⟩⟩
    · obtain ⟨c, e, i, l⟩ := hcell x q2
      have l' : @LE.le Nat _ (H.objs.size + 1) c := l
      exact ⟨c, by omega, ⟨_, hns⟩, .inr ⟨q, e, Nat.ne_of_gt (by show @LT.lt Nat _ H.objs.size c; omega), _, i⟩⟩
  show codeAny _ _ (.compStart _ 0 (.ref I) (.ref h₂.objs.size) { scope := relabel scope env, locals := H.objs.size, globals := env.globals, cells := cellsFrom (H.objs.size + 1) scope.names (clOf env scope.names []), qual := env.qual, func := none, code := env.code, frame := env.frame, builtins := env.builtins }) (RR (.ref h₂.objs.size) H.objs.size) { s with heap := h₄, toks := tk₂ }
  rw [hrl]
  have hfp' : ∀ b, b ∈ fp → b < h₂.objs.size := fun b hb => let ⟨o, e⟩ := hfp b hb; Heap.lt_size e
  have hst₄ : St 0 h₄ := Wk.frame _ _ _ hst fun b _ o e => hg₄ b o (gH b o e)
  have loop : codeAny (model W.prog W.w) A (.compLoop (.ListComp elt [⟨.Name x px, iter, ifs, 0⟩] scope pos) 0 (.ref I) (.ref h₂.objs.size) { scope := relabelC scope C, locals := H.objs.size, globals := env.globals, cells := cellsFrom (H.objs.size + 1) scope.names (clOf env scope.names []), qual := env.qual, func := none, code := env.code, frame := env.frame, builtins := env.builtins })
      (RR (.ref h₂.objs.size) H.objs.size) { s with heap := h₄, toks := tk₂ } := by
    refine comp_loop (hp := s.heap) (h₂ := h₂) (tk₂ := tk₂) (c0 := c0) (P := fun b => PF P s.heap b ∧ b ≠ h₂.objs.size ∧ b ≠ H.objs.size ∧ b ≠ c0 ∧ b ∉ wr) (mk := fun m => .val m :: caps ℓ ix) (items := items) (outs := outs) Wk Dt De
      ?_ rfl (fun _ => rfl) ?_ ?_ hv hsz (fun b p => p.2) (freshS _ (Nat.le_refl _)) (freshS H.objs.size (by omega)) (freshS c0 (by omega)) hwr (fresh₂ _ (Nat.le_refl _)) (fresh₂ H.objs.size (by omega)) (fresh₂ c0 (by omega))
      (fun b h1 h2 h3 h4 h5 => ⟨.inr h1, h2, h3, h4, h5⟩) (Nat.ne_of_lt (by show @LT.lt Nat _ h₂.objs.size H.objs.size; omega)) (Nat.ne_of_lt (by omega)) (fun q => Nat.lt_irrefl _ (hfp' _ q)) (fun q => by have : @LT.lt Nat _ H.objs.size h₂.objs.size := hfp' _ q; omega) (fun q => by have : @LT.lt Nat _ c0 h₂.objs.size := hfp' _ q; omega)
      hst₄ (Nat.le_refl _) hTgt hDacc gs (fun b o _ e => hg₄ b o (gH b o e)) ?_
    · exact { base := X.base, tok := Nat.lt_of_lt_of_le X.tok t₂, handled := X.handled, depth := X.depth, units := X.units, scope := rfl, kind := hk, globals := X.globals, builtins := X.builtins, frames := X.frames }
    · intro j y lv m e1 e2
      have e1' : tl[j]? = some y := e1
      have e2' : (caps ℓ ix)[j]? = some lv := e2
      have hy := List.mem_of_getElem? e1'
      obtain ⟨c, v, hc, hi, hall⟩ := cellAt y hy
      obtain ⟨lv', g1, g2⟩ := hall j e1'
      rw [g1] at e2'; cases e2'
      refine .inr ⟨v, .inr ⟨(hcap y hy).1, c, ?_, hi⟩, ?_⟩
      · show (cellsFrom (H.objs.size + 1) scope.names (clOf env scope.names [])).lookup y = some c
        rw [hlk y (hcap y hy).2.2.2, clOf_lookup env scope.names [] (.inl (hcap y hy).2.2.1), hc]; rfl
      · refine g2.live.grow (fun b p => ?_) (Grow.refl _) t₂
        obtain ⟨p1, o, p2⟩ := p
        exact ⟨.inl p1, (fun q => by rw [q, freshS _ (Nat.le_refl _)] at p2; cases p2), (fun q => by rw [q, freshS H.objs.size (by omega)] at p2; cases p2), (fun q => by rw [q, freshS c0 (by omega)] at p2; cases p2), (fun q => by rw [hwr b q] at p2; cases p2)⟩
    · intro i T v hT hP
      obtain ⟨m, hm, r⟩ := hit i T v hT hP
      refine ⟨m, hm, r.live.sub fun b p => ?_⟩
      obtain ⟨⟨p1, p0⟩, o, p2⟩ := p
      exact ⟨⟨p1, (fun q => by rw [q, fresh₂ _ (Nat.le_refl _)] at p2; cases p2), (fun q => by rw [q, fresh₂ H.objs.size (by omega)] at p2; cases p2), (fun q => by rw [q, fresh₂ c0 (by omega)] at p2; cases p2), p0⟩, p0⟩
    · intro h' tk ys hT' hL' hr' hg' ht'
      obtain ⟨⟨m', hn'⟩, _⟩ := hT'
      exact hRR h₂.objs.size H.objs.size h' tk ys m' _ (fun b p => p.1) (fun p => p.2.1 rfl) (fun p => p.2.2.1 rfl) (freshS _ (Nat.le_refl _)) (freshS H.objs.size (by omega)) (Nat.ne_of_lt (by omega)) hn' hL' hr' hg' (Nat.le_trans t₂ ht')
  exact codeAny_compStart_list loop (Wk.self 0 _ _ _ hst₄ loop)

theorem den_comp {elt iter : Expr} {x : Str} {px : Pos} {ifs : List Expr} {scope : Scope} {pos : Pos} {fi ft} {fe : MF} (tl : List Str) (ix : List Nat)
    (hs : ∀ env x, foldedSetIterable iter env x = pure x) (hchk : compOK scope C sl x tl ix = true)
    (Di : DenI false W n C sl iter fi) (Dt : DenTs W n (relabelC scope C) (x :: tl) ifs ft) (De : DenE W n (relabelC scope C) (x :: tl) elt fe) :
    DenN W n C sl (.ListComp elt [⟨.Name x px, iter, ifs, 0⟩] scope pos) (compV fi ft fe ix) := by
  intro A env P ℓ s outs E Q X R hv q
  rw [eval_ListComp]
  obtain ⟨hk, hnm, _⟩ := compOK_iff hchk
  have B := comp_block (px := px) (pos := pos) Di Dt De hchk (E := E) (RR := fun acc Lc => compPost (model W.prog W.w) A E none Q acc Lc) X R hv ?_
  · refine wpAny_comprehension_free (use := none) rfl (hs env) B.1 hk hnm B.2
  · intro D Lc h' tk ys m' P' hP hD hL hDn hLn hne hns hl hr hg ht
    refine ⟨m', hns, fun h'' hs'' => ?_⟩
    refine q D ys h'' tk P' hP hD hDn (fun b o e => ?_) ht (hl.extBut hs''.extBut hne) (VRs.mono (fun _ p => p) (fun b o p e => hs''.extBut b o (fun q => hL (q ▸ p)) e) (Nat.le_refl _) hr)
    exact hs''.extBut b o (fun q => by rw [q, hLn] at e; cases e) (hg b o e)
end
end Mine
end
section
open PySem PySem.W PyProof.Rows PySem.Calls
set_option Elab.async false
set_option linter.unusedVariables false
set_option linter.unusedSimpArgs false
namespace Mine

/-! statements: the frame's own state -/
structure Sx (W : Wd) (n : Nat) (C : Scope) (A : Around) (env : Env) (hE : Heap) : Prop where
  baseE : Grow W.hB hE
  handled : A.handled = none
  depth : A.depth + n < recursionLimit
  units : A.units + 20 * n + 100 < cLine
  scope : env.scope = C
  kind : C.kind = .function
  globals : env.globals = mainGlobals
  builtins : env.builtins = builtinsNs
  frame : env.frame = some env.locals
  frames : ∃ out, A.frames = some (env :: out) ∧ hE.FunFrames W.hB out
  outer : W.full = true → ∀ out, A.frames = some (env :: out) → ∀ b ∈ out.filterMap (·.frame), W.N b

/-- the same but for the record of frames further out -/
noncomputable def GrowN (N : AP) (h h' : Heap) : Prop := ∀ b o, h.get? b = some o → (¬ N b → h'.get? b = some o) ∧ ∃ s, h'.get? b = some { o with slots := s }
theorem GrowN.of {N : AP} {h h' : Heap} (g : Grow h h') : GrowN N h h' := fun b o e => ⟨fun _ => g b o e, o.slots, g b o e⟩
theorem GrowN.trans {N : AP} {h h' h'' : Heap} (x : GrowN N h h') (y : GrowN N h' h'') : GrowN N h h'' := fun b o e =>
  ⟨fun n => (y b o ((x b o e).1 n)).1 n, by obtain ⟨s, e1⟩ := (x b o e).2; obtain ⟨s2, e2⟩ := (y b _ e1).2; exact ⟨s2, e2⟩⟩
theorem GrowN.none {N : AP} {h h' : Heap} (x : GrowN N h h') {b} (e : h'.get? b = Option.none) : h.get? b = Option.none := by
  cases e1 : h.get? b with
  | none => rfl
  | some o => obtain ⟨s, e2⟩ := (x b o e1).2; rw [e] at e2; cases e2
theorem GrowN.behind {N X : AP} {hE h h' : Heap} (g : GrowN N hE h) (xe : ∀ b, X b → hE.get? b = Option.none) (k : ∀ b o, ¬ X b → h.get? b = some o → h'.get? b = some o) : GrowN N hE h' := fun b o e => by
  have nb : ¬ X b := fun xb => by rw [xe b xb] at e; cases e
  exact ⟨fun n => k b o nb ((g b o e).1 n), let ⟨s, e2⟩ := (g b o e).2; ⟨s, k b _ nb e2⟩⟩
theorem funFrames_growN {N : AP} {h h' base : Heap} (g : GrowN N h h') {l : List Env} (x : h.FunFrames base l) : h'.FunFrames base l := x.of_keeps fun b o e _ => by
  obtain ⟨s, e2⟩ := (g b o e).2; exact ⟨_, e2, rfl⟩
noncomputable def OwnOK (N : AP) (hE : Heap) (X : AP) (μ : Nat → Addr) (i : Nat) : LV → Value → Prop
  | .own _, v => v = .ref (μ i) ∧ X (μ i)
  | .ali _, v => ∃ a o, v = .ref a ∧ hE.get? a = some o ∧ ¬ N a
  | .pla _, v => ∃ a o, v = .ref a ∧ hE.get? a = some o ∧ ¬ N a
  | _, _ => True

structure SRel (W : Wd) (hE : Heap) (P0 P X : AP) (μ : Nat → Addr) (env : Env) (sl : List Str) (ℓ : List LV) (h : Heap) (T : Nat) : Prop where
  slot : ∀ (i : Nat) (x : Str) (lv : LV), sl[i]? = some x → ℓ[i]? = some lv → lv = .undef ∨ ∃ v, Has env h x v ∧ LR P h T lv v ∧ OwnOK W.N hE X μ i lv v
  apart : ∀ (i j : Nat) (l k : List MV), ℓ[i]? = some (.own l) → ℓ[j]? = some (.own k) → i ≠ j → μ i ≠ μ j
  frm : X env.locals ∧ ∃ m, h.Ns env.locals m
  cel : ∀ x, (env.kindOf x = some .cell ∨ env.kindOf x = some .free) → ∃ c, env.cells.lookup x = some c ∧ X c ∧ ∃ v, h.IsCell c v
  capart : ∀ x y c, env.cells.lookup x = some c → env.cells.lookup y = some c → x = y
  PX : ∀ a, P a → ¬ X a
  XE : ∀ a, X a → hE.get? a = none
  PE : ∀ a, P a → PF P0 hE a
  grow : GrowN W.N hE h
  PN : ∀ a, P a → ¬ W.N a
  NE : ∀ a, W.N a → ∃ o, hE.get? a = some o
  NB : ∀ a, W.N a → W.hB.get? a = none
  live : ∀ a, X a → ∃ o, h.get? a = some o
  nd : ∀ (i j : Nat) (x : Str), sl[i]? = some x → sl[j]? = some x → i = j
  len : ℓ.length ≤ sl.length

section
variable {W : Wd} {hE : Heap} {P0 P X : AP} {μ : Nat → Addr} {env : Env} {sl : List Str} {ℓ : List LV} {h : Heap} {T : Nat}
theorem SRel.toL (S : SRel W hE P0 P X μ env sl ℓ h T) : LRel P env sl ℓ h T := fun i x lv e q => by
  rcases S.slot i x lv e q with u | ⟨v, a, b, _⟩
  · exact .inl u
  · exact .inr ⟨v, a, b⟩
theorem SRel.step (S : SRel W hE P0 P X μ env sl ℓ h T) {h' : Heap} {T' : Nat} (g : Grow h h') (t : T ≤ T') : SRel W hE P0 P X μ env sl ℓ h' T' :=
  { slot := fun i x lv e q => by
      rcases S.slot i x lv e q with u | ⟨v, a, b, c⟩
      · exact .inl u
      · exact .inr ⟨v, a.grow g, b.step g t, c⟩
    apart := S.apart
    frm := ⟨S.frm.1, let ⟨m, hn⟩ := S.frm.2; ⟨m, hn.keeps g⟩⟩
    cel := fun x k => let ⟨c, a, b, v, i⟩ := S.cel x k; ⟨c, a, b, v, i.keeps g⟩
    capart := S.capart
    PX := S.PX
    XE := S.XE
    PE := S.PE
    grow := S.grow.trans (.of g)
    PN := S.PN
    NE := S.NE
    NB := S.NB
    live := fun a x => let ⟨o, e⟩ := S.live a x; ⟨o, g a o e⟩
    nd := S.nd
    len := S.len }
theorem SRel.more (S : SRel W hE P0 P X μ env sl ℓ h T) {P' : AP} (h1 : ∀ a, P a → P' a) (h2 : ∀ a, P' a → ¬ X a) (h3 : ∀ a, P' a → PF P0 hE a) (h4 : ∀ a, P' a → ¬ W.N a) : SRel W hE P0 P' X μ env sl ℓ h T :=
  { S with
    slot := fun i x lv e q => by
      rcases S.slot i x lv e q with u | ⟨v, a, b, c⟩
      · exact .inl u
      · exact .inr ⟨v, a, b.sub h1, c⟩
    PX := h2
    PE := h3
    PN := h4 }
/-- behind an expression -/
theorem SRel.pf (S : SRel W hE P0 P X μ env sl ℓ h T) {h' : Heap} {T' : Nat} (g : Grow h h') (t : T ≤ T') : SRel W hE P0 (PF P h) X μ env sl ℓ h' T' :=
  (S.more (P' := PF P h) (fun a p => .inl p) (fun a p x => by
    rcases p with p | p
    · exact S.PX a p x
    · obtain ⟨o, e⟩ := S.live a x; rw [p] at e; cases e) (fun a p => by
    rcases p with p | p
    · exact S.PE a p
    · exact .inr (S.grow.none p)) (fun a p q => by
    rcases p with p | p
    · exact S.PN a p q
    · obtain ⟨o, e⟩ := S.NE a q; rw [S.grow.none p] at e; cases e)).step g t
theorem SRel.cx {n C A} (S : SRel W hE P0 P X μ env sl ℓ h T) (Y : Sx W n C A env hE) (ht : 0 < T) : Cx W n C A env h T :=
  { base := fun b o e => (S.grow b o (Y.baseE b o e)).1 (fun q => by rw [S.NB b q] at e; cases e), tok := ht, handled := Y.handled, depth := Y.depth, units := Y.units, scope := Y.scope, kind := Y.kind, globals := Y.globals, builtins := Y.builtins
    frames := by
      obtain ⟨out, e, f⟩ := Y.frames
      obtain ⟨m, hn⟩ := S.frm.2
      refine ⟨_, e, Heap.FunFrames.cons ?_ Y.frame hn ?_ (funFrames_growN S.grow f)⟩
      · rw [Y.scope, Y.kind]; decide
      · cases e : W.hB.get? env.locals with
        | none => rfl
        | some o => have := Y.baseE _ _ e; rw [S.XE _ S.frm.1] at this; cases this }

theorem ns_not_list {a : Addr} {m} {vs} (x : h.Ns a m) (y : h.IsList a vs) : False := by
  obtain ⟨o, es, ep, e, d, _⟩ := x
  obtain ⟨o', e', _, n, d'⟩ := y
  rw [e] at e'; cases e'
  rw [d] at d'; cases d'
theorem cell_not_list {a : Addr} {v} {vs} (x : h.IsCell a v) (y : h.IsList a vs) : False := by
  obtain ⟨o, e, d⟩ := x
  obtain ⟨o', e', _, n, d'⟩ := y
  rw [e] at e'; cases e'
  rw [d] at d'; cases d'
theorem ns_not_cell {a : Addr} {v} {m} (x : h.Ns a m) (y : h.IsCell a v) : False := by
  obtain ⟨o, es, ep, e, d, _⟩ := x
  obtain ⟨o', e', d'⟩ := y
  rw [e] at e'; cases e'
  rw [d] at d'; cases d'

/-- what of the frame a store at z (the frame, or a cell of it) leaves -/
theorem LR.stored {i : Nat} {lv : LV} {v : Value} {z : Addr} {h' : Heap} {T' : Nat} (hPX : ∀ a, P a → ¬ X a) (hz : X z) (hnl : ∀ vs, ¬ h.IsList z vs) (k : ∀ b o, b ≠ z → h.get? b = some o → h'.get? b = some o) (ht : T ≤ T')
    (r : LR P h T lv v) : LR P h' T' lv v := by
  have kP : KeepOn P h h' := fun b o p e => k b o (fun q => hPX b p (q ▸ hz)) e
  cases lv with
  | undef => exact r
  | val m => exact VR.mono (m := m) (fun _ p => p) kP ht r
  | ali l =>
    obtain ⟨a, vs, rfl, hl, rs⟩ := r
    refine ⟨a, vs, rfl, ?_, rs.mono (fun _ p => p) kP ht⟩
    obtain ⟨o, e, rest⟩ := hl
    exact ⟨o, k a o (fun q => hnl vs (q ▸ ⟨o, e, rest⟩)) e, rest⟩
  | pla l =>
    obtain ⟨a, vs, rfl, hl, rs⟩ := r
    refine ⟨a, vs, rfl, ?_, rs.mono (fun _ p => p) kP ht⟩
    have hl' := hl.isList
    obtain ⟨n, e⟩ := hl
    exact ⟨n, k a _ (fun q => hnl vs (q ▸ hl')) e⟩
  | own l =>
    obtain ⟨a, vs, rfl, hl, rs⟩ := r
    refine ⟨a, vs, rfl, ?_, rs.mono (fun _ p => p) kP ht⟩
    have hl' := hl.isList
    obtain ⟨n, e⟩ := hl
    exact ⟨n, k a _ (fun q => hnl vs (q ▸ hl')) e⟩
theorem OwnOK.other {μ' : Nat → Addr} {i j : Nat} {lv : LV} {v : Value} (hμ : ∀ j, j ≠ i → μ' j = μ j) (hj : j ≠ i) (o : OwnOK W.N hE X μ j lv v) : OwnOK W.N hE X μ' j lv v := by
  cases lv <;> first | exact o | (show _ = _ ∧ _; rw [hμ j hj]; exact o)
theorem apart_set {i : Nat} {lv : LV} {μ' : Nat → Addr} (ap : ∀ (i j : Nat) (l k : List MV), ℓ[i]? = some (.own l) → ℓ[j]? = some (.own k) → i ≠ j → μ i ≠ μ j) (hμ : ∀ j, j ≠ i → μ' j = μ j)
    (hap : ∀ l, lv = .own l → ∀ (j : Nat) (k : List MV), j ≠ i → ℓ[j]? = some (.own k) → μ' i ≠ μ j) :
    ∀ (a b : Nat) (l k : List MV), (ℓ.set i lv)[a]? = some (.own l) → (ℓ.set i lv)[b]? = some (.own k) → a ≠ b → μ' a ≠ μ' b := by
  intro a b l k ha hb hab
  have at_i : ∀ {l : List MV}, (ℓ.set i lv)[i]? = some (.own l) → lv = .own l := fun {l} ha => by
    rw [List.getElem?_set] at ha
    simp only [if_true] at ha
    split at ha
    · cases ha; rfl
    · cases ha
  by_cases hai : a = i
  · subst hai
    have hbi : b ≠ a := Ne.symm hab
    rw [List.getElem?_set_ne (Ne.symm hbi)] at hb
    rw [hμ b hbi]
    exact hap l (at_i ha) b k hbi hb
  · by_cases hbi : b = i
    · subst hbi
      rw [List.getElem?_set_ne (Ne.symm hai)] at ha
      rw [hμ a hai]
      exact Ne.symm (hap k (at_i hb) a l hai ha)
    · rw [List.getElem?_set_ne (Ne.symm hai)] at ha
      rw [List.getElem?_set_ne (Ne.symm hbi)] at hb
      rw [hμ a hai, hμ b hbi]
      exact ap a b l k ha hb hab

theorem SRel.after {i : Nat} {x : Str} {lv : LV} {v : Value} {μ' : Nat → Addr} {z : Addr} {h' : Heap} {T' : Nat} (S : SRel W hE P0 P X μ env sl ℓ h T) (hi : sl[i]? = some x) (r : LR P h T lv v) (ow : OwnOK W.N hE X μ' i lv v) (hμ : ∀ j, j ≠ i → μ' j = μ j)
    (hap : ∀ l, lv = .own l → ∀ (j : Nat) (k : List MV), j ≠ i → ℓ[j]? = some (.own k) → μ' i ≠ μ j)
    (hz : X z) (hnl : ∀ vs, ¬ h.IsList z vs) (k : ∀ b o, b ≠ z → h.get? b = some o → h'.get? b = some o) (ht : T ≤ T')
    (hHas : ∀ y v', y ≠ x → Has env h y v' → Has env h' y v') (hx' : Has env h' x v) (hfrm : ∃ m, h'.Ns env.locals m) (hcel : ∀ c v, X c → h.IsCell c v → ∃ v', h'.IsCell c v') (hz' : ∃ o, h'.get? z = some o) :
    SRel W hE P0 P X μ' env sl (ℓ.set i lv) h' T' := by
  have kX : ∀ b o, ¬ X b → h.get? b = some o → h'.get? b = some o := fun b o nb e => k b o (fun q => nb (q ▸ hz)) e
  refine ⟨fun j y lv' e1 e2 => ?_, apart_set S.apart hμ hap, ⟨S.frm.1, hfrm⟩, fun y ky => ?_, S.capart, S.PX, S.XE, S.PE, S.grow.behind S.XE kX, S.PN, S.NE, S.NB, fun a xa => ?_, S.nd, by simpa using S.len⟩
  · by_cases hj : j = i
    · subst hj
      have hyx : x = y := by rw [hi] at e1; exact Option.some.inj e1
      subst hyx
      have hlv : lv' = lv := by
        rw [List.getElem?_set] at e2
        simp only [if_true] at e2
        split at e2
        · exact (Option.some.inj e2).symm
        · cases e2
      subst hlv
      exact .inr ⟨v, hx', LR.stored (i := j) S.PX hz hnl k ht r, ow⟩
    · rw [List.getElem?_set_ne (Ne.symm hj)] at e2
      rcases S.slot j y lv' e1 e2 with u | ⟨v', a, b, c⟩
      · exact .inl u
      · have hyx : y ≠ x := fun q => hj (S.nd j i x (q ▸ e1) hi)
        exact .inr ⟨v', hHas y v' hyx a, LR.stored (i := j) S.PX hz hnl k ht b, c.other hμ hj⟩
  · obtain ⟨c, e, xc, v0, hi0⟩ := S.cel y ky
    exact ⟨c, e, xc, hcel c v0 xc hi0⟩
  · obtain ⟨o, e⟩ := S.live a xa
    by_cases ha : a = z
    · subst ha; exact hz'
    · exact ⟨o, k a o ha e⟩

theorem ns_unique {a : Addr} {m m' : Str → Option Value} (x : h.Ns a m) (y : h.Ns a m') (n : Str) : m n = m' n := by
  obtain ⟨o1, es1, _, g1, d1, _, f1⟩ := x
  obtain ⟨o2, es2, _, g2, d2, _, f2⟩ := y
  rw [g1] at g2; cases g2
  rw [d1] at d2; cases d2
  rw [← f1, ← f2]

theorem SRel.store {M : Model} {A : Around} {E : Value → Shared → Prop} {s : Shared} {Q : Unit → Shared → Prop} {i : Nat} {x : Str} {lv : LV} {v : Value} {μ' : Nat → Addr} (S : SRel W hE P0 P X μ env sl ℓ s.heap s.toks) (hk : env.scope.kind = .function)
    (hx : env.kindOf x = some .local ∨ env.kindOf x = some .cell) (hi : sl[i]? = some x) (r : LR P s.heap s.toks lv v) (ow : OwnOK W.N hE X μ' i lv v) (hμ : ∀ j, j ≠ i → μ' j = μ j)
    (hap : ∀ l, lv = .own l → ∀ (j : Nat) (k : List MV), j ≠ i → ℓ[j]? = some (.own k) → μ' i ≠ μ j)
    (q : ∀ h' tk, SRel W hE P0 P X μ' env sl (ℓ.set i lv) h' tk → s.toks ≤ tk → (∀ b o, ¬ X b → s.heap.get? b = some o → h'.get? b = some o) → Q () { s with heap := h', toks := tk }) :
    wpAny M A (storeName env x v) Q E s := by
  obtain ⟨xL, m, hn⟩ := S.frm
  rcases hx with hx | hx
  · refine wpAny_storeName_local hx hn (fun h' hn' hs' => ?_) (by rw [hk]; rfl)
    have k : ∀ b o, b ≠ env.locals → s.heap.get? b = some o → h'.get? b = some o := fun b o hb e => hs'.extBut b o hb e
    refine q h' _ (S.after hi r ow hμ hap xL (fun vs hl => ns_not_list hn hl) k (Nat.le_succ _) (fun y v' hy a => ?_) (.inl ⟨hx, _, hn', by simp⟩) ⟨_, hn'⟩ (fun c v0 xc hi0 => ?_) ?_) (Nat.le_succ _) (fun b o nb e => k b o (fun q => nb (q ▸ xL)) e)
    · rcases a with ⟨ky, m', hn2, e⟩ | ⟨ky, c', e, hi'⟩
      · exact .inl ⟨ky, _, hn', by rw [if_neg hy, ← ns_unique hn2 hn y, e]⟩
      · obtain ⟨o, ho, hd⟩ := hi'
        exact .inr ⟨ky, c', e, o, k c' o (fun q => by subst q; exact ns_not_cell hn ⟨o, ho, hd⟩) ho, hd⟩
    · obtain ⟨o, ho, hd⟩ := hi0
      exact ⟨v0, o, k c o (fun q => by subst q; exact ns_not_cell hn ⟨o, ho, hd⟩) ho, hd⟩
    · obtain ⟨o', _, _, e', _⟩ := hn'; exact ⟨o', e'⟩
  · obtain ⟨c, hc, xc, v0, hi0⟩ := S.cel x (.inl hx)
    refine wpAny_storeName_cell hk hx hc hi0 fun h' hi' hs' => ?_
    have k : ∀ b o, b ≠ c → s.heap.get? b = some o → h'.get? b = some o := fun b o hb e => hs'.extBut b o hb e
    refine q h' s.toks (S.after hi r ow hμ hap xc (fun vs hl => cell_not_list hi0 hl) k (Nat.le_refl _) (fun y v' hy a => ?_) (.inr ⟨.inl hx, c, hc, hi'⟩) ⟨m, hn.sameBut hs' (fun q => ns_not_cell hn (q ▸ hi0))⟩ (fun c' v1 xc' hi1 => ?_) ?_) (Nat.le_refl _) (fun b o nb e => k b o (fun q => nb (q ▸ xc)) e)
    · rcases a with ⟨ky, m', hn2, e⟩ | ⟨ky, c', e, o, ho, hd⟩
      · exact .inl ⟨ky, _, hn2.sameBut hs' (fun q => ns_not_cell hn2 (q ▸ hi0)), e⟩
      · exact .inr ⟨ky, c', e, o, k c' o (fun q => hy (S.capart _ _ c' e (q ▸ hc))) ho, hd⟩
    · by_cases hcc : c' = c
      · subst hcc; exact ⟨_, hi'⟩
      · obtain ⟨o, ho, hd⟩ := hi1
        exact ⟨v1, o, k c' o hcc ho, hd⟩
    · obtain ⟨o, ho, _⟩ := hi'; exact ⟨o, ho⟩
end

/-! what a row of statements does -/
inductive Out where
  | next (ℓ : List LV)
  | ret (m : MV)
noncomputable abbrev SF := List LV → Option Out
noncomputable def Post (W : Wd) (hE : Heap) (P0 X : AP) (env : Env) (sl : List Str) (s : Shared) (Q : Flow → Shared → Prop) : Out → Prop
  | .next ℓ' => ∀ P' X' μ' h' tk, SRel W hE P0 P' X' μ' env sl ℓ' h' tk → s.toks ≤ tk → (∀ b o, ¬ X b → ¬ W.N b → s.heap.get? b = some o → h'.get? b = some o) → (∀ a, X' a → X a ∨ s.heap.get? a = none) → Q .next { s with heap := h', toks := tk }
  | .ret m => ∀ v h' tk, VR (PF P0 hE) h' tk m v → GrowN W.N hE h' → s.toks ≤ tk → Q (.ret v) { s with heap := h', toks := tk }
noncomputable def DenX (W : Wd) (n : Nat) (C : Scope) (sl : List Str) (st : Stmt) (g : SF) : Prop :=
  ∀ {A : Around} {env : Env} {hE : Heap} {P0 P X : AP} {μ : Nat → Addr} {ℓ : List LV} {s : Shared} {out : Out} {E : Value → Shared → Prop} {Q : Flow → Shared → Prop},
    Sx W n C A env hE → SRel W hE P0 P X μ env sl ℓ s.heap s.toks → 0 < s.toks → g ℓ = some out → Post W hE P0 X env sl s Q out → wpAny (model W.prog W.w) A (exec st env) Q E s
noncomputable def DenS (W : Wd) (n : Nat) (C : Scope) (sl : List Str) (ss : List Stmt) (g : SF) : Prop :=
  ∀ {A : Around} {env : Env} {hE : Heap} {P0 P X : AP} {μ : Nat → Addr} {ℓ : List LV} {s : Shared} {out : Out} {E : Value → Shared → Prop} {Q : Flow → Shared → Prop},
    Sx W n C A env hE → SRel W hE P0 P X μ env sl ℓ s.heap s.toks → 0 < s.toks → g ℓ = some out → Post W hE P0 X env sl s Q out → wpAny (model W.prog W.w) A (execs ss env) Q E s
noncomputable def seqS (g : SF) (k : SF) : SF := fun ℓ => match g ℓ with
  | some (.next ℓ') => k ℓ'
  | some (.ret m) => some (.ret m)
  | none => none

section
variable {W : Wd} {n : Nat} {C : Scope} {sl : List Str}
theorem den_done : DenS W n C sl [] (fun ℓ => some (.next ℓ)) := by
  intro A env hE P0 P X μ ℓ s out E Q Y S ht e q
  cases e
  exact wpAny_execs_nil (q P X μ s.heap s.toks S (Nat.le_refl _) (fun _ _ _ _ e => e) (fun _ x => .inl x))
theorem den_seq {st : Stmt} {ss : List Stmt} {g k : SF} (D : DenX W n C sl st g) (Ds : DenS W n C sl ss k) : DenS W n C sl (st :: ss) (seqS g k) := by
  intro A env hE P0 P X μ ℓ s out E Q Y S ht e q
  unfold seqS at e
  cases hg : g ℓ with
  | none => rw [hg] at e; cases e
  | some o1 =>
    rw [hg] at e
    cases o1 with
    | ret m =>
      cases e
      exact wpAny_execs_cons (D Y S ht hg fun v h' tk r g' t => q v h' tk r g' t)
    | next ℓ' =>
      refine wpAny_execs_cons (D Y S ht hg fun P1 X1 μ1 h1 tk1 S1 t1 k1 x1 => ?_)
      have t1' : s.toks ≤ tk1 := t1
      refine Ds (s := { s with heap := h1, toks := tk1 }) Y S1 (Nat.lt_of_lt_of_le ht t1') e ?_
      cases out with
      | ret m => exact fun v h' tk r g' t => q v h' tk r g' (Nat.le_trans t1' t)
      | next ℓ2 =>
        intro P2 X2 μ2 h2 tk2 S2 t2 k2 x2
        refine q P2 X2 μ2 h2 tk2 S2 (Nat.le_trans t1' t2) (fun b o nb nn e => k2 b o (fun xb => ?_) nn (k1 b o nb nn e)) (fun a xa => ?_)
        · rcases x1 b xb with q | q
          · exact nb q
          · rw [e] at q; cases q
        · rcases x2 a xa with q | q
          · exact x1 a q
          · by_cases xa0 : X a
            · exact .inl xa0
            · refine .inr ?_
              cases e : s.heap.get? a with
              | none => rfl
              | some o =>
                have q' : h1.get? a = none := q
                by_cases na : W.N a
                · obtain ⟨o2, e2⟩ := S.NE a na
                  rw [S1.grow.none q'] at e2; cases e2
                · have := k1 a o xa0 na e
                  rw [q'] at this; cases this
end
end Mine
end
section
open PySem PySem.W PyProof.Rows PySem.Calls
set_option Elab.async false
set_option linter.unusedVariables false
set_option linter.unusedSimpArgs false
namespace Mine
section
variable {W : Wd} {hE : Heap} {P0 P X : AP} {μ : Nat → Addr} {env : Env} {sl : List Str} {ℓ : List LV} {h : Heap} {T : Nat}

theorem Has.onX {h' : Heap} {x v} (S : SRel W hE P0 P X μ env sl ℓ h T) (k : ∀ b o, X b → h.get? b = some o → h'.get? b = some o) (a : Has env h x v) : Has env h' x v := by
  rcases a with ⟨ky, m, hn, e⟩ | ⟨ky, c, e, o, ho, hd⟩
  · exact .inl ⟨ky, m, hn.at' fun o ho => k _ o S.frm.1 ho, e⟩
  · obtain ⟨c', e', xc, _⟩ := S.cel x ky
    rw [e] at e'; cases e'
    exact .inr ⟨ky, c, e, o, k c o xc ho, hd⟩
/-- a change where the frame has nothing -/
theorem SRel.keepOn (S : SRel W hE P0 P X μ env sl ℓ h T) {h' : Heap} {T' : Nat} (k : ∀ b o, (X b ∨ P b ∨ (¬ W.N b ∧ ∃ o, hE.get? b = some o)) → h.get? b = some o → h'.get? b = some o) (kN : ∀ b o, W.N b → h.get? b = some o → ∃ s, h'.get? b = some { o with slots := s }) (t : T ≤ T') : SRel W hE P0 P X μ env sl ℓ h' T' :=
  { slot := fun i x lv e q => by
      rcases S.slot i x lv e q with u | ⟨v, a, b, c⟩
      · exact .inl u
      · refine .inr ⟨v, Has.onX S (fun b o xb => k b o (.inl xb)) a, ?_, c⟩
        have kP : KeepOn P h h' := fun b o p => k b o (.inr (.inl p))
        cases lv with
        | undef => exact b
        | val m => exact VR.mono (m := m) (fun _ p => p) kP t b
        | ali l =>
          obtain ⟨a', vs, rfl, ⟨o, e, rest⟩, rs⟩ := b
          obtain ⟨a2, o2, e2, h2, na⟩ := c
          cases e2
          exact ⟨a', vs, rfl, ⟨o, k a' o (.inr (.inr ⟨na, o2, h2⟩)) e, rest⟩, rs.mono (fun _ p => p) kP t⟩
        | pla l =>
          obtain ⟨a', vs, rfl, ⟨n, e⟩, rs⟩ := b
          obtain ⟨a2, o2, e2, h2, na⟩ := c
          cases e2
          exact ⟨a', vs, rfl, ⟨n, k a' _ (.inr (.inr ⟨na, o2, h2⟩)) e⟩, rs.mono (fun _ p => p) kP t⟩
        | own l =>
          obtain ⟨a', vs, rfl, ⟨n, e⟩, rs⟩ := b
          obtain ⟨e2, xa⟩ := c
          cases e2
          exact ⟨_, vs, rfl, ⟨n, k _ _ (.inl xa) e⟩, rs.mono (fun _ p => p) kP t⟩
    apart := S.apart
    frm := ⟨S.frm.1, let ⟨m, hn⟩ := S.frm.2; ⟨m, hn.at' fun o ho => k _ o (.inl S.frm.1) ho⟩⟩
    cel := fun x ky => let ⟨c, e, xc, v, o, ho, hd⟩ := S.cel x ky; ⟨c, e, xc, v, o, k c o (.inl xc) ho, hd⟩
    capart := S.capart
    PX := S.PX
    XE := S.XE
    PE := S.PE
    grow := fun b o e => by
      refine ⟨fun n => k b o (.inr (.inr ⟨n, o, e⟩)) ((S.grow b o e).1 n), ?_⟩
      obtain ⟨s1, e1⟩ := (S.grow b o e).2
      by_cases n : W.N b
      · obtain ⟨s2, e2⟩ := kN b _ n e1
        exact ⟨s2, e2⟩
      · exact ⟨o.slots, k b o (.inr (.inr ⟨n, o, e⟩)) ((S.grow b o e).1 n)⟩
    PN := S.PN
    NE := S.NE
    NB := S.NB
    live := fun a xa => let ⟨o, e⟩ := S.live a xa; ⟨o, k a o (.inl xa) e⟩
    nd := S.nd
    len := S.len }
/-- a new private list -/
theorem SRel.newX (S : SRel W hE P0 P X μ env sl ℓ h T) {h' : Heap} {T' : Nat} {a : Addr} (N : AP) (hN : ∀ b, N b → h.get? b = none) (g : Grow h h') (t : T ≤ T') (ha : h.get? a = none) (ha' : ∃ o, h'.get? a = some o) :
    SRel W hE P0 (fun b => PF P h b ∧ b ≠ a ∧ ¬ N b) (fun b => X b ∨ b = a) μ env sl ℓ h' T' := by
  have ne : ∀ {b o}, h.get? b = some o → b ≠ a := fun e q => by rw [q, ha] at e; cases e
  have S' := S.pf g t
  refine ⟨fun i x lv e q => ?_, S.apart, ⟨.inl S'.frm.1, S'.frm.2⟩, fun x ky => ?_, S.capart, fun b p xb => ?_, fun b xb => ?_, fun b p => S'.PE b p.1, S'.grow, fun b p => S'.PN b p.1, S.NE, S.NB, fun b xb => ?_, S.nd, S.len⟩
  · rcases S.slot i x lv e q with u | ⟨v, a1, b, c⟩
    · exact .inl u
    · refine .inr ⟨v, a1.grow g, b.live.grow (fun b p => ⟨.inl p.1, (let ⟨o, e⟩ := p.2; ne e), fun nb => (by obtain ⟨o, e⟩ := p.2; rw [hN b nb] at e; cases e)⟩) g t, ?_⟩
      cases lv <;> first | exact c | exact ⟨c.1, .inl c.2⟩
  · obtain ⟨c, e, xc, r⟩ := S'.cel x ky
    exact ⟨c, e, .inl xc, r⟩
  · rcases xb with xb | xb
    · exact S'.PX b p.1 xb
    · exact p.2.1 xb
  · rcases xb with xb | xb
    · exact S.XE b xb
    · rw [xb]
      exact S.grow.none ha
  · rcases xb with xb | xb
    · exact S'.live b xb
    · rw [xb]; exact ha'
/-- a private list changes in place -/
theorem SRel.mut (S : SRel W hE P0 P X μ env sl ℓ h T) {h' : Heap} {T' : Nat} {i : Nat} {l l' : List MV} {vs : Array Value} (hl : ℓ[i]? = some (.own l)) (hp : ∃ vs, h.PlainList (μ i) vs) (k : ∀ b o, b ≠ μ i → h.get? b = some o → h'.get? b = some o) (t : T ≤ T') (hX : X (μ i))
    (hp' : h'.PlainList (μ i) vs) (hv : VRs P h' T' l' vs.toList) : SRel W hE P0 P X μ env sl (ℓ.set i (.own l')) h' T' := by
  obtain ⟨vs0, hp0⟩ := hp
  have nL : μ i ≠ env.locals := fun q => by obtain ⟨m, hn⟩ := S.frm.2; exact ns_not_list hn (q ▸ hp0.isList)
  have kP : KeepOn P h h' := fun b o p e => k b o (fun q => S.PX b p (q ▸ hX)) e
  have kX : ∀ b o, ¬ X b → h.get? b = some o → h'.get? b = some o := fun b o nb e => k b o (fun q => nb (q ▸ hX)) e
  have kH : ∀ {x v}, Has env h x v → Has env h' x v := fun {x v} a => by
    rcases a with ⟨ky, m, hn, e⟩ | ⟨ky, c, e, o, ho, hd⟩
    · exact .inl ⟨ky, m, hn.at' fun o ho => k _ o (Ne.symm nL) ho, e⟩
    · exact .inr ⟨ky, c, e, o, k c o (fun q => by subst q; exact cell_not_list ⟨o, ho, hd⟩ hp0.isList) ho, hd⟩
  refine ⟨fun j x lv e q => ?_, ?_, ⟨S.frm.1, let ⟨m, hn⟩ := S.frm.2; ⟨m, hn.at' fun o ho => k _ o (Ne.symm nL) ho⟩⟩, fun x ky => ?_, S.capart, S.PX, S.XE, S.PE, S.grow.behind S.XE kX, S.PN, S.NE, S.NB, fun a xa => ?_, S.nd, by simpa using S.len⟩
  · by_cases hj : j = i
    · subst hj
      have hlv : lv = .own l' := by
        rw [List.getElem?_set] at q
        simp only [if_true] at q
        split at q
        · exact (Option.some.inj q).symm
        · cases q
      subst hlv
      rcases S.slot j x _ e hl with u | ⟨v, a, b, c⟩
      · cases u
      · obtain ⟨rfl, xx⟩ := c
        exact .inr ⟨_, kH a, ⟨_, vs, rfl, hp', hv⟩, rfl, xx⟩
    · rw [List.getElem?_set_ne (Ne.symm hj)] at q
      rcases S.slot j x lv e q with u | ⟨v, a, b, c⟩
      · exact .inl u
      · refine .inr ⟨v, kH a, ?_, c⟩
        cases lv with
        | undef => exact b
        | val m => exact VR.mono (m := m) (fun _ p => p) kP t b
        | ali l2 =>
          obtain ⟨a', us, rfl, ⟨o, e1, rest⟩, rs⟩ := b
          obtain ⟨a2, o2, e2, h2, na⟩ := c
          cases e2
          exact ⟨a', us, rfl, ⟨o, kX a' o (fun xa => by rw [S.XE a' xa] at h2; cases h2) e1, rest⟩, rs.mono (fun _ p => p) kP t⟩
        | pla l2 =>
          obtain ⟨a', us, rfl, ⟨n, e1⟩, rs⟩ := b
          obtain ⟨a2, o2, e2, h2, na⟩ := c
          cases e2
          exact ⟨a', us, rfl, ⟨n, kX a' _ (fun xa => by rw [S.XE a' xa] at h2; cases h2) e1⟩, rs.mono (fun _ p => p) kP t⟩
        | own l2 =>
          obtain ⟨a', us, rfl, ⟨n, e1⟩, rs⟩ := b
          obtain ⟨e2, xa⟩ := c
          cases e2
          exact ⟨_, us, rfl, ⟨n, k _ _ (S.apart j i l2 l q hl hj) e1⟩, rs.mono (fun _ p => p) kP t⟩
  · intro a b l1 l2 ha hb hab
    have back : ∀ {c : Nat} {l3 : List MV}, (ℓ.set i (.own l'))[c]? = some (.own l3) → ∃ l4, ℓ[c]? = some (.own l4) := fun {c l3} hc => by
      by_cases hci : c = i
      · subst hci; exact ⟨l, hl⟩
      · rw [List.getElem?_set_ne (Ne.symm hci)] at hc; exact ⟨l3, hc⟩
    obtain ⟨l3, h3⟩ := back ha
    obtain ⟨l4, h4⟩ := back hb
    exact S.apart a b l3 l4 h3 h4 hab
  · obtain ⟨c, e, xc, v, o, ho, hd⟩ := S.cel x ky
    exact ⟨c, e, xc, v, o, k c o (fun q => by subst q; exact cell_not_list ⟨o, ho, hd⟩ hp0.isList) ho, hd⟩
  · obtain ⟨o, e⟩ := S.live a xa
    by_cases hai : a = μ i
    · subst hai; obtain ⟨n, e'⟩ := hp'; exact ⟨_, e'⟩
    · exact ⟨o, k a o hai e⟩
theorem SRel.own_at (S : SRel W hE P0 P X μ env sl ℓ h T) {i : Nat} {x : Str} {l : List MV} (hi : sl[i]? = some x) (hl : ℓ[i]? = some (.own l)) : Has env h x (.ref (μ i)) ∧ X (μ i) ∧ ∃ vs, h.PlainList (μ i) vs ∧ VRs P h T l vs.toList := by
  rcases S.slot i x _ hi hl with u | ⟨v, a, b, c⟩
  · cases u
  · obtain ⟨rfl, xx⟩ := c
    obtain ⟨a', vs, e, p, r⟩ := b
    cases e
    exact ⟨a, xx, vs, p, r⟩
/-- a private list is handed over: no longer changed -/
theorem SRel.freeze (S : SRel W hE P0 P X μ env sl ℓ h T) {i : Nat} {x : Str} {l : List MV} (hi : sl[i]? = some x) (hl : ℓ[i]? = some (.own l)) :
    SRel W hE P0 (fun b => P b ∨ b = μ i) (fun b => X b ∧ b ≠ μ i) μ env sl (ℓ.set i (.val (.list l))) h T := by
  obtain ⟨a, xx, vs, hp, r⟩ := S.own_at hi hl
  have nL : env.locals ≠ μ i := fun q => by obtain ⟨m, hn⟩ := S.frm.2; exact ns_not_list hn (q ▸ hp.isList)
  refine ⟨fun j y lv e q => ?_, ?_, ⟨⟨S.frm.1, nL⟩, S.frm.2⟩, fun y ky => ?_, S.capart, fun b p xb => ?_, fun b xb => S.XE b xb.1, fun b p => ?_, S.grow, fun b p => ?_, S.NE, S.NB, fun b xb => S.live b xb.1, S.nd, by simpa using S.len⟩
  · by_cases hj : j = i
    · subst hj
      have hlv : lv = .val (.list l) := by
        rw [List.getElem?_set] at q
        simp only [if_true] at q
        split at q
        · exact (Option.some.inj q).symm
        · cases q
      subst hlv
      have hyx : x = y := by rw [hi] at e; exact Option.some.inj e
      subst hyx
      exact .inr ⟨_, a, ⟨_, vs, rfl, .inr rfl, hp, r.sub (fun b p => .inl p)⟩, trivial⟩
    · rw [List.getElem?_set_ne (Ne.symm hj)] at q
      rcases S.slot j y lv e q with u | ⟨v, a1, b, c⟩
      · exact .inl u
      · refine .inr ⟨v, a1, b.sub (fun b p => .inl p), ?_⟩
        cases lv <;> first | exact c | exact ⟨c.1, c.2, S.apart j i _ l q hl hj⟩
  · intro a b l1 l2 ha hb hab
    have back : ∀ {c : Nat} {l3 : List MV}, (ℓ.set i (.val (.list l)))[c]? = some (.own l3) → ℓ[c]? = some (.own l3) := fun {c l3} hc => by
      by_cases hci : c = i
      · subst hci
        rw [List.getElem?_set] at hc
        simp only [if_true] at hc
        split at hc <;> cases hc
      · rwa [List.getElem?_set_ne (Ne.symm hci)] at hc
    exact S.apart a b l1 l2 (back ha) (back hb) hab
  · obtain ⟨c, e, xc, v, hc⟩ := S.cel y ky
    exact ⟨c, e, ⟨xc, fun q => by subst q; exact cell_not_list hc hp.isList⟩, v, hc⟩
  · rcases p with p | p
    · exact S.PX b p xb.1
    · exact xb.2 p
  · rcases p with p | p
    · exact S.PE b p
    · rw [p]; exact .inr (S.XE _ xx)
  · rcases p with p | p
    · exact S.PN b p
    · rw [p]; intro n; obtain ⟨o, e⟩ := S.NE _ n; rw [S.XE _ xx] at e; cases e
end

section
variable {W : Wd} {n : Nat} {C : Scope} {sl : List Str}
noncomputable def setV (i : Nat) (f : MF) : SF := fun ℓ => match f ℓ with | some m => some (.next (ℓ.set i (.val m))) | none => none
noncomputable def setO (i : Nat) (f : List LV → Option (List MV)) : SF := fun ℓ => match f ℓ with | some l => some (.next (ℓ.set i (.own l))) | none => none
noncomputable def isVar (C : Scope) (x : Str) : Bool := C.names.lookup x == some .local || C.names.lookup x == some .cell
theorem isVar_kind {x : Str} {env : Env} (h : isVar C x = true) (he : env.scope = C) : env.kindOf x = some .local ∨ env.kindOf x = some .cell := by
  unfold isVar at h
  rw [Bool.or_eq_true, beq_iff_eq, beq_iff_eq] at h
  unfold Env.kindOf
  rw [he]; exact h
/-- behind an expression, a store -/
theorem storeV {A : Around} {env : Env} {hE : Heap} {P0 P X : AP} {μ : Nat → Addr} {ℓ : List LV} {s : Shared} {h1 : Heap} {tk1 : Nat} {m : MV} {v : Value} {i : Nat} {x : Str} {E : Value → Shared → Prop} {Q : Flow → Shared → Prop} (Y : Sx W n C A env hE)
    (S : SRel W hE P0 P X μ env sl ℓ s.heap s.toks) (hi : sl[i]? = some x) (hx : isVar C x = true) (g : Grow s.heap h1) (t : s.toks ≤ tk1) (r : VR (PF P s.heap) h1 tk1 m v) (q : Post W hE P0 X env sl s Q (.next (ℓ.set i (.val m)))) :
    wpAny (model W.prog W.w) A (storeName env x v) (fun _ => Q .next) E { s with heap := h1, toks := tk1 } := by
  refine SRel.store (s := { s with heap := h1, toks := tk1 }) (lv := .val m) (μ' := μ) (S.pf g t) (by rw [Y.scope]; exact Y.kind) (isVar_kind hx Y.scope) hi r trivial (fun _ _ => rfl) (fun l e => by cases e) fun h2 tk2 S2 t2 k2 => ?_
  have t2' : tk1 ≤ tk2 := t2
  exact q _ X μ h2 tk2 S2 (Nat.le_trans t t2') (fun b o nb _ e => k2 b o nb (g b o e)) (fun a x => .inl x)
theorem storeO {A : Around} {env : Env} {hE : Heap} {P0 P X : AP} {μ : Nat → Addr} {ℓ : List LV} {s : Shared} {h1 : Heap} {tk1 : Nat} {l : List MV} {a : Addr} {vs : Array Value} {P1 : AP} {i : Nat} {x : Str} {E : Value → Shared → Prop} {Q : Unit → Shared → Prop} (Y : Sx W n C A env hE)
    (S : SRel W hE P0 P X μ env sl ℓ s.heap s.toks) (hi : sl[i]? = some x) (hx : isVar C x = true) (h1P : ∀ b, P1 b → PF P s.heap b) (hnP : ¬ P1 a) (ha : s.heap.get? a = none) (g : Grow s.heap h1) (t : s.toks ≤ tk1) (hl : h1.PlainList a vs) (r : VRs P1 h1 tk1 l vs.toList) (N : AP) (hN : ∀ b, N b → s.heap.get? b = none) (hN1 : ∀ b, P1 b → ¬ N b)
    (q : ∀ h' tk, SRel W hE P0 (fun b => PF P s.heap b ∧ b ≠ a ∧ ¬ N b) (fun b => X b ∨ b = a) (fun j => if j = i then a else μ j) env sl (ℓ.set i (.own l)) h' tk → tk1 ≤ tk → (∀ b o, ¬ (X b ∨ b = a) → h1.get? b = some o → h'.get? b = some o) → Q () { s with heap := h', toks := tk }) :
    wpAny (model W.prog W.w) A (storeName env x (.ref a)) Q E { s with heap := h1, toks := tk1 } := by
  refine SRel.store (s := { s with heap := h1, toks := tk1 }) (lv := .own l) (μ' := fun j => if j = i then a else μ j) (S.newX N hN g t ha (by obtain ⟨k, e⟩ := hl; exact ⟨_, e⟩)) (by rw [Y.scope]; exact Y.kind) (isVar_kind hx Y.scope) hi ?_ ?_ (fun j hj => by simp [hj]) ?_ q
  · exact ⟨a, vs, rfl, hl, r.sub fun b p => ⟨h1P b p, (fun q => hnP (q ▸ p)), hN1 b p⟩⟩
  · exact ⟨by simp, .inr (by simp)⟩
  · intro l' _ j k hj hk e
    simp only [if_true] at e
    cases hs : sl[j]? with
    | none =>
      have h1 : j < ℓ.length := (List.getElem?_eq_some_iff.mp hk).1
      have h2 := List.getElem?_eq_none_iff.mp hs
      have h3 := S.len
      omega
    | some y =>
      obtain ⟨_, xx, _⟩ := S.own_at hs hk
      obtain ⟨o, e'⟩ := S.live _ xx
      rw [← e, ha] at e'; cases e'
theorem den_assign {x : Str} {px pos : Pos} {e : Expr} {f : MF} (i : Nat) (hi : sl[i]? = some x) (hx : isVar C x = true) (hsw : ∀ env, env.scope = C → swapsWith e (some (.Name x px)) pos.line env = pure false) (D : DenE W n C sl e f) :
    DenX W n C sl (.Assign [.Name x px] e pos) (setV i f) := by
  intro A env hE P0 P X μ ℓ s out E Q Y S ht hg q
  unfold setV at hg
  split at hg
  · rename_i m hm
    cases hg
    exact wpAny_Assign_Name (D (S.cx Y ht) S.toL hm fun v h1 tk1 g t r => storeV Y S hi hx g t r q) (hsw env Y.scope)
  · cases hg
theorem den_assignO {x : Str} {px pos : Pos} {e : Expr} {f} (i : Nat) (hi : sl[i]? = some x) (hx : isVar C x = true) (hsw : ∀ env, env.scope = C → swapsWith e (some (.Name x px)) pos.line env = pure false) (D : DenN W n C sl e f) :
    DenX W n C sl (.Assign [.Name x px] e pos) (setO i f) := by
  intro A env hE P0 P X μ ℓ s out E Q Y S ht hg q
  unfold setO at hg
  split at hg
  · rename_i l hm
    cases hg
    refine wpAny_Assign_Name (D (S.cx Y ht) S.toL hm fun a vs h1 tk1 P1 h1P hnP ha g t hl r => storeO Y S hi hx h1P hnP ha g t hl r (fun _ => False) (fun _ q => q.elim) (fun _ _ q => q) fun h2 tk2 S2 t2 k2 => ?_) (hsw env Y.scope)
    refine q _ _ _ h2 tk2 S2 (Nat.le_trans t t2) (fun b o nb _ e => k2 b o (fun x => ?_) (g b o e)) (fun b x => ?_)
    · rcases x with x | x
      · exact nb x
      · rw [x, ha] at e; cases e
    · rcases x with x | x
      · exact .inl x
      · rw [x]; exact .inr ha
  · cases hg

/-- name = [.. for ..], the name a local: stored before the block's frame goes -/
theorem den_assignC {x : Str} {px pos lpos : Pos} {elt iter : Expr} {y : Str} {py : Pos} {ifs : List Expr} {scope : Scope} {fi ft} {fe : MF} (i : Nat) (tl : List Str) (ix : List Nat) (hi : sl[i]? = some x) (hx : isVar C x = true)
    (hsw : ∀ env, env.scope = C → swapsWith (.ListComp elt [⟨.Name y py, iter, ifs, 0⟩] scope lpos) (some (.Name x px)) pos.line env = pure true)
    (hs : ∀ env x, foldedSetIterable iter env x = pure x) (hchk : compOK scope C sl y tl ix = true)
    (Di : DenI false W n C sl iter fi) (Dt : DenTs W n (relabelC scope C) (y :: tl) ifs ft) (De : DenE W n (relabelC scope C) (y :: tl) elt fe) :
    DenX W n C sl (.Assign [.Name x px] (.ListComp elt [⟨.Name y py, iter, ifs, 0⟩] scope lpos) pos) (setO i (compV fi ft fe ix)) := by
  intro A env hE P0 P X μ ℓ s out E Q Y S ht hg q
  unfold setO at hg
  split at hg
  · rename_i outs hv
    cases hg
    obtain ⟨hk, hnm, _⟩ := compOK_iff hchk
    rw [exec_Assign_Name_used _ _ _ _ (hsw env Y.scope)]
    refine wpAny_bind (wpAny_standAt (wpAny_bind ?_))
    show wpAny _ A (do let _ ← comprehension (.ListComp elt [⟨.Name y py, iter, ifs, 0⟩] scope lpos) scope env _ (newList []) false (eval iter env) (some (assign (.Name x px) env))) _ _ s
    have B := comp_block (px := py) (pos := lpos) Di Dt De hchk (E := E) (RR := fun acc Lc => compPost (model W.prog W.w) A E (some (assign (.Name x px) env)) (fun _ s' => Q .next s') acc Lc) (S.cx Y ht) S.toL hv ?_
    · refine wpAny_bind (wpAny_mono (wpAny_comprehension_free (use := some (assign (.Name x px) env)) (Q := fun _ s' => Q .next s') rfl (hs env) B.1 hk hnm B.2) (fun _ s' hq => wpAny_pure (wpAny_pure hq)) fun _ _ e => e)
    · intro D Lc h1 tk1 ys m1 P1 h1P hnP hnL hD hLn hne hns hl r g t
      show wpAny _ A (assign (.Name x px) env (.ref D)) _ _ _
      refine wpAny_assign_Name (storeO Y S hi hx h1P hnP hD g t hl r (fun b => b = Lc) (fun b q => q ▸ hLn) (fun b p q => hnL (q ▸ p)) fun h2 tk2 S2 t2 k2 => ?_)
      have hLX : ¬ (X Lc ∨ Lc = D) := fun q => by
        rcases q with q | q
        · obtain ⟨o, e⟩ := S.live _ q; rw [hLn] at e; cases e
        · exact hne q.symm
      refine ⟨m1, hns.at' fun o e => k2 _ o hLX e, fun h3 hs3 => ?_⟩
      have hLe : hE.get? Lc = none := S.grow.none hLn
      refine q _ _ _ h3 tk2 (S2.keepOn (fun b o hb e => hs3.extBut b o ?_ e) (fun b o n e => ⟨o.slots, hs3.extBut b o (fun q => by subst q; obtain ⟨o2, e2⟩ := S.NE _ n; rw [hLe] at e2; cases e2) e⟩) (Nat.le_refl _)) (Nat.le_trans t t2) (fun b o nb _ e => hs3.extBut b o (fun q => by rw [q, hLn] at e; cases e) (k2 b o (fun x => ?_) (g b o e))) (fun b x => ?_)
      · rintro rfl
        rcases hb with x | p | ⟨_, o, e⟩
        · exact hLX x
        · exact p.2.2 rfl
        · rw [hLe] at e; cases e
      · rcases x with x | x
        · exact nb x
        · rw [x, hD] at e; cases e
      · rcases x with x | x
        · exact .inl x
        · rw [x]; exact .inr hD
  · cases hg
end
end Mine
end
section
open PySem PySem.W PyProof.Rows PySem.Calls
set_option Elab.async false
set_option linter.unusedVariables false
set_option linter.unusedSimpArgs false
namespace Mine
section
variable {W : Wd} {n : Nat} {C : Scope} {sl : List Str}

/-- a post-condition behind a first part that only grew the heap -/
theorem Post.behind {hE : Heap} {P0 X : AP} {env : Env} {s : Shared} {Q : Flow → Shared → Prop} {out : Out} {h1 : Heap} {tk1 : Nat} (g : Grow s.heap h1) (t : s.toks ≤ tk1) (q : Post W hE P0 X env sl s Q out) : Post W hE P0 X env sl { s with heap := h1, toks := tk1 } Q out := by
  cases out with
  | ret m => exact fun v h' tk r g' t' => q v h' tk r g' (Nat.le_trans t t')
  | next ℓ' =>
    intro P2 X2 μ2 h2 tk2 S2 t2 k2 x2
    refine q P2 X2 μ2 h2 tk2 S2 (Nat.le_trans t t2) (fun b o nb nn e => k2 b o nb nn (g b o e)) (fun a xa => ?_)
    rcases x2 a xa with q | q
    · exact .inl q
    · refine .inr ?_
      cases e : s.heap.get? a with
      | none => rfl
      | some o => have := g a o e; rw [show h1.get? a = none from q] at this; cases this
/-- a post-condition behind a first part of statements -/
theorem Post.after {hE : Heap} {P0 X X1 : AP} {env : Env} {s : Shared} {Q : Flow → Shared → Prop} {out : Out} {h1 : Heap} {tk1 : Nat} (t : s.toks ≤ tk1) (nl : ∀ b, W.N b → ∃ o, h1.get? b = some o) (k1 : ∀ b o, ¬ X b → ¬ W.N b → s.heap.get? b = some o → h1.get? b = some o) (x1 : ∀ a, X1 a → X a ∨ s.heap.get? a = none)
    (q : Post W hE P0 X env sl s Q out) : Post W hE P0 X1 env sl { s with heap := h1, toks := tk1 } Q out := by
  cases out with
  | ret m => exact fun v h' tk r g' t' => q v h' tk r g' (Nat.le_trans t t')
  | next ℓ2 =>
    intro P2 X2 μ2 h2 tk2 S2 t2 k2 x2
    refine q P2 X2 μ2 h2 tk2 S2 (Nat.le_trans t t2) (fun b o nb nn e => k2 b o (fun xb => ?_) nn (k1 b o nb nn e)) (fun a xa => ?_)
    · rcases x1 b xb with q | q
      · exact nb q
      · rw [e] at q; cases q
    · rcases x2 a xa with q | q
      · exact x1 a q
      · by_cases xa0 : X a
        · exact .inl xa0
        · refine .inr ?_
          cases e : s.heap.get? a with
          | none => rfl
          | some o =>
            by_cases na : W.N a
            · obtain ⟨o2, e2⟩ := nl a na; rw [show h1.get? a = none from q] at e2; cases e2
            · have := k1 a o xa0 na e; rw [show h1.get? a = none from q] at this; cases this
theorem den_if {t : Expr} {body orelse : List Stmt} {pos : Pos} {ft} {g1 g2 : SF} (Dt : DenT W n C sl t ft) (D1 : DenS W n C sl body g1) (D2 : DenS W n C sl orelse g2) :
    DenX W n C sl (.If t body orelse pos) (ifM ft g1 g2) := by
  intro A env hE P0 P X μ ℓ s out E Q Y S ht e q
  unfold ifM at e
  cases hc : ft ℓ with
  | none => simp [hc] at e
  | some c =>
    refine wpAny_If (Dt (S.cx Y ht) S.toL hc fun h1 tk1 g t => ?_)
    cases c with
    | true =>
      simp only [hc] at e
      rw [if_pos rfl]
      exact D1 (s := { s with heap := h1, toks := tk1 }) Y (S.step g t) (Nat.lt_of_lt_of_le ht t) e (q.behind g t)
    | false =>
      simp only [hc] at e
      rw [if_neg (by decide)]
      exact D2 (s := { s with heap := h1, toks := tk1 }) Y (S.step g t) (Nat.lt_of_lt_of_le ht t) e (q.behind g t)
noncomputable def retF (f : MF) : SF := fun ℓ => match f ℓ with | some m => some (.ret m) | none => none
theorem den_return {e : Expr} {pos : Pos} {f : MF} (D : DenE W n C sl e f) : DenX W n C sl (.Return (some e) pos) (retF f) := by
  intro A env hE P0 P X μ ℓ s out E Q Y S ht hg q
  unfold retF at hg
  split at hg
  · rename_i m hm
    cases hg
    refine wpAny_Return_some (D (S.cx Y ht) S.toL hm fun v h1 tk1 g t r => ?_)
    exact q v h1 tk1 (r.sub fun b p => (S.pf (Grow.refl _) (Nat.le_refl _)).PE b p) (S.grow.trans (.of g)) t
  · cases hg
noncomputable def frz (ℓ : List LV) (i : Nat) : List LV := match ℓ[i]? with
  | some (.own l) => ℓ.set i (.val (.list l))
  | _ => ℓ
theorem den_freeze {ss : List Stmt} {g : SF} (i : Nat) (D : DenS W n C sl ss g) : DenS W n C sl ss (fun ℓ => g (frz ℓ i)) := by
  intro A env hE P0 P X μ ℓ s out E Q Y S ht hg q
  dsimp only at hg
  unfold frz at hg
  split at hg
  · rename_i l hl
    have hi : ∃ x, sl[i]? = some x := by
      have h1 : i < ℓ.length := (List.getElem?_eq_some_iff.mp hl).1
      have h3 := S.len
      exact ⟨_, List.getElem?_eq_getElem (by omega)⟩
    obtain ⟨x, hi⟩ := hi
    refine D Y (S.freeze hi hl) ht hg ?_
    cases out with
    | ret m => exact q
    | next ℓ2 =>
      intro P2 X2 μ2 h2 tk2 S2 t2 k2 x2
      refine q P2 X2 μ2 h2 tk2 S2 t2 (fun b o nb nn e => k2 b o (fun xb => nb xb.1) nn e) (fun a xa => ?_)
      rcases x2 a xa with q | q
      · exact .inl q.1
      · exact .inr q
  · exact D Y S ht hg q

/-- name.append(e), the list the frame's own -/
noncomputable def appF (i : Nat) (f : MF) : SF := fun ℓ => match ℓ[i]?, f ℓ with
  | some (.own l), some m => if szOK l then some (.next (ℓ.set i (.own (l ++ [m])))) else none
  | _, _ => none
theorem den_append {x : Str} {np ap cp pos : Pos} {e : Expr} {f : MF} (i : Nat) (hi : sl[i]? = some x) (hd : (x == ("__debug__" : Str)) = false) (hc : (x == ("__classdict__" : Str)) = false) (hst : ∀ env, starEach [e] env = [(false, eval e env)])
    (hline : (ap.endLine == cp.line) = true) (D : DenE W n C sl e f) :
    DenX W n C sl (.Expr (.Call (.Attribute (.Name x np) "append" ap) [e] [] cp) pos) (appF i f) := by
  intro A env hE P0 P X μ ℓ s out E Q Y S ht hg q
  unfold appF at hg
  split at hg
  · rename_i l m hl hm
    split at hg
    · rename_i hz
      cases hg
      have hz' : l.length ≤ 65536 := by simpa [szOK] using hz
      have hint : interactive env = false := by unfold interactive; rw [Y.scope, Y.kind]; rfl
      obtain ⟨hH, xx, vs, hp, r⟩ := S.own_at hi hl
      have X0 := S.cx Y ht
      have htr : backTo cp (starEach [e] env) = [(false, eval e env)] := by rw [hst]; rfl
      refine wpAny_Expr_any (wpAny_Call_append rfl (by rw [htr]; rfl) hline htr ?_) hint (by rfl)
      refine wpAny_Name (hH.load X0.kindE hc ⟨μ i, vs, rfl, ?_, ?_⟩) hd
      · obtain ⟨k, e'⟩ := hp; exact ⟨_, k, e', rfl, rfl, rfl⟩
      refine D X0 S.toL hm fun v h1 tk1 g t rv => ?_
      have hp1 : h1.PlainList (μ i) vs := by obtain ⟨k, e'⟩ := hp; exact ⟨k, g _ _ e'⟩
      have hsz : vs.size = l.length := by rw [← r.length, Array.length_toList]
      refine wpAny_list_append_plain (s := { s with heap := h1, toks := tk1 }) hp1 (fun h2 hp2 hs2 => ?_) (by rw [hsz, sizeLine_eq]; omega)
      have k2 : ∀ b o, b ≠ μ i → h1.get? b = some o → h2.get? b = some o := fun b o hb e => hs2.extBut b o hb e
      have S1 := S.pf g t
      refine q _ X μ h2 tk1 (S1.mut hl ⟨vs, hp1⟩ k2 (Nat.le_refl _) xx hp2 ?_) t (fun b o nb _ e => k2 b o (fun q => nb (q ▸ xx)) (g b o e)) (fun a x => .inl x)
      rw [Array.toList_push]
      have kP : KeepOn (PF P s.heap) h1 h2 := fun b o p e => k2 b o (fun q => S1.PX b p (q ▸ xx)) e
      exact VRs.snoc (VRs.mono (fun b p => PF.sub p) (fun b o p e => kP b o (.inl p) (g b o e)) t r) (VR.mono (fun _ p => p) kP (Nat.le_refl _) rv)
    · cases hg
  · cases hg

/-- name[i] = e, the list the frame's own -/
theorem setItem_plain {prog : Program} {w : World} {A : Around} {E : Value → Shared → Prop} {s : Shared} {l : Addr} {items : Array Value} {k : Int} {t : Tok} {v : Value} {Q : Unit → Shared → Prop} (hl : s.heap.PlainList l items)
    (h0 : 0 ≤ k) (hfit : k < 2 ^ 63) (hn : k < items.size) (hQ : ∀ h', h'.PlainList l (items.setIfInBounds k.toNat v) → Heap.SameBut l s.heap h' → Q () { s with heap := h' }) :
    wpAny (model prog w) A (setItem (.ref l) (.int k t) v) Q E s := by
  have hL := hl.isList
  obtain ⟨n, ho⟩ := hl
  unfold setItem
  try with_reducible refine wpAny_holding ?_
  first | refine wpAny_bind (wpAny_pure ?_) | skip
  refine wpAny_bind (wpAny_sequenceKey hL.typeIs (by decide) ?_)
  refine wpAny_bind (wpAny_callSpecial?_slot (name := Str.ofString "__setitem__") hL.typeIs slot_list_setitem
    (wpAny_call_entry slot_list_setitem hL.typeIs entry_list_setitem ?_ (args_list_setitem _ _ _)))
  show wpAny _ _ (Builtin.List.listSubscript? (.int k t) >>= _) _ _ s
  refine wpAny_bind (wpAny_listSubscript_int (fitsIndex_of h0 hfit) ?_)
  clear hfit
  obtain ⟨j, rfl⟩ := Int.eq_ofNat_of_zero_le h0
  have hj : j < items.size := by omega
  have hx' : items[j]? = some items[j] := Array.getElem?_eq_getElem hj
  show wpAny _ _ ((seqItemAt l j >>= fun r => pure (r.map (j, ·))) >>= _) _ _ s
  refine wpAny_bind (wpAny_bind (wpAny_seqItemAt ho rfl (wpAny_pure ?_)))
  rw [hx']
  show wpAny _ _ (setSeqItemAt l j v >>= _) _ _ s
  have hm : ∃ n', Obj.mapSeq (·.setIfInBounds j v) { cls := .type "list", data := .seq items n } = { cls := .type "list", data := .seq (items.setIfInBounds j v) n' } := ⟨_, rfl⟩
  obtain ⟨n', hm⟩ := hm
  have hfin : (s.heap.update l (Obj.mapSeq (·.setIfInBounds j v))).PlainList l (items.setIfInBounds j v) := ⟨n', by rw [Heap.get?_update_self _ ho (by rw [hm]; rfl), hm]⟩
  refine wpAny_bind (wpAny_setSeqItemAt ho rfl ?_)
  first
    | exact wpAny_bind (wpAny_pure (wpAny_pure ⟨.none, rfl, wpAny_pure (hQ _ hfin (Heap.SameBut.update ..))⟩))
    | exact wpAny_pure ⟨.none, rfl, wpAny_pure (hQ _ hfin (Heap.SameBut.update ..))⟩
theorem VRs.set {P : AP} {h : Heap} {T : Nat} {m : MV} {v : Value} (y : VR P h T m v) : ∀ {ms : List MV} {vs : List Value} (i : Nat), VRs P h T ms vs → VRs P h T (ms.set i m) (vs.set i v)
  | [], _, _, x => by cases x; rfl
  | _ :: _, _, 0, ⟨v0, r, e, a, b⟩ => by subst e; exact ⟨v, r, rfl, y, b⟩
  | _ :: _, _, i + 1, ⟨v0, r, e, a, b⟩ => by subst e; exact ⟨v0, r.set i v, rfl, a, VRs.set y i b⟩
noncomputable def setItF (i : Nat) (fi : LF) (f : MF) : SF := fun ℓ => match f ℓ, ℓ[i]?, fi ℓ with
  | some m, some (.own l), some iv => (match iv.num with
    | some k => if szOK l ∧ 0 ≤ k ∧ k < l.length then some (.next (ℓ.set i (.own (l.set k.toNat m)))) else none
    | none => none)
  | _, _, _ => none
theorem den_setitem {x : Str} {np sp pos : Pos} {e ie : Expr} {f : MF} {fi : LF} (i : Nat) (hi : sl[i]? = some x) (hd : (x == ("__debug__" : Str)) = false) (hc : (x == ("__classdict__" : Str)) = false)
    (hsw : ∀ env, env.scope = C → swapsWith e (some (.Subscript (.Name x np) ie sp)) pos.line env = pure false) (D : DenE W n C sl e f) (Di : DenA W n C sl ie fi) :
    DenX W n C sl (.Assign [.Subscript (.Name x np) ie sp] e pos) (setItF i fi f) := by
  intro A env hE P0 P X μ ℓ s out E Q Y S ht hg q
  unfold setItF at hg
  split at hg
  · rename_i m l iv hm hl hiv
    split at hg
    · rename_i k hk
      split at hg
      · rename_i hz
        obtain ⟨hz, h0, hlt⟩ := hz
        cases hg
        have hz' : l.length ≤ 65536 := by simpa [szOK] using hz
        have X0 := S.cx Y ht
        refine wpAny_Assign_Subscript (D X0 S.toL hm fun v h1 tk1 g t rv => ?_) (hsw env Y.scope)
        have S1 := S.pf g t
        obtain ⟨hH, xx, vs, hp, r⟩ := S1.own_at hi hl
        refine wpAny_Name (Has.load (s := { s with heap := h1, toks := tk1 }) X0.kindE hH hc ?_) hd
        refine Di (s := { s with heap := h1, toks := tk1 }) (X0.grow g t) S1.toL hiv fun w h2 tk2 g2 t2 rw2 => ?_
        have t2' : tk1 ≤ tk2 := t2
        have g2' : Grow h1 h2 := g2
        obtain ⟨u, rfl⟩ := rw2.num hk
        have hp2 : h2.PlainList (μ i) vs := by obtain ⟨k, e'⟩ := hp; exact ⟨k, g2' _ _ e'⟩
        have hsz : vs.size = l.length := by rw [← r.length, Array.length_toList]
        refine setItem_plain (s := { s with heap := h2, toks := tk2 }) hp2 h0 (by omega) (by rw [hsz]; exact hlt) fun h3 hp3 hs3 => ?_
        have k3 : ∀ b o, b ≠ μ i → h2.get? b = some o → h3.get? b = some o := fun b o hb e => hs3.extBut b o hb e
        have S2 := S1.step g2' t2'
        refine q _ X μ h3 tk2 (S2.mut hl ⟨vs, hp2⟩ k3 (Nat.le_refl _) xx hp3 ?_) (Nat.le_trans t t2') (fun b o nb _ e => k3 b o (fun q => nb (q ▸ xx)) (g2' b o (g b o e))) (fun a x => .inl x)
        have kP : KeepOn (PF P s.heap) h1 h3 := fun b o p e => k3 b o (fun q => S1.PX b p (q ▸ xx)) (g2' b o e)
        have := VRs.set (VR.mono (fun _ p => p) kP t2' rv) k.toNat (VRs.mono (fun _ p => p) kP t2' r)
        simpa using this
      · cases hg
    · cases hg
  · cases hg
end
end Mine
end
section
open PySem PySem.W PyProof.Rows PySem.Calls
set_option Elab.async false
set_option linter.unusedVariables false
set_option linter.unusedSimpArgs false
namespace Mine
theorem SRel.node {W : Wd} {hE P0 P X μ env sl ℓ h T} (S : SRel W hE P0 P X μ env sl ℓ h T) : SRel W hE P0 (fun b => P b ∧ ∃ o, h.get? b = some o ∧ nodeObj o = true) X μ env sl ℓ h T :=
  { S with
    slot := fun i x lv e q => by
      rcases S.slot i x lv e q with u | ⟨v, a, b, c⟩
      · exact .inl u
      · exact .inr ⟨v, a, b.node, c⟩
    PX := fun a p => S.PX a p.1
    PE := fun a p => S.PE a p.1
    PN := fun a p => S.PN a p.1 }
section
variable {W : Wd} {n : Nat} {C : Scope} {sl : List Str}

noncomputable def forL (i : Nat) (g : SF) : List MV → SF
  | [], ℓ => some (.next ℓ)
  | m :: ms, ℓ => match g (ℓ.set i (.val m)) with
    | some (.next ℓ') => forL i g ms ℓ'
    | some (.ret r) => some (.ret r)
    | none => none
noncomputable def forF (i : Nat) (fi : List LV → Option (List MV)) (g : SF) : SF := fun ℓ => match fi ℓ with
  | some items => forL i g items ℓ
  | none => none

/-- a loop whose row of items is told for this very state -/
theorem for_at {x : Str} {px pos : Pos} {iter : Expr} {body : List Stmt} {g : SF} (i : Nat) (hi : sl[i]? = some x) (hx : isVar C x = true) (hs : ∀ env x, foldedSetIterable iter env x = pure x)
    (Db : DenS W n C sl body g) {A : Around} {env : Env} {hE : Heap} {P0 P X : AP} {μ : Nat → Addr} {ℓ : List LV} {s : Shared} {out : Out} {E : Value → Shared → Prop} {Q : Flow → Shared → Prop} {items : List MV}
    (Y : Sx W n C A env hE) (S : SRel W hE P0 P X μ env sl ℓ s.heap s.toks) (ht : 0 < s.toks) (hg : forL i g items ℓ = some out) (q : Post W hE P0 X env sl s Q out)
    (Di : ∀ {E : Value → Shared → Prop} {K : Value → Shared → Prop}, (∀ I fp wr Pt St h₂ tk, Grow s.heap h₂ → s.toks ≤ tk → MW W.prog W.w A I fp wr items.length Pt St → St 0 h₂ → (∀ b ∈ fp, ∃ o, h₂.get? b = some o) → (∀ b ∈ wr, s.heap.get? b = none) → (true = true → ∀ b ∈ fp, PF P s.heap b) →
      (∀ i T v, tk ≤ T → Pt i T v → ∃ m, items[i]? = some m ∧ VR (fun b => PF P s.heap b ∧ b ∉ wr) h₂ T m v) → items.length ≤ sizeLine → K (.ref I) { s with heap := h₂, toks := tk }) →
      wpAny (model W.prog W.w) A (eval iter env) (fun x s₁ => wpAny (model W.prog W.w) A (pyIter x) K E s₁) E s) : wpAny (model W.prog W.w) A (exec (.For (.Name x px) iter body [] pos) env) Q E s := by
  refine wpAny_For ?_ (hs env)
  refine Di fun I fp wr Pt St h₂ tk₂ g₂ t₂ Wk hst hfp hwr hfrz hit hsz => ?_
  have hfrz' := hfrz rfl
  have Spf := S.pf g₂ t₂
  have nX : ∀ {b}, PF P s.heap b → ¬ X b := fun {b} p => Spf.PX b p
  have nN : ∀ {b}, PF P s.heap b → ¬ W.N b := fun {b} p => Spf.PN b p
  have liveN : ∀ {h₉ : Heap} {b}, GrowN W.N hE h₉ → W.N b → ∃ o, h₉.get? b = some o := fun {h₉ b} gg n => by
    obtain ⟨o, e⟩ := S.NE b n; obtain ⟨s1, e1⟩ := (gg b o e).2; exact ⟨_, e1⟩
  have wrX : ∀ b ∈ wr, ¬ X b := fun b hb => nX (hfrz' b (Wk.sub b hb))
  refine codeAny_forLoop (fun k s' => ∃ h' tk P' X' μ' ℓ' j, s' = { s with heap := h', toks := tk } ∧ St j h' ∧ SRel W hE P0 P' X' μ' env sl ℓ' h' tk ∧ k = items.length - j ∧ j ≤ items.length ∧ forL i g (items.drop j) ℓ' = some out ∧
      (∀ a, X' a → X a ∨ h₂.get? a = none) ∧ (∀ b o, ¬ X b → ¬ W.N b → b ∉ wr → h₂.get? b = some o → h'.get? b = some o) ∧ tk₂ ≤ tk) ?_ items.length
    ⟨h₂, tk₂, P, X, μ, ℓ, 0, rfl, hst, S.step g₂ t₂, by omega, Nat.zero_le _, hg, fun a x => .inl x, fun b o _ _ _ e => e, Nat.le_refl _⟩
  rintro k s' ⟨h₃, tk₃, P₃, X₃, μ₃, ℓ₃, j, rfl, hst₃, S₃, rfl, hj, hrest, hX₃, hk₃, ht₃⟩
  have wrX₃ : ∀ b ∈ wr, ¬ X₃ b := fun b hb xb => by
    rcases hX₃ b xb with q | q
    · exact wrX b hb q
    · obtain ⟨o, e, _⟩ := Wk.live _ _ hst b hb; rw [e] at q; cases q
  have S₃n := S₃.node
  -- after the next item the frame's state stands
  have keepS : ∀ {h₄ : Heap} {tk₄ : Nat}, (∀ b o, b ∉ wr → h₃.get? b = some o → h₄.get? b = some o) → tk₃ ≤ tk₄ → SRel W hE P0 (fun b => P₃ b ∧ ∃ o, h₃.get? b = some o ∧ nodeObj o = true) X₃ μ₃ env sl ℓ₃ h₄ tk₄ := by
    intro h₄ tk₄ k t
    refine S₃n.keepOn (fun b o hb e => k b o (fun hw => ?_) e) (fun b o n e => ⟨o.slots, k b o (fun hw => nN (hfrz' b (Wk.sub b hw)) n) e⟩) t
    rcases hb with xb | ⟨_, o', e', no⟩ | ⟨_, o', e'⟩
    · exact wrX₃ b hw xb
    · obtain ⟨o2, e2, n2⟩ := Wk.live _ _ hst₃ b hw
      rw [e'] at e2; cases e2; rw [no] at n2; cases n2
    · have := hwr b hw
      rw [S.grow.none this] at e'; cases e'
  by_cases hlt : j < items.length
  · refine Wk.item j { s with heap := h₃, toks := tk₃ } _ _ hlt hst₃ (by show 0 < tk₃; have : s.toks ≤ tk₂ := t₂; omega) fun v h₄ tk₄ ht₄ hPv hst₄ hk₄ => ?_
    have ht₄' : tk₃ ≤ tk₄ := ht₄
    obtain ⟨m, hm, rm⟩ := hit j tk₄ v (by omega) hPv
    have S₄ := keepS (h₄ := h₄) (tk₄ := tk₄) hk₄ ht₄'
    -- the items are frozen
    have S₅ := S₄.more (P' := fun b => (P₃ b ∧ ∃ o, h₃.get? b = some o ∧ nodeObj o = true) ∨ (PF P s.heap b ∧ b ∉ wr ∧ ∃ o, h₂.get? b = some o)) (fun b p => .inl p) (fun b p xb => by
        rcases p with p | ⟨p, nw, o, e⟩
        · exact S₄.PX b p xb
        · rcases hX₃ b xb with q | q
          · exact nX p q
          · rw [e] at q; cases q) (fun b p => by
        rcases p with p | ⟨p, _⟩
        · exact S₄.PE b p
        · exact Spf.PE b p) (fun b p => by
        rcases p with p | ⟨p, _⟩
        · exact S₄.PN b p
        · exact Spf.PN b p)
    have rm₄ : VR (fun b => (P₃ b ∧ ∃ o, h₃.get? b = some o ∧ nodeObj o = true) ∨ (PF P s.heap b ∧ b ∉ wr ∧ ∃ o, h₂.get? b = some o)) h₄ tk₄ m v := by
      refine rm.live.mono (fun b p => .inr ⟨p.1.1, p.1.2, p.2⟩) (fun b o p e => ?_) (Nat.le_refl _)
      exact hk₄ b o p.1.2 (hk₃ b o (nX p.1.1) (nN p.1.1) p.1.2 e)
    refine wpAny_assign_Name (SRel.store (s := { s with heap := h₄, toks := tk₄ }) (lv := .val m) (μ' := μ₃) S₅ (by rw [Y.scope]; exact Y.kind) (isVar_kind hx Y.scope) hi rm₄ trivial (fun _ _ => rfl) (fun l e => by cases e) fun h₅ tk₅ S₆ ht₅ hk₅ => ?_)
    have ht₅' : tk₄ ≤ tk₅ := ht₅
    have fpX : ∀ b ∈ fp, ¬ X₃ b := fun b hb xb => by
      rcases hX₃ b xb with q | q
      · exact nX (hfrz' b hb) q
      · obtain ⟨o, e⟩ := hfp b hb; rw [e] at q; cases q
    have hst₅ : St (j + 1) h₅ := Wk.frame _ _ _ hst₄ fun b hb o e => hk₅ b o (fpX b hb) e
    have hk₅' : ∀ b o, ¬ X b → ¬ W.N b → b ∉ wr → h₂.get? b = some o → h₅.get? b = some o := fun b o nb nn nw e => hk₅ b o (fun xb => by
      rcases hX₃ b xb with q | q
      · exact nb q
      · rw [e] at q; cases q) (hk₄ b o nw (hk₃ b o nb nn nw e))
    rw [drop_at hm] at hrest
    unfold forL at hrest
    cases hgo : g (ℓ₃.set i (.val m)) with
    | none => rw [hgo] at hrest; cases hrest
    | some o1 =>
      rw [hgo] at hrest
      refine Db (s := { s with heap := h₅, toks := tk₅ }) Y S₆ (by show 0 < tk₅; have : s.toks ≤ tk₂ := t₂; omega) hgo ?_
      cases o1 with
      | ret r =>
        cases hrest
        intro v' h₆ tk₆ r6 g6 t6
        exact q v' h₆ tk₆ r6 g6 (by have : s.toks ≤ tk₂ := t₂; have : tk₅ ≤ tk₆ := t6; omega)
      | next ℓ4 =>
        intro P₆ X₆ μ₆ h₆ tk₆ S₇ t6 k6 x6
        have t6' : tk₅ ≤ tk₆ := t6
        have k6' : ∀ b o, ¬ X₃ b → ¬ W.N b → h₅.get? b = some o → h₆.get? b = some o := k6
        refine ⟨items.length - (j + 1), by omega, h₆, tk₆, P₆, X₆, μ₆, ℓ4, j + 1, rfl, Wk.frame _ _ _ hst₅ (fun b hb o e => k6' b o (fpX b hb) (nN (hfrz' b hb)) e), S₇, rfl, hlt, hrest, fun a xa => ?_, fun b o nb nn nw e => k6' b o (fun xb => ?_) nn (hk₅' b o nb nn nw e), by omega⟩
        · rcases x6 a xa with q | q
          · exact hX₃ a q
          · by_cases xa0 : X a
            · exact .inl xa0
            · by_cases hw : a ∈ wr
              · obtain ⟨o, e, _⟩ := Wk.live _ _ hst₅ a hw
                have q' : h₅.get? a = none := q
                rw [e] at q'; cases q'
              · refine .inr ?_
                cases e : h₂.get? a with
                | none => rfl
                | some o =>
                  by_cases na : W.N a
                  · obtain ⟨o2, e2⟩ := liveN S₆.grow na; rw [show h₅.get? a = none from q] at e2; cases e2
                  · have := hk₅' a o xa0 na hw e; rw [show h₅.get? a = none from q] at this; cases this
        · rcases hX₃ b xb with q | q
          · exact nb q
          · rw [e] at q; cases q
  · have hjn : j = items.length := by omega
    subst hjn
    rw [List.drop_length] at hrest
    unfold forL at hrest
    cases hrest
    refine Wk.done { s with heap := h₃, toks := tk₃ } _ _ hst₃ fun h₄ tk₄ ht₄ hk₄ => ?_
    have ht₄' : tk₃ ≤ tk₄ := ht₄
    refine wpAny_execs_nil ?_
    refine q _ X₃ μ₃ h₄ tk₄ (keepS hk₄ ht₄') (by have : s.toks ≤ tk₂ := t₂; omega) (fun b o nb nn e => ?_) (fun a xa => ?_)
    · have nw : b ∉ wr := fun hw => by rw [hwr b hw] at e; cases e
      exact hk₄ b o nw (hk₃ b o nb nn nw (g₂ b o e))
    · rcases hX₃ a xa with q | q
      · exact .inl q
      · refine .inr ?_
        cases e : s.heap.get? a with
        | none => rfl
        | some o => rw [g₂ a o e] at q; cases q

theorem den_for {x : Str} {px pos : Pos} {iter : Expr} {body : List Stmt} {fi} {g : SF} (i : Nat) (hi : sl[i]? = some x) (hx : isVar C x = true) (hs : ∀ env x, foldedSetIterable iter env x = pure x)
    (Di : DenI true W n C sl iter fi) (Db : DenS W n C sl body g) : DenX W n C sl (.For (.Name x px) iter body [] pos) (forF i fi g) := by
  intro A env hE P0 P X μ ℓ s out E Q Y S ht hg q
  unfold forF at hg
  cases hfi : fi ℓ with
  | none => rw [hfi] at hg; cases hg
  | some items =>
  rw [hfi] at hg
  dsimp only at hg
  exact for_at i hi hx hs Db Y S ht hg q (fun k => Di (S.cx Y ht) S.toL hfi k)

/-- a while, its turns counted -/
noncomputable def whileF (ft : List LV → Option Bool) (g : SF) : Nat → SF
  | 0, _ => none
  | k + 1, ℓ => match ft ℓ with
    | some true => (match g ℓ with
      | some (.next ℓ') => whileF ft g k ℓ'
      | some (.ret r) => some (.ret r)
      | none => none)
    | some false => some (.next ℓ)
    | none => none
theorem den_while {t : Expr} {pos : Pos} {body : List Stmt} {ft} {g : SF} (fuel : Nat) (Dt : DenT W n C sl t ft) (Db : DenS W n C sl body g) : DenX W n C sl (.While t body [] pos) (whileF ft g fuel) := by
  intro A env hE P0 P X μ ℓ s out E Q Y S ht hg q
  refine wpAny_While ?_
  refine codeAny_whileLoop (fun k s' => ∃ h' tk P' X' μ' ℓ', s' = { s with heap := h', toks := tk } ∧ SRel W hE P0 P' X' μ' env sl ℓ' h' tk ∧ whileF ft g k ℓ' = some out ∧
      (∀ a, X' a → X a ∨ s.heap.get? a = none) ∧ (∀ b o, ¬ X b → ¬ W.N b → s.heap.get? b = some o → h'.get? b = some o) ∧ s.toks ≤ tk) ?_ fuel
    ⟨s.heap, s.toks, P, X, μ, ℓ, rfl, S, hg, fun a x => .inl x, fun b o _ _ e => e, Nat.le_refl _⟩
  rintro k s' ⟨h₃, tk₃, P₃, X₃, μ₃, ℓ₃, rfl, S₃, hrest, hX₃, hk₃, ht₃⟩
  cases k with
  | zero => unfold whileF at hrest; cases hrest
  | succ k =>
    unfold whileF at hrest
    cases hc : ft ℓ₃ with
    | none => rw [hc] at hrest; cases hrest
    | some c =>
      rw [hc] at hrest
      have ht0 : 0 < tk₃ := Nat.lt_of_lt_of_le ht ht₃
      refine Dt (s := { s with heap := h₃, toks := tk₃ }) (S₃.cx Y ht0) S₃.toL hc fun h₄ tk₄ g₄ t₄ => ?_
      have t₄' : tk₃ ≤ tk₄ := t₄
      have g₄' : Grow h₃ h₄ := g₄
      have S₄ := S₃.step g₄' t₄'
      cases c with
      | false =>
        cases hrest
        rw [if_neg (by decide)]
        refine wpAny_execs_nil ?_
        exact q P₃ X₃ μ₃ h₄ tk₄ S₄ (Nat.le_trans ht₃ t₄') (fun b o nb nn e => g₄' b o (hk₃ b o nb nn e)) hX₃
      | true =>
        rw [if_pos rfl]
        dsimp only at hrest
        cases hgo : g ℓ₃ with
        | none => rw [hgo] at hrest; cases hrest
        | some o1 =>
          rw [hgo] at hrest
          refine Db (s := { s with heap := h₄, toks := tk₄ }) Y S₄ (Nat.lt_of_lt_of_le ht0 t₄') hgo ?_
          cases o1 with
          | ret r =>
            cases hrest
            intro v' h₆ tk₆ r6 g6 t6
            exact q v' h₆ tk₆ r6 g6 (Nat.le_trans ht₃ (Nat.le_trans t₄' t6))
          | next ℓ4 =>
            intro P₆ X₆ μ₆ h₆ tk₆ S₇ t6 k6 x6
            have k6' : ∀ b o, ¬ X₃ b → ¬ W.N b → h₄.get? b = some o → h₆.get? b = some o := k6
            refine ⟨k, Nat.lt_succ_self _, h₆, tk₆, P₆, X₆, μ₆, ℓ4, rfl, S₇, hrest, fun a xa => ?_, fun b o nb nn e => k6' b o (fun xb => ?_) nn (g₄' b o (hk₃ b o nb nn e)), Nat.le_trans ht₃ (Nat.le_trans t₄' t6)⟩
            · rcases x6 a xa with q | q
              · exact hX₃ a q
              · by_cases xa0 : X a
                · exact .inl xa0
                · refine .inr ?_
                  cases e : s.heap.get? a with
                  | none => rfl
                  | some o =>
                    by_cases na : W.N a
                    · obtain ⟨o1, e1⟩ := S.NE a na
                      rw [S₄.grow.none q] at e1; cases e1
                    · have := g₄' a o (hk₃ a o xa0 na e); rw [show h₄.get? a = none from q] at this; cases this
            · rcases hX₃ b xb with q | q
              · exact nb q
              · rw [e] at q; cases q
end
end Mine
end
section
open PySem PySem.W PyProof.Rows PySem.Calls
set_option Elab.async false
set_option linter.unusedVariables false
set_option linter.unusedSimpArgs false
namespace Mine
/-- no frame further out -/
noncomputable def Wd.w0 (W : Wd) : Wd := { W with N := fun _ => False, full := false }
theorem Wd.Ok.w0 {W : Wd} (O : W.Ok) : W.w0.Ok := ⟨O.g, O.b, O.nolimit⟩
/-- a def of the text, as it stands at the top -/
noncomputable def FnObj (W : Wd) (d : DefRec) (a : Addr) : Prop := ∃ o pm code doc, W.hB.get? a = some o ∧ o.data = .func (docDef d.name d.params d.body d.scope pm code doc) ∧ W.hB.CodeRec code d.name
/-- the same under a longer name (a method) -/
noncomputable abbrev qDef (q : Str) (d : DefRec) (pm code doc : Value) : FuncData := { docDef d.name d.params d.body d.scope pm code doc with qualname := q }
noncomputable def FnQ (W : Wd) (q : Str) (d : DefRec) (a : Addr) : Prop := ∃ o pm code doc, W.hB.get? a = some o ∧ o.data = .func (qDef q d pm code doc) ∧ W.hB.CodeRec code q
theorem FnQ.form {W q d a} (F : FnQ W q d a) : CallForm W (.ref a) := let ⟨o, pm, code, doc, h1, h2, _⟩ := F; .inr (.inr ⟨a, o, _, rfl, h1, h2⟩)
theorem FnObj.form {W d a} (F : FnObj W d a) : CallForm W (.ref a) := let ⟨o, pm, code, doc, h1, h2, _⟩ := F; .inr (.inr ⟨a, o, _, rfl, h1, h2⟩)

theorem bindL_get {kindOf : Str → Option NameKind} {x : Str} {v : Value} : ∀ (binds : List (Str × Value)) (m : Str → Option Value), (binds.map (·.1)).Nodup → (x, v) ∈ binds → kindOf x = some .local → bindL kindOf binds m x = some v
  | [], _, _, h, _ => nomatch h
  | (y, u) :: r, m, hn, h, hk => by
    rw [List.map_cons, List.nodup_cons] at hn
    unfold bindL
    rcases List.mem_cons.mp h with e | h
    · cases e
      have keep : ∀ (l : List (Str × Value)) (m : Str → Option Value), x ∉ l.map (·.1) → bindL kindOf l m x = m x := by
        intro l
        induction l with
        | nil => intro m _; rfl
        | cons p l ih =>
          obtain ⟨z, w⟩ := p
          intro m hx
          rw [List.map_cons, List.mem_cons, not_or] at hx
          unfold bindL
          rw [ih _ hx.2]
          split
          · show (if x = z then _ else _) = _
            rw [if_neg hx.1]
          · rfl
      rw [keep r _ hn.1, if_pos hk]
      simp
    · exact bindL_get r _ hn.2 h hk
theorem bindC_get {kindOf : Str → Option NameKind} {x : Str} {v : Value} : ∀ (binds : List (Str × Value)) (m : Str → Option Value), (binds.map (·.1)).Nodup → (x, v) ∈ binds → kindOf x ≠ some .local → bindC kindOf binds m x = some v
  | [], _, _, h, _ => nomatch h
  | (y, u) :: r, m, hn, h, hk => by
    rw [List.map_cons, List.nodup_cons] at hn
    unfold bindC
    rcases List.mem_cons.mp h with e | h
    · cases e
      have keep : ∀ (l : List (Str × Value)) (m : Str → Option Value), x ∉ l.map (·.1) → bindC kindOf l m x = m x := by
        intro l
        induction l with
        | nil => intro m _; rfl
        | cons p l ih =>
          obtain ⟨z, w⟩ := p
          intro m hx
          rw [List.map_cons, List.mem_cons, not_or] at hx
          unfold bindC
          rw [ih _ hx.2]
          split
          · rfl
          · show (if x = z then _ else _) = _
            rw [if_neg hx.1]
      rw [keep r _ hn.1, if_neg hk]
      simp
    · exact bindC_get r _ hn.2 h hk

noncomputable def LV.arg : LV → LV
  | .own l => .pla l
  | lv => lv
theorem LR.arg {P : AP} {h : Heap} {T : Nat} {lv : LV} {v : Value} (r : LR P h T lv v) : LR P h T lv.arg v := by
  cases lv with
  | own l => exact r
  | undef => exact r
  | val m => exact r
  | ali l => exact r
  | pla l => exact r
/-- the frame at the start: the parameters, then what is not yet bound -/
noncomputable def initL (lvs : List LV) (k : Nat) : List LV := lvs.map LV.arg ++ List.replicate k .undef
noncomputable def fnOK (d : DefRec) (ps : List Str) (sl : List Str) : Bool :=
  d.scope.kind == .function && !d.scope.isCoroutine && !d.scope.isGenerator && ps.isPrefixOf sl && decide (sl.Nodup) && ps.all (fun x => isVar d.scope x) && d.scope.names.all (fun p => p.2 != .free)
theorem fnOK_iff {d ps sl} (h : fnOK d ps sl = true) : d.scope.kind = .function ∧ d.scope.isCoroutine = false ∧ d.scope.isGenerator = false ∧ (∃ r, sl = ps ++ r) ∧ sl.Nodup ∧ (∀ x ∈ ps, isVar d.scope x = true) ∧ ∀ x, (x, NameKind.free) ∉ d.scope.names := by
  unfold fnOK at h
  simp only [Bool.and_eq_true, beq_iff_eq, Bool.not_eq_true', decide_eq_true_eq, List.all_eq_true, bne_iff_ne, List.isPrefixOf_iff_prefix] at h
  obtain ⟨⟨⟨⟨⟨⟨h1, h2⟩, h3⟩, h4⟩, h5⟩, h6⟩, h7⟩ := h
  obtain ⟨r, hr⟩ := h4
  exact ⟨h1, h2, h3, ⟨r, hr.symm⟩, h5, h6, fun x hx => h7 _ hx rfl⟩

/-- one parameter, a plain local: its store takes a token -/
theorem newEnv_one {M : Model} {A : Around} {E : Value → Shared → Prop} {s : Shared} {scope : Scope} {globals : Addr} {x : Str} {v : Value} {qual : Str} {func : Option Addr} {code : Value} {builtins : Addr} {Q : Env → Shared → Prop}
    (hk : scope.kind = .function) (hl : scope.names.lookup x = some .local)
    (hQ : ∀ env, env = newEnv scope s.heap.objs.size globals (cellsFrom (s.heap.objs.size + 1) scope.names []) qual func code none builtins →
      ∀ s', InCallC s env.locals (bindL env.kindOf [(x, v)] fun _ => none) env.cells (bindC env.kindOf [(x, v)] fun _ => none) s' → s.toks < s'.toks → Q env s') :
    wpAny M A (newFunctionEnv scope globals [] [(x, v)] qual func code none builtins) Q E s := by
  simp only [newFunctionEnv, Option.isSome_none, Bool.false_eq_true, if_false]
  refine wpAny_bind (wpAny_alloc ?_)
  refine wpAny_bind (wpAny_layCells _ (fun name kind cells => by cases hkc : kind == NameKind.cell <;> simp [hkc]) _ _ _ _ ?_)
  have ok := cellsFrom_ok scope.names (s.heap.push { cls := .type "frame", data := .dict #[] }) (s.heap.objs.size + 1) [] ⟨fun _ _ hm => (nomatch hm), List.Pairwise.nil⟩ (by rw [Heap.size_push]; exact Nat.le_refl _)
  rw [Heap.size_push] at ok
  rw [show ({ s with heap := s.heap.push { cls := .type "frame", data := .dict #[] } } : Shared).heap.objs.size = s.heap.objs.size + 1 from Heap.size_push ..]
  generalize henv : newEnv scope s.heap.objs.size globals (cellsFrom (s.heap.objs.size + 1) scope.names []) qual func code none builtins = env at hQ
  have hke : env.scope.kind = .function := by rw [← henv]; exact hk
  have hle : env.kindOf x = some .local := by rw [← henv]; exact hl
  have I0 : InCallC s env.locals (fun _ => none) env.cells (fun _ => none) { s with heap := pushCells (s.heap.push { cls := .type "frame", data := .dict #[] }) scope.names } := by
    rw [← henv]
    exact ⟨⟨⟨_, _, rfl⟩, (Heap.Ns.new s.heap (.type "frame")).keeps (pushCells_keeps _ _), fun b o e => pushCells_keeps _ _ b o (Heap.get?_push_of_some _ e), Nat.le_refl _⟩,
      fun n c hc => (ok.empty n c (mem_of_lookup hc)).1, ok.apart, fun n c hm => (ok.empty n c hm).2⟩
  refine wpAny_bind ?_
  rw [List.forIn_cons]
  refine wpAny_bind (wpAny_bind ?_)
  show wpAny M A (storeName (newEnv scope s.heap.objs.size globals (cellsFrom (s.heap.objs.size + 1) scope.names []) qual func code none builtins) x v) _ _ _
  rw [henv]
  refine wpAny_storeName_local hle I0.toInCall.ns (fun h' hn' hs' => wpAny_pure ?_) (by rw [hke]; rfl)
  show wpAny M A (forIn [] _ _) _ _ _
  rw [List.forIn_nil]
  refine wpAny_pure (wpAny_pure ?_)
  show Q (newEnv scope s.heap.objs.size globals (cellsFrom (s.heap.objs.size + 1) scope.names []) qual func code none builtins) _
  rw [henv]
  refine hQ env rfl _ ⟨⟨⟨h', _, rfl⟩, ?_, fun b o e => ?_, I0.toInCall.fresh⟩, fun k c hc => ?_, I0.apart, I0.above⟩ (Nat.lt_succ_self _)
  · unfold bindL; rw [if_pos hle]; exact hn'
  · exact hs'.extBut b o (Nat.ne_of_lt (Nat.lt_of_lt_of_le (Heap.lt_size e) I0.toInCall.fresh)) (I0.toInCall.keep b o e)
  · unfold bindC; rw [if_pos hle]; exact (I0.cell k c hc).sameBut hs' (Nat.ne_of_gt (I0.above k c (mem_of_lookup hc)))
theorem newEnv_strict {M : Model} {A : Around} {E : Value → Shared → Prop} {s : Shared} {scope : Scope} {globals : Addr} {binds : List (Str × Value)} {qual : Str} {func : Option Addr} {code : Value} {builtins : Addr} {Q : Env → Shared → Prop}
    (hk : scope.kind = .function)
    (hkind : ∀ x ∈ binds, scope.names.lookup x.1 = some .local ∨ (scope.names.lookup x.1 = some .cell ∧ ((cellsFrom (s.heap.objs.size + 1) scope.names []).lookup x.1).isSome = true))
    (hQ : ∀ env, env = newEnv scope s.heap.objs.size globals (cellsFrom (s.heap.objs.size + 1) scope.names []) qual func code none builtins →
      ∀ s', InCallC s env.locals (bindL env.kindOf binds fun _ => none) env.cells (bindC env.kindOf binds fun _ => none) s' → s.toks ≤ s'.toks → (∀ x v, binds = [(x, v)] → scope.names.lookup x = some .local → s.toks < s'.toks) → Q env s') :
    wpAny M A (newFunctionEnv scope globals [] binds qual func code none builtins) Q E s := by
  by_cases h : ∃ x v, binds = [(x, v)] ∧ scope.names.lookup x = some .local
  · obtain ⟨x, v, rfl, hl⟩ := h
    exact newEnv_one hk hl fun env he s' I ht => hQ env he s' I (Nat.le_of_lt ht) fun _ _ _ _ => ht
  · exact mono_toks (wpAny_newFunctionEnv_cells hk hkind fun env he s' I ht => hQ env he s' I ht fun x v e hl => absurd ⟨x, v, e, hl⟩ h)
theorem call_cells {prog : Program} {w : World} {A : Around} {s : Shared} {R : Result → Shared → Prop} {a : Addr} {o : Obj} {fd : FuncData} {body : List Stmt} {vals : List Value} {binds : List (Str × Value)}
    (hroom : A.depth < recursionLimit) (ho : s.heap.get? a = some o) (hdata : o.data = .func fd) (hlim : s.heap.NoLimit) (hcd : s.heap.CodeRec fd.code fd.qualname)
    (hbody : fd.body = .stmts body) (hbind : bindArgs fd ⟨vals, []⟩ = pure binds) (hclo : fd.closure = [])
    (hkind : ∀ x ∈ binds, fd.scope.names.lookup x.1 = some .local ∨ (fd.scope.names.lookup x.1 = some .cell ∧ ((cellsFrom (s.heap.objs.size + 1) fd.scope.names []).lookup x.1).isSome = true))
    (h : ∀ s₁, InCallC s (callEnvC fd s.heap.objs.size a).locals (bindL (callEnvC fd s.heap.objs.size a).kindOf binds fun _ => none) (callEnvC fd s.heap.objs.size a).cells
        (bindC (callEnvC fd s.heap.objs.size a).kindOf binds fun _ => none) s₁ → s.toks ≤ s₁.toks → (∀ x v, binds = [(x, v)] → fd.scope.names.lookup x = some .local → s.toks < s₁.toks) →
      wpAny (model prog w) (A.deeper (callEnvC fd s.heap.objs.size a)) (execs body (callEnvC fd s.heap.objs.size a)) (fun f s' => R (.ok (.ret (match f with | .ret v => v | _ => .none))) s')
        (fun e s' => wpAny (model prog w) (A.deeper (callEnvC fd s.heap.objs.size a)) (leaving (callEnvC fd s.heap.objs.size a) e) (fun _ s'' => R (.error e) s'') (fun e' s'' => R (.error e') s'') s') s₁)
    (hco : fd.scope.isCoroutine = false) (hgen : fd.scope.isGenerator = false) (hk : fd.scope.kind = .function) :
    codeAny (model prog w) A (.call (.ref a) ⟨vals, []⟩) R s := by
  refine codeAny_call_function hroom ho hdata hco hgen hbody hcd ?_
  rw [hbind, hclo]
  refine wpAny_pure (newEnv_strict hk hkind fun env he s' x ht hst => ?_)
  subst he
  exact ⟨hlim.keeps x.toInCall.keep, codeAny_func (h s' x ht hst)⟩

section
variable {W : Wd}
/-- the general form: the state's own tokens may be none -/
theorem fn_enterS {q : Str} {d : DefRec} {a : Addr} {n k : Nat} {ps sl : List Str} (O : W.Ok) (F : FnQ W q d a) (hchk : fnOK d ps sl = true) (hlen : sl.length = ps.length + k)
    (hb : ∀ pm code doc vs, vs.length = ps.length → bindArgs (qDef q d pm code doc) ⟨vs, []⟩ = pure (ps.zip vs))
    {A : Around} {P : AP} {s : Shared} {lvs : List LV} {vs : List Value} {R : Result → Shared → Prop} {T' : Nat}
    (X : Cs W (n + 1) A s.heap T') (pr : Paired (LR P s.heap s.toks) lvs vs) (hl : lvs.length = ps.length)
    (go : ∀ env h₁ tk₁ X', Sx W.w0 n d.scope (A.deeper env) env s.heap → SRel W.w0 s.heap P (fun b => P b ∧ ∃ o, s.heap.get? b = some o) X' (fun _ => 0) env sl (initL lvs k) h₁ tk₁ → s.toks ≤ tk₁ → (∀ x, ps = [x] → d.scope.names.lookup x = some .local → s.toks < tk₁) →
      wpAny (model W.prog W.w) (A.deeper env) (execs d.body env) (fun f s' => R (.ok (.ret (match f with | .ret v => v | _ => .none))) s')
        (fun e s' => wpAny (model W.prog W.w) (A.deeper env) (leaving env e) (fun _ s'' => R (.error e) s'') (fun e' s'' => R (.error e') s'') s') { s with heap := h₁, toks := tk₁ }) :
    codeAny (model W.prog W.w) A (.call (.ref a) ⟨vs, []⟩) R s := by
  obtain ⟨o, pm, code, doc, ho, hd, hcd⟩ := F
  obtain ⟨hk, hco, hge, ⟨r, hsl⟩, hnd, hvar, hfree⟩ := fnOK_iff hchk
  have hvl : vs.length = ps.length := by rw [← pr.length, hl]
  have hnames : (ps.zip vs).map (·.1) = ps := by rw [List.map_fst_zip]; omega
  have hndp : ps.Nodup := by rw [hsl] at hnd; exact (List.nodup_append.mp hnd).1
  have hcd' : s.heap.CodeRec code q := by
    obtain ⟨c, o', vs', t, e1, e2, e3⟩ := hcd
    exact ⟨c, o', vs', t, e1, X.base _ _ e2, e3⟩
  refine (call_cells (binds := ps.zip vs) (body := d.body) (fd := qDef q d pm code doc) (by have := X.depth; omega) (X.base _ _ ho) hd (O.nolimit.keeps X.base) hcd' rfl (hb pm code doc vs hvl) rfl ?_ ?_ hco hge hk)
  · intro x hx
    have hxp : x.1 ∈ ps := by rw [← hnames]; exact List.mem_map_of_mem hx
    have := hvar x.1 hxp
    unfold isVar at this
    rw [Bool.or_eq_true, beq_iff_eq, beq_iff_eq] at this
    rcases this with q | q
    · exact .inl q
    · exact .inr ⟨q, cellsFrom_some _ _ _ (.inl q)⟩
  · intro s₁ I ht₁ hst
    generalize henv : callEnvC (qDef q d pm code doc) s.heap.objs.size a = env at I ⊢
    have hsc : env.scope = d.scope := by rw [← henv]; rfl
    have hloc : env.locals = s.heap.objs.size := by rw [← henv]; rfl
    have hfr : env.frame = some env.locals := by rw [← henv]; rfl
    have hgl : env.globals = mainGlobals := by rw [← henv]; rfl
    have hbu : env.builtins = builtinsNs := by rw [← henv]; rfl
    have hcl : env.cells = cellsFrom (s.heap.objs.size + 1) d.scope.names [] := by rw [← henv]; rfl
    obtain ⟨⟨⟨h₁, tk₁, hs₁⟩, hns, hkeep, hfresh⟩, hcell, hap, habove⟩ := I
    subst hs₁
    have hkeep' : Grow s.heap h₁ := hkeep
    have freshS : ∀ b : Nat, @LE.le Nat _ s.heap.objs.size b → s.heap.get? b = none := fun b hb => Heap.get?_none_of_le hb
    have cfresh : ∀ x c, env.cells.lookup x = some c → s.heap.get? c = none := fun x c h => freshS c (Nat.le_of_lt (Nat.lt_of_le_of_lt hfresh (habove x c (mem_of_lookup h))))
    have cap : ∀ x y c, env.cells.lookup x = some c → env.cells.lookup y = some c → x = y := fun x y c h1 h2 => name_of_addr hap (mem_of_lookup h1) (mem_of_lookup h2)
    -- the frame's state
    have S : SRel W.w0 s.heap P (fun b => P b ∧ ∃ o, s.heap.get? b = some o) (fun b => b = env.locals ∨ ∃ x, env.cells.lookup x = some b) (fun _ => 0) env sl (initL lvs k) h₁ tk₁ := by
      refine ⟨fun i x lv e1 e2 => ?_, ?_, ⟨.inl rfl, _, hns⟩, fun x hx => ?_, cap, fun b p xb => ?_, fun b xb => ?_, fun b p => .inl p.1, .of hkeep', fun _ _ f => f, fun _ f => f.elim, fun _ f => f.elim, fun b xb => ?_, fun i j x h1 h2 => ?_, ?_⟩
      · unfold initL at e2
        rcases Nat.lt_or_ge i lvs.length with hi | hi
        · rw [List.getElem?_append_left (by simpa using hi), List.getElem?_map] at e2
          cases hlv : lvs[i]? with
          | none => rw [hlv] at e2; cases e2
          | some lv0 =>
            rw [hlv] at e2
            have e2' : lv0.arg = lv := Option.some.inj e2
            subst e2'
            obtain ⟨v, hv, rv⟩ : ∃ v, vs[i]? = some v ∧ LR P s.heap s.toks lv0 v := by
              have aux : ∀ {l : List LV} {u : List Value}, Paired (LR P s.heap s.toks) l u → ∀ (i : Nat), l[i]? = some lv0 → ∃ v, u[i]? = some v ∧ LR P s.heap s.toks lv0 v := by
                intro l u p
                induction p with
                | nil => intro i h; simp at h
                | cons x r ih =>
                  intro i h
                  cases i with
                  | zero => simp at h; subst h; exact ⟨_, rfl, x⟩
                  | succ i => simpa using ih i (by simpa using h)
              exact aux pr i hlv
            have hx : ps[i]? = some x := by rw [hsl, List.getElem?_append_left (by omega)] at e1; exact e1
            have hmem : (x, v) ∈ ps.zip vs := List.mem_of_getElem? (i := i) (by rw [List.getElem?_zip_eq_some]; exact ⟨hx, hv⟩)
            have hv' := hvar x (List.mem_of_getElem? hx)
            refine .inr ⟨v, ?_, rv.arg.live.grow (fun b p => p) hkeep' ht₁, ?_⟩
            · have kk := isVar_kind hv' hsc
              rcases kk with kk | kk
              · exact .inl ⟨kk, _, hns, bindL_get _ _ (by rw [hnames]; exact hndp) hmem kk⟩
              · refine .inr ⟨.inl kk, ?_⟩
                have hsome : (env.cells.lookup x).isSome = true := by
                  rw [hcl]; refine cellsFrom_some _ _ _ (.inl ?_)
                  unfold Env.kindOf at kk; rw [hsc] at kk; exact kk
                obtain ⟨c, hc⟩ := Option.isSome_iff_exists.mp hsome
                refine ⟨c, hc, ?_⟩
                have := hcell x c hc
                rw [bindC_get _ _ (by rw [hnames]; exact hndp) hmem (by rw [kk]; intro q; cases q)] at this
                exact this
            · cases lv0 with
              | undef => trivial
              | val _ => trivial
              | ali l => obtain ⟨a', us, rfl, ⟨o, ho, _⟩, _⟩ := rv; exact ⟨a', o, rfl, ho, fun f => f⟩
              | pla l => obtain ⟨a', us, rfl, ⟨n', ho⟩, _⟩ := rv; exact ⟨a', _, rfl, ho, fun f => f⟩
              | own l => obtain ⟨a', us, rfl, ⟨n', ho⟩, _⟩ := rv; exact ⟨a', _, rfl, ho, fun f => f⟩
        · rw [List.getElem?_append_right (by simpa using hi)] at e2
          have := List.mem_of_getElem? e2
          exact .inl (List.eq_of_mem_replicate this)
      · intro i j l k' h1 _ _
        exfalso
        have := List.mem_of_getElem? h1
        unfold initL at this
        rcases List.mem_append.mp this with q | q
        · obtain ⟨lv0, _, e⟩ := List.mem_map.mp q
          cases lv0 <;> cases e
        · cases List.eq_of_mem_replicate q
      · unfold Env.kindOf at hx
        rw [hsc] at hx
        rcases hx with hx | hx
        · have hsome : (env.cells.lookup x).isSome = true := by rw [hcl]; exact cellsFrom_some _ _ _ (.inl hx)
          obtain ⟨c, hc⟩ := Option.isSome_iff_exists.mp hsome
          exact ⟨c, hc, .inr ⟨x, hc⟩, _, hcell x c hc⟩
        · exact absurd (mem_of_lookup hx) (hfree x)
      · obtain ⟨_, o, e⟩ := p
        rcases xb with rfl | ⟨x, hx⟩
        · rw [hloc, freshS _ (Nat.le_refl _)] at e; cases e
        · rw [cfresh x b hx] at e; cases e
      · rcases xb with rfl | ⟨x, hx⟩
        · rw [hloc]; exact freshS _ (Nat.le_refl _)
        · exact cfresh x b hx
      · rcases xb with rfl | ⟨x, hx⟩
        · obtain ⟨o, _, _, e, _⟩ := hns; exact ⟨o, e⟩
        · obtain ⟨o, e, _⟩ := hcell x b hx; exact ⟨o, e⟩
      · exact (List.getElem?_inj (by exact (List.getElem?_eq_some_iff.mp h1).1) hnd).mp (h1.trans h2.symm)
      · unfold initL; simp [hl, hlen]
    obtain ⟨out, hout, hff⟩ := X.frames
    have Y : Sx W.w0 n d.scope (A.deeper env) env s.heap := ⟨X.base, X.handled, by have := X.depth; show A.depth + 1 + n < _; omega, by have := X.units; show A.units + _ + 20 * n + 100 < _; omega, hsc, hk, hgl, hbu, hfr, ⟨out, by show A.frames.map _ = _; rw [hout]; rfl, hff⟩, fun q => (nomatch q)⟩
    have ht₁' : s.toks ≤ tk₁ := ht₁
    refine go env h₁ tk₁ _ Y S ht₁' fun x hx hlo => ?_
    subst hx
    obtain ⟨v, rfl⟩ : ∃ v, vs = [v] := List.length_eq_one_iff.mp hvl
    exact hst x v rfl hlo
theorem fn_enterQ {q : Str} {d : DefRec} {a : Addr} {n k : Nat} {ps sl : List Str} (O : W.Ok) (F : FnQ W q d a) (hchk : fnOK d ps sl = true) (hlen : sl.length = ps.length + k)
    (hb : ∀ pm code doc vs, vs.length = ps.length → bindArgs (qDef q d pm code doc) ⟨vs, []⟩ = pure (ps.zip vs))
    {A : Around} {P : AP} {s : Shared} {lvs : List LV} {vs : List Value} {R : Result → Shared → Prop}
    (X : Cs W (n + 1) A s.heap s.toks) (pr : Paired (LR P s.heap s.toks) lvs vs) (hl : lvs.length = ps.length)
    (go : ∀ env h₁ tk₁ X', Sx W.w0 n d.scope (A.deeper env) env s.heap → SRel W.w0 s.heap P (fun b => P b ∧ ∃ o, s.heap.get? b = some o) X' (fun _ => 0) env sl (initL lvs k) h₁ tk₁ → s.toks ≤ tk₁ →
      wpAny (model W.prog W.w) (A.deeper env) (execs d.body env) (fun f s' => R (.ok (.ret (match f with | .ret v => v | _ => .none))) s')
        (fun e s' => wpAny (model W.prog W.w) (A.deeper env) (leaving env e) (fun _ s'' => R (.error e) s'') (fun e' s'' => R (.error e') s'') s') { s with heap := h₁, toks := tk₁ }) :
    codeAny (model W.prog W.w) A (.call (.ref a) ⟨vs, []⟩) R s :=
  fn_enterS O F hchk hlen hb X pr hl fun env h₁ tk₁ X' Y S t _ => go env h₁ tk₁ X' Y S t
theorem fn_enterC {d : DefRec} {a : Addr} {n k : Nat} {ps sl : List Str} (O : W.Ok) (F : FnObj W d a) (hchk : fnOK d ps sl = true) (hlen : sl.length = ps.length + k)
    (hb : ∀ pm code doc vs, vs.length = ps.length → bindArgs (docDef d.name d.params d.body d.scope pm code doc) ⟨vs, []⟩ = pure (ps.zip vs))
    {A : Around} {P : AP} {s : Shared} {lvs : List LV} {vs : List Value} {R : Result → Shared → Prop}
    (X : Cs W (n + 1) A s.heap s.toks) (pr : Paired (LR P s.heap s.toks) lvs vs) (hl : lvs.length = ps.length)
    (go : ∀ env h₁ tk₁ X', Sx W.w0 n d.scope (A.deeper env) env s.heap → SRel W.w0 s.heap P (fun b => P b ∧ ∃ o, s.heap.get? b = some o) X' (fun _ => 0) env sl (initL lvs k) h₁ tk₁ → s.toks ≤ tk₁ →
      wpAny (model W.prog W.w) (A.deeper env) (execs d.body env) (fun f s' => R (.ok (.ret (match f with | .ret v => v | _ => .none))) s')
        (fun e s' => wpAny (model W.prog W.w) (A.deeper env) (leaving env e) (fun _ s'' => R (.error e) s'') (fun e' s'' => R (.error e') s'') s') { s with heap := h₁, toks := tk₁ }) :
    codeAny (model W.prog W.w) A (.call (.ref a) ⟨vs, []⟩) R s :=
  fn_enterQ (q := d.name) O F hchk hlen hb X pr hl go
theorem fn_enter {d : DefRec} {a : Addr} {n k : Nat} {ps sl : List Str} (O : W.Ok) (F : FnObj W d a) (hchk : fnOK d ps sl = true) (hlen : sl.length = ps.length + k)
    (hb : ∀ pm code doc vs, vs.length = ps.length → bindArgs (docDef d.name d.params d.body d.scope pm code doc) ⟨vs, []⟩ = pure (ps.zip vs))
    {A : Around} {P : AP} {s : Shared} {lvs : List LV} {vs : List Value} {E : Value → Shared → Prop} {Q : Value → Shared → Prop}
    (X : Cs W (n + 1) A s.heap s.toks) (pr : Paired (LR P s.heap s.toks) lvs vs) (hl : lvs.length = ps.length)
    (go : ∀ env h₁ tk₁ X', Sx W.w0 n d.scope (A.deeper env) env s.heap → SRel W.w0 s.heap P (fun b => P b ∧ ∃ o, s.heap.get? b = some o) X' (fun _ => 0) env sl (initL lvs k) h₁ tk₁ → s.toks ≤ tk₁ →
      wpAny (model W.prog W.w) (A.deeper env) (execs d.body env) (fun f s' => Q (match f with | .ret v => v | _ => .none) s')
        (fun e s' => wpAny (model W.prog W.w) (A.deeper env) (leaving env e) (fun _ s'' => E e s'') (fun e' s'' => E e' s'') s') { s with heap := h₁, toks := tk₁ }) :
    wpAny (model W.prog W.w) A (call (.ref a) vs) Q E s :=
  wpAny_call (fn_enterC O F hchk hlen hb X pr hl go)
noncomputable def fnF (g : SF) (k : Nat) : List LV → Option MV := fun lvs => match g (initL lvs k) with
  | some (.ret m) => some m
  | some (.next _) => some .non
  | none => none
theorem fn_ok {d : DefRec} {a : Addr} {n k : Nat} {ps sl : List Str} {g : SF} (O : W.Ok) (F : FnObj W d a) (hchk : fnOK d ps sl = true) (hlen : sl.length = ps.length + k)
    (hb : ∀ pm code doc vs, vs.length = ps.length → bindArgs (docDef d.name d.params d.body d.scope pm code doc) ⟨vs, []⟩ = pure (ps.zip vs))
    (D : DenS W.w0 n d.scope sl d.body g) : CallOK W (n + 1) (.ref a) (fun lvs => if lvs.length = ps.length then fnF g k lvs else none) := by
  intro A P s lvs vs m E Q X pr hm q
  dsimp only at hm
  split at hm
  case isFalse => cases hm
  rename_i hl
  refine fn_enter O F hchk hlen hb X pr hl fun env h₁ tk₁ X' Y S ht₁' => ?_
  unfold fnF at hm
  split at hm
  · rename_i m' hg
    cases hm
    exact D (s := { s with heap := h₁, toks := tk₁ }) Y S (Nat.lt_of_lt_of_le X.tok ht₁') hg fun v h' tk r g t => q v h' tk (fun b o e => (g b o e).1 fun f => f) (Nat.le_trans ht₁' t) r
  · rename_i ℓ' hg
    cases hm
    exact D (s := { s with heap := h₁, toks := tk₁ }) Y S (Nat.lt_of_lt_of_le X.tok ht₁') hg fun P' X' μ' h' tk S' t k x => q .none h' tk (fun b o e => (S'.grow b o e).1 fun f => f) (Nat.le_trans ht₁' t) rfl
  · cases hm
theorem fn_okQ {q : Str} {d : DefRec} {a : Addr} {n k : Nat} {ps sl : List Str} {g : SF} (O : W.Ok) (F : FnQ W q d a) (hchk : fnOK d ps sl = true) (hlen : sl.length = ps.length + k)
    (hb : ∀ pm code doc vs, vs.length = ps.length → bindArgs (qDef q d pm code doc) ⟨vs, []⟩ = pure (ps.zip vs))
    (D : DenS W.w0 n d.scope sl d.body g) : CallOK W (n + 1) (.ref a) (fun lvs => if lvs.length = ps.length then fnF g k lvs else none) := by
  intro A P s lvs vs m E Q X pr hm q
  dsimp only at hm
  split at hm
  case isFalse => cases hm
  rename_i hl
  refine wpAny_call (fn_enterQ O F hchk hlen hb X pr hl fun env h₁ tk₁ X' Y S ht₁' => ?_)
  unfold fnF at hm
  split at hm
  · rename_i m' hg
    cases hm
    exact D (s := { s with heap := h₁, toks := tk₁ }) Y S (Nat.lt_of_lt_of_le X.tok ht₁') hg fun v h' tk r g t => q v h' tk (fun b o e => (g b o e).1 fun f => f) (Nat.le_trans ht₁' t) r
  · rename_i ℓ' hg
    cases hm
    exact D (s := { s with heap := h₁, toks := tk₁ }) Y S (Nat.lt_of_lt_of_le X.tok ht₁') hg fun P' X' μ' h' tk S' t k x => q .none h' tk (fun b o e => (S'.grow b o e).1 fun f => f) (Nat.le_trans ht₁' t) rfl
  · cases hm
end
end Mine
end
section
open PySem PySem.W PyProof.Rows PySem.Calls
set_option Elab.async false
set_option linter.unusedVariables false
set_option linter.unusedSimpArgs false
namespace Mine
/-! an int made just now -/
noncomputable def DenF (W : Wd) (n : Nat) (C : Scope) (sl : List Str) (e : Expr) (f : List LV → Option Int) : Prop :=
  ∀ {A : Around} {env : Env} {P : AP} {ℓ : List LV} {s : Shared} {i : Int} {E : Value → Shared → Prop} {Q : Value → Shared → Prop},
    Cx W n C A env s.heap s.toks → LRel P env sl ℓ s.heap s.toks → f ℓ = some i →
    (∀ t h' tk, Grow s.heap h' → s.toks ≤ t → t < tk → Q (.int i t) { s with heap := h', toks := tk }) → wpAny (model W.prog W.w) A (eval e env) Q E s
section
variable {W : Wd} {n : Nat} {C : Scope} {sl : List Str}
theorem DenF.toE {e f} (D : DenF W n C sl e f) : DenE W n C sl e (fun ℓ => (f ℓ).map .fint) := by
  intro A env P ℓ s m E Q X R hm q
  dsimp only at hm
  cases hf : f ℓ with
  | none => simp [hf] at hm
  | some i =>
    simp [hf] at hm; subst hm
    exact D X R hf fun t h' tk g t1 t2 => q _ h' tk g (Nat.le_trans t1 (Nat.le_of_lt t2)) ⟨t, rfl, Nat.lt_of_lt_of_le X.tok t1, t2⟩
theorem den_intF {k : Int} {kd pos} : DenF W n C sl (.Constant (.int k) kd pos) (fun _ => some k) := by
  intro A env P ℓ s i E Q X R hm q
  cases hm
  exact wpAny_Constant_int (q _ s.heap _ (Grow.refl _) (Nat.le_refl _) (Nat.lt_succ_self _))
noncomputable def lenF : LV → Option Int := fun lv => match lv with
  | .val (.tup l) => if szOK l then some l.length else none
  | lv => match lv.list? with
    | some l => if szOK l then some l.length else none
    | none => none
theorem len_raw {A : Around} {P : AP} {s : Shared} {lv : LV} {v : Value} {i : Int} {E : Value → Shared → Prop} {Q : Value → Shared → Prop} (r : LR P s.heap s.toks lv v) (e : lenF lv = some i)
    (q : Q (.int i (s.toks + 1)) { s with toks := s.toks + 1 + 1 }) : wpAny (model W.prog W.w) A (call (.builtin "len") [v]) Q E s := by
  unfold lenF at e
  split at e
  · rename_i l
    split at e
    · rename_i hz
      cases e
      obtain ⟨a, vs, rfl, _, ht, rs⟩ := r
      have hl : vs.size = l.length := by rw [← rs.length, Array.length_toList]
      have hz' : l.length ≤ 65536 := by simpa [szOK] using hz
      rw [← hl] at q
      exact len_tuple ht (by omega) q
    · cases e
  · split at e
    · rename_i l hl'
      split at e
      · rename_i hz
        cases e
        obtain ⟨a, vs, rfl, ht, rs⟩ := r.list hl'
        have hl : vs.size = l.length := by rw [← rs.length, Array.length_toList]
        have hz' : l.length ≤ 65536 := by simpa [szOK] using hz
        rw [← hl] at q
        exact call_len_list ht (by omega) q
      · cases e
    · cases e
theorem den_lenF (O : W.Ok) {np pos : Pos} {a : Expr} {f : LF} (hx : C.names.lookup ("len" : Str) = some .globalImplicit) (hg : GName W "len" (.builtin "len")) (h1 : OneArg [a]) (hs : ∀ env, starEach [a] env = (false, eval a env) :: starEach [] env) (Da : DenA W n C sl a f) :
    DenF W n C sl (.Call (.Name "len" np) [a] [] pos) (fun ℓ => (f ℓ).bind lenF) := by
  intro A env P ℓ s i E Q X R hm q
  dsimp only at hm
  cases hf : f ℓ with
  | none => simp [hf] at hm
  | some lv =>
    rw [hf, Option.bind_some] at hm
    have Dl : DenLA W n C sl [a] (cons2 f fun _ => some []) := den_consA Da (den_nilA (W := W) (n := n) (C := C) (sl := sl)) hs
    refine Call_Name (trees := backTo pos (starEach [a] env)) rfl (load_g O X hx (by decide) hg (call_form X (.inl ⟨_, rfl⟩) h1 (Dl (ms := [lv]) X R (by simp [cons2, hf]) fun vs h₁ tk₁ g₁ t₁ p => ⟨g₁, ?_⟩)))
    cases p with
    | cons x r =>
      cases r
      exact len_raw (s := { s with heap := h₁, toks := tk₁ }) x hm (q _ h₁ _ g₁ (Nat.le_trans t₁ (Nat.le_succ _)) (Nat.lt_succ_self _))

/-! ints out of lists -/
noncomputable def min2 : List LV → Option MV := fun lvs => match lvs with
  | [x, y] => (match x.num, y.num with
    | some a, some b => some (.int (if b < a then b else a))
    | _, _ => none)
  | _ => none
theorem ok_min2 (W : Wd) (n : Nat) : CallOK W n (.builtin "min") min2 := by
  intro A P s lvs vs m E Q X pr hm q
  unfold min2 at hm
  split at hm
  · rename_i x y
    split at hm
    · rename_i a b ha hb
      cases hm
      cases pr with
      | cons rx r => cases r with
        | cons ry r =>
          cases r
          obtain ⟨t, rfl⟩ := rx.num ha
          obtain ⟨u, rfl⟩ := ry.num hb
          refine mono_toks' fun E' => min_two_ints X.handled fun h' tk g ht => q _ h' tk g ht ?_
          split
          · exact ⟨u, rfl⟩
          · exact ⟨t, rfl⟩
    · cases hm
  · cases hm
noncomputable def maxI : List Int → Int
  | [] => 0
  | a :: r => r.foldl max a
theorem foldl_max_spec : ∀ (r : List Int) (a : Int), (r.foldl max a ∈ a :: r) ∧ ∀ x ∈ a :: r, x ≤ r.foldl max a
  | [], a => ⟨List.mem_singleton.mpr rfl, fun x hx => by rw [List.mem_singleton.mp hx]; exact Int.le_refl _⟩
  | b :: r, a => by
    obtain ⟨h1, h2⟩ := foldl_max_spec r (max a b)
    rw [List.foldl_cons]
    refine ⟨?_, fun x hx => ?_⟩
    · rcases List.mem_cons.mp h1 with e | e
      · rw [e]
        rcases Int.le_total a b with h | h
        · rw [Int.max_eq_right h]; simp
        · rw [Int.max_eq_left h]; simp
      · simp [e]
    · have h3 := h2 (max a b) (List.mem_cons_self ..)
      rcases List.mem_cons.mp hx with rfl | hx
      · exact Int.le_trans (Int.le_max_left _ _) h3
      · rcases List.mem_cons.mp hx with rfl | hx
        · exact Int.le_trans (Int.le_max_right _ _) h3
        · exact h2 x (List.mem_cons_of_mem _ hx)
theorem maxI_eq {ns : List Int} {M : Int} (h1 : M ∈ ns) (h2 : ∀ a ∈ ns, a ≤ M) : M = maxI ns := by
  cases ns with
  | nil => cases h1
  | cons a r =>
    obtain ⟨h3, h4⟩ := foldl_max_spec r a
    exact Int.le_antisymm (h4 M h1) (h2 _ h3)
noncomputable def maxF : List LV → Option MV := fun lvs => match lvs with
  | [x, y] => (match x.num, y.num with
    | some a, some b => some (.int (if b > a then b else a))
    | _, _ => none)
  | [x] => (match x.list? with
    | some l => (match nums l with
      | some ns => if ns.isEmpty then none else some (.int (maxI ns))
      | none => none)
    | none => none)
  | _ => none
theorem ok_max (W : Wd) (n : Nat) : CallOK W n (.builtin "max") maxF := by
  intro A P s lvs vs m E Q X pr hm q
  unfold maxF at hm
  split at hm
  · rename_i x y
    split at hm
    · rename_i a b ha hb
      cases hm
      cases pr with
      | cons rx r => cases r with
        | cons ry r =>
          cases r
          obtain ⟨t, rfl⟩ := rx.num ha
          obtain ⟨u, rfl⟩ := ry.num hb
          refine mono_toks' fun E' => max_two_ints X.handled fun h' tk g ht => q _ h' tk g ht ?_
          split
          · exact ⟨u, rfl⟩
          · exact ⟨t, rfl⟩
    · cases hm
  · rename_i x
    split at hm
    · rename_i l hl
      split at hm
      · rename_i ns hn
        split at hm
        · cases hm
        · rename_i hne
          cases hm
          cases pr with
          | cons rx r =>
            cases r
            obtain ⟨a, vs', rfl, hL, rs⟩ := rx.list hl
            have hi := rs.nums hn
            obtain ⟨xs, e⟩ := hi.allInts.items
            have e' : vs' = intItems xs := by
              have : vs'.toList.toArray = intItems xs := e
              simpa using this
            subst e'
            have hns : ns = xs.toList.map (·.1) := by
              rw [← hi.numsOf, ← nums_intItems]
            have hlen : 0 < ns.length := by cases ns with
              | nil => simp at hne
              | cons => simp
            have hsz : 0 < xs.size := by
              rw [hns, List.length_map, Array.length_toList] at hlen; exact hlen
            refine mono_toks' fun E' => max_intList X.handled hL hsz fun v h' tk hv hk ht => ?_
            obtain ⟨t, rfl⟩ := intItems_at hv
            obtain ⟨h1, h2⟩ := argBest_gt (numAt xs) (xs.size - 1)
            refine q _ h' tk hk ht ⟨t, ?_⟩
            congr 1
            refine maxI_eq ?_ fun a ha => ?_
            · rw [hns, numAt_eq]; exact getD_mem (by rw [List.length_map, Array.length_toList]; omega)
            · rw [hns] at ha
              obtain ⟨j, hj, rfl⟩ := mem_getD ha
              rw [List.length_map, Array.length_toList] at hj
              rw [← numAt_eq]; exact h2 j (by omega)
      · cases hm
    · cases hm
  · cases hm
noncomputable def sumF : List LV → Option MV := fun lvs => match lvs with
  | [x] => (match x.list? with
    | some l => (match nums l with
      | some ns => some (.int ns.sum)
      | none => none)
    | none => none)
  | _ => none
theorem ok_sum (W : Wd) (n : Nat) : CallOK W n (.builtin "sum") sumF := by
  intro A P s lvs vs m E Q X pr hm q
  unfold sumF at hm
  split at hm
  · rename_i x
    split at hm
    · rename_i l hl
      split at hm
      · rename_i ns hn
        cases hm
        cases pr with
        | cons rx r =>
          cases r
          obtain ⟨a, vs', rfl, hL, rs⟩ := rx.list hl
          have hi := rs.nums hn
          obtain ⟨xs, e⟩ := hi.allInts.items
          have e' : vs' = intItems xs := by
            have : vs'.toList.toArray = intItems xs := e
            simpa using this
          subst e'
          have hns : ns = xs.toList.map (·.1) := by
            rw [← hi.numsOf, ← nums_intItems]
          refine mono_toks' fun E' => sum_intListG X.handled hL fun h' tk t' hk ht => q _ h' tk hk ht ⟨t', ?_⟩
          rw [preSum_eq, List.take_of_length_le (by simp), hns]
      · cases hm
    · cases hm
  · cases hm
noncomputable def sortedF : List LV → Option (List MV) := fun lvs => match lvs with
  | [x] => (match x.list? with
    | some l => (match nums l with
      | some ns => if ns.length < 64 then some ((sortI ns).map .int) else none
      | none => none)
    | none => none)
  | _ => none
theorem nums_length : ∀ {l : List MV} {ns : List Int}, nums l = some ns → ns.length = l.length
  | [], _, e => by cases e; rfl
  | m :: l, ns, e => by
    unfold nums at e
    split at e
    · rename_i i r h1 h2
      cases e
      simp [nums_length h2]
    · cases e
theorem ok_sorted (W : Wd) (n : Nat) : CallOKN W n (.builtin "sorted") sortedF := by
  intro A P s lvs vs m E Q X pr hm q
  unfold sortedF at hm
  split at hm
  · rename_i x
    split at hm
    · rename_i l hl
      split at hm
      · rename_i ns hn
        split at hm
        · rename_i h64
          cases hm
          cases pr with
          | cons rx r =>
            cases r
            obtain ⟨a, vs', rfl, hL, rs⟩ := rx.list hl
            have hi := rs.nums hn
            have hlen := rs.length
            have hlen2 := nums_length hn
            refine sorted_ints (vs := vs'.toList) (by simpa using hL) hi (by omega) fun out ns' a1 a2 a3 => ?_
            obtain ⟨e, he⟩ := sortedAll_at s.heap vs'.toList out
            have g : Grow s.heap (sortedAll s.heap vs'.toList out) := fun _ _ => sortedAll_old
            rw [eq_sortI a2 a3] at a1
            refine q _ out _ s.toks (fun _ => False) (fun _ f => f.elim) (fun f => f) (Heap.get?_none_of_le (Nat.le_succ _)) g (Nat.le_refl _) ⟨e, he⟩ ?_
            exact VRs.ofInts a1
        · cases hm
      · cases hm
    · cases hm
  · cases hm
end
end Mine
end
section
open PySem PySem.W PyProof.Rows PySem.Calls
set_option Elab.async false
set_option linter.unusedVariables false
set_option linter.unusedSimpArgs false
set_option maxRecDepth 100000
namespace Mine
namespace MF
theorem lk_str_getitem : typeLookup (.type "str") "__getitem__" = pure (some (.builtin "str.__getitem__")) := by rw [typeLookup_type, builtinLookup_eq_fast]; kernel_rfl
theorem lk_str_getattr : typeLookup (.type "str") "__getattribute__" = pure (some (.builtin "object.__getattribute__")) := by rw [typeLookup_type, builtinLookup_eq_fast]; kernel_rfl
theorem ty_str_getitem : typeOf (.builtin "str.__getitem__") = pure (.type "wrapper_descriptor") := by kernel_rfl
theorem slot_wd_get : Slot "wrapper_descriptor" "__get__" "wrapper_descriptor.__get__" :=
  .of (owner := "wrapper_descriptor") (n := "__get__") (by rw [typeLookup_type, builtinLookup_eq_fast]; kernel_rfl) (by decide +kernel) (by decide +kernel) (by decide +kernel)
    (by first | exact .inl (by decide +kernel) | exact .inr (by decide +kernel)) (by rw [isSubtype_type]; kernel_rfl)
theorem no_wd_set : typeLookup (.type "wrapper_descriptor") "__set__" = pure none := by rw [typeLookup_type, builtinLookup_eq_fast]; kernel_rfl
theorem no_wd_del : typeLookup (.type "wrapper_descriptor") "__delete__" = pure none := by rw [typeLookup_type, builtinLookup_eq_fast]; kernel_rfl
theorem entry_wd_get : entryFor table "wrapper_descriptor.__get__" = some Builtin.«wrapper_descriptor.__get__» := entryFor_of_tree (by kernel_rfl)
theorem args_wd_get (a b c : Value) : argsOk "wrapper_descriptor.__get__" ⟨[a, b, c], []⟩ := by unfold argsOk; kernel_rfl
theorem owner_str_getitem : (".".intercalate ("str.__getitem__".cutAt '.').dropLast) = "str" := by
  have e0 : "str.__getitem__".cutAt '.' = ["str", "__getitem__"] := by first | rfl | decide +kernel
  rw [e0]; decide +kernel
theorem sub_str_getitem_owner : isSubtype (.type "str") (.type (".".intercalate ("str.__getitem__".cutAt '.').dropLast)) = pure true := by
  rw [owner_str_getitem, isSubtype_type]; kernel_rfl
theorem entry_hasattr : entryFor table "hasattr" = some Builtin.«hasattr» := entryFor_of_tree (by kernel_rfl)
theorem args_hasattr (a b : Value) : argsOk "hasattr" ⟨[a, b], []⟩ := by unfold argsOk; kernel_rfl
theorem plain_hasattr : plainId "hasattr" = true := by decide +kernel
theorem kind_hasattr : builtinKind "hasattr" = none := by decide +kernel
end MF
section
variable {prog : Program} {w : World} {A : Around} {E : Value → Shared → Prop} {h : Heap} {g : Array GenState} {d : Drawn} {t : Nat} {os : OsState} {x : Str} {u : Tok}
theorem gi_get_str {R : Result → Shared → Prop} (hq : ∀ (v : Addr) h' t', (∀ b o, h.get? b = some o → h'.get? b = some o) → R (.ok (.ret (.ref v))) ⟨h', g, d, t', os⟩) :
    codeAny (model prog w) A (.call (.builtin "wrapper_descriptor.__get__") ⟨[.builtin "str.__getitem__", .str x u, .type "str"], []⟩) R ⟨h, g, d, t, os⟩ := by
  have hT : (⟨h, g, d, t, os⟩ : Shared).TypeIs (.str x u) "str" := rfl
  have hT5 : (⟨h, g, d, t, os⟩ : Shared).TypeIs (.builtin "str.__getitem__") "wrapper_descriptor" := MF.ty_str_getitem
  have f8 := MF.sub_str_getitem_owner
  refine codeAny_call_builtin MF.slot_wd_get.plain MF.entry_wd_get (MF.slot_wd_get.check _ _ _ _ _ _ _ _ hT5 (MF.args_wd_get _ _ _) ?_)
  repeat (any_goals (first | assumption | wp_step))
  exact hq _ _ _ (fun b o e => Heap.get?_push_of_some _ e)
theorem gi_entry_str {tk : Tok} {Q : Fin → Shared → Prop} (hq : ∀ (v : Addr) h' t', (∀ b o, h.get? b = some o → h'.get? b = some o) → Q (.done (.ret (.ref v))) ⟨h', g, d, t', os⟩) :
    wpAny (model prog w) A (Builtin.«object.__getattribute__» ⟨[.str x u, .str "__getitem__" tk], []⟩) Q E ⟨h, g, d, t, os⟩ := by
  have hT : (⟨h, g, d, t, os⟩ : Shared).TypeIs (.str x u) "str" := rfl
  have f4 := MF.lk_str_getitem
  have f5 := MF.ty_str_getitem
  have f6 := MF.slot_wd_get.lookup
  have f7 := MF.no_wd_set
  have f8 := MF.no_wd_del
  repeat (any_goals (first | assumption | wp_step))
  refine gi_get_str fun v h' t' g => ?_
  repeat (any_goals (first | assumption | wp_step))
  exact hq _ _ _ g
theorem gi_call_str {tk : Tok} {R : Result → Shared → Prop} (hq : ∀ (v : Addr) h' t', (∀ b o, h.get? b = some o → h'.get? b = some o) → R (.ok (.ret (.ref v))) ⟨h', g, d, t', os⟩) :
    codeAny (model prog w) A (.call (.builtin "object.__getattribute__") ⟨[.str x u, .str "__getitem__" tk], []⟩) R ⟨h, g, d, t, os⟩ :=
  codeAny_call_builtin F.slot_str_getattribute.plain F.entry_object_getattribute (F.slot_str_getattribute.check _ _ _ _ _ _ _ _ (show (⟨h, g, d, t, os⟩ : Shared).TypeIs (.str x u) "str" from rfl) (F.args_object_getattribute_2 _ _) (gi_entry_str hq))
theorem gi_by_str {tk : Tok} {Q : Value → Shared → Prop} (hq : ∀ (v : Addr) h' t', (∀ b o, h.get? b = some o → h'.get? b = some o) → Q (.ref v) ⟨h', g, d, t', os⟩) : wpAny (model prog w) A (getAttrBy (.str x u) (.str "__getitem__" tk) false) Q E ⟨h, g, d, t, os⟩ := by
  have hT : (⟨h, g, d, t, os⟩ : Shared).TypeIs (.str x u) "str" := rfl
  have f2 := F.slot_str_getattribute.lookup
  have f3 := F.slot_str_getattribute.bind (.str x u)
  repeat (any_goals (first | assumption | wp_step))
  refine gi_call_str fun v h' t' g => ?_
  repeat (any_goals (first | assumption | wp_step))
  exact hq _ _ _ g
theorem gi_opt_str {tk : Tok} {Q : Option Value → Shared → Prop} (hq : ∀ (v : Addr) h' t', (∀ b o, h.get? b = some o → h'.get? b = some o) → Q (some (.ref v)) ⟨h', g, d, t', os⟩) : wpAny (model prog w) A (getAttrBy? (.str x u) (.str "__getitem__" tk)) Q E ⟨h, g, d, t, os⟩ := by
  unfold getAttrBy?
  repeat (any_goals (first | assumption | with_reducible apply gi_by_str | wp_step))
  intro v h' t' g
  repeat (any_goals (first | assumption | wp_step))
  exact hq _ _ _ g
theorem gi_has_str {tk : Tok} {Q : Fin → Shared → Prop} (hq : ∀ h' t', (∀ b o, h.get? b = some o → h'.get? b = some o) → Q (.done (.ret (.bool true))) ⟨h', g, d, t', os⟩) :
    wpAny (model prog w) A (Builtin.«hasattr» ⟨[.str x u, .str "__getitem__" tk], []⟩) Q E ⟨h, g, d, t, os⟩ := by
  have hT : (⟨h, g, d, t, os⟩ : Shared).TypeIs (.str x u) "str" := rfl
  unfold Builtin.«hasattr»
  refine wpAny_bind (m := someArgs "hasattr" 2 2 _) (wpAny_pure ?_)
  dsimp only
  refine wpAny_bind (wpAny_mono (Q := fun _ s' => s' = ⟨h, g, d, t, os⟩) (E := fun _ _ => False) (by repeat (any_goals (first | assumption | rfl | wp_step))) ?_ (fun _ _ f => f.elim))
  rintro _ _ rfl
  have e0 : (Value.str x u == Value.builtin "__main__.__loader__#opaque") = false := rfl
  rw [e0]
  simp only [Bool.false_eq_true, if_false]
  refine wpAny_bind (wpAny_typeOf hT ?_)
  dsimp only
  refine wpAny_bind (show wpAny _ _ (pure (some ("__getitem__" : Str))) _ _ _ from wpAny_pure ?_)
  dsimp only
  rw [MF.lk_str_getitem]
  refine wpAny_bind (wpAny_pure ?_)
  dsimp only
  rw [MF.lk_str_getattr]
  refine wpAny_bind (wpAny_pure ?_)
  have e1 : (withoutEnding? "str.__getitem__" "#data").isSome = false := by decide +kernel
  rw [e1]
  simp only [Bool.false_and, Bool.false_eq_true, if_false]
  refine wpAny_bind (show wpAny _ _ (pure (0 : Nat)) _ _ _ from wpAny_pure ?_)
  rw [if_neg (by decide)]
  refine wpAny_bind (gi_opt_str fun v h' t' g => ?_)
  have e2 : ((some (Value.ref v)).isNone && ((0 : Nat) == 2)) = false := rfl
  rw [e2]
  simp only [Bool.false_eq_true, if_false]
  exact wpAny_pure (hq _ _ g)
end
namespace MF
theorem lk_list_getitem : typeLookup (.type "list") "__getitem__" = pure (some (.builtin "list.__getitem__")) := by rw [typeLookup_type, builtinLookup_eq_fast]; kernel_rfl
theorem ty_list_getitem : typeOf (.builtin "list.__getitem__") = pure (.type "method_descriptor") := by kernel_rfl
theorem owner_list_getitem : (".".intercalate ("list.__getitem__".cutAt '.').dropLast) = "list" := by
  have e0 : "list.__getitem__".cutAt '.' = ["list", "__getitem__"] := by first | rfl | decide +kernel
  rw [e0]; decide +kernel
theorem sub_list_getitem_owner : isSubtype (.type "list") (.type (".".intercalate ("list.__getitem__".cutAt '.').dropLast)) = pure true := by
  rw [owner_list_getitem, isSubtype_type]; kernel_rfl
theorem slot_md_get : Slot "method_descriptor" "__get__" "method_descriptor.__get__" :=
  .of (owner := "method_descriptor") (n := "__get__") (by rw [typeLookup_type, builtinLookup_eq_fast]; kernel_rfl) (by decide +kernel) (by decide +kernel) (by decide +kernel)
    (by first | exact .inl (by decide +kernel) | exact .inr (by decide +kernel)) (by rw [isSubtype_type]; kernel_rfl)
theorem no_md_set : typeLookup (.type "method_descriptor") "__set__" = pure none := by rw [typeLookup_type, builtinLookup_eq_fast]; kernel_rfl
theorem no_md_del : typeLookup (.type "method_descriptor") "__delete__" = pure none := by rw [typeLookup_type, builtinLookup_eq_fast]; kernel_rfl
theorem entry_md_get : entryFor table "method_descriptor.__get__" = some Builtin.«method_descriptor.__get__» := entryFor_of_tree (by kernel_rfl)
theorem args_md_get (a b c : Value) : argsOk "method_descriptor.__get__" ⟨[a, b, c], []⟩ := by unfold argsOk; kernel_rfl
theorem lk_list_getattr : typeLookup (.type "list") "__getattribute__" = pure (some (.builtin "list.__getattribute__")) := by rw [typeLookup_type, builtinLookup_eq_fast]; kernel_rfl
end MF
section
variable {prog : Program} {w : World} {A : Around} {E : Value → Shared → Prop} {h : Heap} {g : Array GenState} {d : Drawn} {t : Nat} {os : OsState} {l : Addr} {items : Array Value}
theorem gi_get_list {R : Result → Shared → Prop} {n : Nat} (hl : h.get? l = some { cls := .type "list", data := .seq items n }) (hq : ∀ (v : Addr) h' t', (∀ b o, h.get? b = some o → h'.get? b = some o) → R (.ok (.ret (.ref v))) ⟨h', g, d, t', os⟩) :
    codeAny (model prog w) A (.call (.builtin "method_descriptor.__get__") ⟨[.builtin "list.__getitem__", .ref l, .type "list"], []⟩) R ⟨h, g, d, t, os⟩ := by
  have hT : (⟨h, g, d, t, os⟩ : Shared).TypeIs (.ref l) "list" := ⟨_, hl, rfl⟩
  have hT5 : (⟨h, g, d, t, os⟩ : Shared).TypeIs (.builtin "list.__getitem__") "method_descriptor" := MF.ty_list_getitem
  have f8 := MF.sub_list_getitem_owner
  refine codeAny_call_builtin MF.slot_md_get.plain MF.entry_md_get (MF.slot_md_get.check _ _ _ _ _ _ _ _ hT5 (MF.args_md_get _ _ _) ?_)
  repeat (any_goals (first | assumption | wp_step))
  exact hq _ _ _ (fun b o e => Heap.get?_push_of_some _ e)
theorem gi_entry_list {tk : Tok} {Q : Fin → Shared → Prop} {n : Nat} (hl : h.get? l = some { cls := .type "list", data := .seq items n }) (hq : ∀ (v : Addr) h' t', (∀ b o, h.get? b = some o → h'.get? b = some o) → Q (.done (.ret (.ref v))) ⟨h', g, d, t', os⟩) :
    wpAny (model prog w) A (Builtin.«object.__getattribute__» ⟨[.ref l, .str "__getitem__" tk], []⟩) Q E ⟨h, g, d, t, os⟩ := by
  have hT : (⟨h, g, d, t, os⟩ : Shared).TypeIs (.ref l) "list" := ⟨_, hl, rfl⟩
  have f4 := MF.lk_list_getitem
  have f5 := MF.ty_list_getitem
  have f6 := MF.slot_md_get.lookup
  have f7 := MF.no_md_set
  have f8 := MF.no_md_del
  repeat (any_goals (first | assumption | wp_step))
  refine gi_get_list hl fun v h' t' g => ?_
  repeat (any_goals (first | assumption | wp_step))
  exact hq _ _ _ g
theorem gi_call_list {tk : Tok} {R : Result → Shared → Prop} {n : Nat} (hl : h.get? l = some { cls := .type "list", data := .seq items n }) (hq : ∀ (v : Addr) h' t', (∀ b o, h.get? b = some o → h'.get? b = some o) → R (.ok (.ret (.ref v))) ⟨h', g, d, t', os⟩) :
    codeAny (model prog w) A (.call (.builtin "list.__getattribute__") ⟨[.ref l, .str "__getitem__" tk], []⟩) R ⟨h, g, d, t, os⟩ :=
  codeAny_call_builtin F.slot_list_getattribute.plain F.entry_list_ga (F.slot_list_getattribute.check _ _ _ _ _ _ _ _ (show (⟨h, g, d, t, os⟩ : Shared).TypeIs (.ref l) "list" from ⟨_, hl, rfl⟩) (F.args_list_getattribute_2 _ _) (gi_entry_list hl hq))
theorem gi_by_list {tk : Tok} {Q : Value → Shared → Prop} {n : Nat} (hl : h.get? l = some { cls := .type "list", data := .seq items n }) (hq : ∀ (v : Addr) h' t', (∀ b o, h.get? b = some o → h'.get? b = some o) → Q (.ref v) ⟨h', g, d, t', os⟩) : wpAny (model prog w) A (getAttrBy (.ref l) (.str "__getitem__" tk) false) Q E ⟨h, g, d, t, os⟩ := by
  have hT : (⟨h, g, d, t, os⟩ : Shared).TypeIs (.ref l) "list" := ⟨_, hl, rfl⟩
  have f2 := F.slot_list_getattribute.lookup
  have f3 := F.slot_list_getattribute.bind (.ref l)
  repeat (any_goals (first | assumption | wp_step))
  refine gi_call_list hl fun v h' t' g => ?_
  repeat (any_goals (first | assumption | wp_step))
  exact hq _ _ _ g
theorem gi_opt_list {tk : Tok} {Q : Option Value → Shared → Prop} {n : Nat} (hl : h.get? l = some { cls := .type "list", data := .seq items n }) (hq : ∀ (v : Addr) h' t', (∀ b o, h.get? b = some o → h'.get? b = some o) → Q (some (.ref v)) ⟨h', g, d, t', os⟩) : wpAny (model prog w) A (getAttrBy? (.ref l) (.str "__getitem__" tk)) Q E ⟨h, g, d, t, os⟩ := by
  unfold getAttrBy?
  repeat (any_goals (first | assumption | with_reducible apply gi_by_list hl | wp_step))
  intro v h' t' g
  repeat (any_goals (first | assumption | wp_step))
  exact hq _ _ _ g
theorem gi_has_list {tk : Tok} {Q : Fin → Shared → Prop} {n : Nat} (hl : h.get? l = some { cls := .type "list", data := .seq items n }) (hq : ∀ h' t', (∀ b o, h.get? b = some o → h'.get? b = some o) → Q (.done (.ret (.bool true))) ⟨h', g, d, t', os⟩) :
    wpAny (model prog w) A (Builtin.«hasattr» ⟨[.ref l, .str "__getitem__" tk], []⟩) Q E ⟨h, g, d, t, os⟩ := by
  have hT : (⟨h, g, d, t, os⟩ : Shared).TypeIs (.ref l) "list" := ⟨_, hl, rfl⟩
  unfold Builtin.«hasattr»
  refine wpAny_bind (m := someArgs "hasattr" 2 2 _) (wpAny_pure ?_)
  dsimp only
  refine wpAny_bind (wpAny_mono (Q := fun _ s' => s' = ⟨h, g, d, t, os⟩) (E := fun _ _ => False) (by repeat (any_goals (first | assumption | rfl | wp_step))) ?_ (fun _ _ f => f.elim))
  rintro _ _ rfl
  have e0 : (Value.ref l == Value.builtin "__main__.__loader__#opaque") = false := rfl
  rw [e0]
  simp only [Bool.false_eq_true, if_false]
  refine wpAny_bind (wpAny_typeOf hT ?_)
  dsimp only
  refine wpAny_bind (show wpAny _ _ (pure (some ("__getitem__" : Str))) _ _ _ from wpAny_pure ?_)
  dsimp only
  rw [MF.lk_list_getitem]
  refine wpAny_bind (wpAny_pure ?_)
  dsimp only
  rw [MF.lk_list_getattr]
  refine wpAny_bind (wpAny_pure ?_)
  have e1 : (withoutEnding? "list.__getitem__" "#data").isSome = false := by decide +kernel
  rw [e1]
  simp only [Bool.false_and, Bool.false_eq_true, if_false]
  refine wpAny_bind (show wpAny _ _ (asStr? (Value.str "__getitem__" tk) >>= _) _ _ _ from wpAny_bind (show wpAny _ _ (pure (some ("__getitem__" : Str))) _ _ _ from wpAny_pure ?_))
  dsimp only
  refine wpAny_bind (wpAny_isInstance (T := "list") (U := "module") (b := false) hT (by rw [isSubtype_type]; kernel_rfl) ?_)
  rw [if_pos (by decide)]
  refine wpAny_pure ?_
  rw [if_neg (by decide)]
  refine wpAny_bind (gi_opt_list hl fun v h' t' g => ?_)
  have e2 : ((some (Value.ref v)).isNone && ((0 : Nat) == 2)) = false := rfl
  rw [e2]
  simp only [Bool.false_eq_true, if_false]
  exact wpAny_pure (hq _ _ g)
end
open PySem PyProof.Rows
/-! hasattr(a, '__getitem__') of a text and of a list -/
noncomputable def LV.hasGI : LV → Bool
  | .val (.str _) => true
  | .val (.list _) => true
  | .pla _ => true
  | _ => false
noncomputable def LV.isGI : LV → Bool
  | .val (.str k) => decide (k = ("__getitem__" : Str))
  | _ => false
noncomputable def hasF : List LV → Option MV
  | [x, y] => if x.hasGI = true ∧ y.isGI = true then some (.bool true) else none
  | _ => none
theorem LR.isGI {P : AP} {h : Heap} {T : Nat} {y : LV} {v : Value} (r : LR P h T y v) (e : y.isGI = true) : ∃ u, v = .str "__getitem__" u := by
  cases y with
  | val m =>
    cases m <;> first | (cases e; done) | skip
    obtain ⟨u, rfl⟩ := r
    exact ⟨u, congrArg (fun k => Value.str k u) (of_decide_eq_true e)⟩
  | _ => cases e
theorem LR.hasGI {P : AP} {h : Heap} {T : Nat} {x : LV} {v : Value} (r : LR P h T x v) (e : x.hasGI = true) : (∃ s t, v = .str s t) ∨ ∃ a us n, v = .ref a ∧ h.get? a = some { cls := .type "list", data := .seq us n } := by
  cases x with
  | val m =>
    cases m <;> first | (cases e; done) | skip
    · obtain ⟨t, rfl⟩ := r; exact .inl ⟨_, t, rfl⟩
    · obtain ⟨a, us, rfl, _, ⟨n', ho⟩, _⟩ := r; exact .inr ⟨a, us, n', rfl, ho⟩
  | pla l => obtain ⟨a, us, rfl, ⟨n', ho⟩, _⟩ := r; exact .inr ⟨a, us, n', rfl, ho⟩
  | _ => cases e
theorem hasF_some {lvs : List LV} {m : MV} (h : hasF lvs = some m) : ∃ x y, lvs = [x, y] ∧ x.hasGI = true ∧ y.isGI = true ∧ m = .bool true := by
  obtain _ | ⟨x, _ | ⟨y, _ | ⟨z, l⟩⟩⟩ := lvs
  · cases h
  · cases h
  · by_cases c : x.hasGI = true ∧ y.isGI = true
    · exact ⟨x, y, rfl, c.1, c.2, (Option.some.inj ((if_pos c).symm.trans h)).symm⟩
    · have h' : (none : Option MV) = some m := (if_neg c).symm.trans h
      cases h'
  · cases h
theorem ok_hasattr (W : Wd) (n : Nat) : CallOK W n (.builtin "hasattr") hasF := by
  intro A P s lvs vs m E Q X pr hm q
  obtain ⟨x, y, rfl, hx, hy, rfl⟩ := hasF_some hm
  cases pr with
  | cons rx r => cases r with
    | cons ry r =>
      cases r
      obtain ⟨u, rfl⟩ := ry.isGI hy
      rcases rx.hasGI hx with ⟨s', t, rfl⟩ | ⟨a, us, n', rfl, ho⟩
      · refine mono_toks' fun E' => Calls.call_function_entry MF.kind_hasattr MF.plain_hasattr MF.entry_hasattr (MF.args_hasattr _ _) (gi_has_str fun h' t' g => ?_)
        exact ⟨_, rfl, fun ht => q _ h' t' g ht rfl⟩
      · refine mono_toks' fun E' => Calls.call_function_entry MF.kind_hasattr MF.plain_hasattr MF.entry_hasattr (MF.args_hasattr _ _) (gi_has_list ho fun h' t' g => ?_)
        exact ⟨_, rfl, fun ht => q _ h' t' g ht rfl⟩
end Mine
end
section
open PySem PySem.W PyProof.Rows PySem.Calls
set_option Elab.async false
set_option linter.unusedVariables false
set_option linter.unusedSimpArgs false
namespace Mine
section
variable {W : Wd} {n : Nat} {C : Scope} {sl : List Str}
noncomputable def texts : List MV → Option (List Str)
  | [] => some []
  | .str s :: ms => (texts ms).map (s :: ·)
  | _ :: _ => none
theorem VRs.texts {P : AP} {h : Heap} {T : Nat} : ∀ {ms : List MV} {vs : List Value} {ys : List Str}, VRs P h T ms vs → texts ms = some ys → StrsAre vs ys
  | [], _, _, x, e => by cases x; cases e; exact .nil
  | m :: ms, _, _, ⟨v, r, e, x, y⟩, q => by
    subst e
    cases m <;> first | (simp [Mine.texts] at q; done) | skip
    rename_i s
    cases hs : Mine.texts ms with
    | none => simp [Mine.texts, hs] at q
    | some k =>
      simp [Mine.texts, hs] at q; subst q
      obtain ⟨t, rfl⟩ := x
      exact .cons _ _ (VRs.texts y hs)
noncomputable def joinF (sep : Str) : LV → Option MV := fun lv => match lv.list? with
  | some l => (match texts l with
    | some ys => if (ys.map (·.length)).sum + ys.length * sep.length ≤ 16777216 then some (.str (Txt.join sep ys)) else none
    | none => none)
  | none => none
noncomputable abbrev Few (args : List Expr) (pos : Pos) : Prop := ∀ env, ((backTo pos (starEach args env)).all (fun x => !x.1) && (backToKw pos (keywordEach [] env)).all (fun x => x.1.isSome)
      && decide (args.length + ([] : List Keyword).length + (if ([] : List Keyword).isEmpty then 0 else 1) < 30)) = true
theorem den_join {sep : Str} {k : Nat} {sp ap pos : Pos} {e : Expr} {f : LF} (hfew : Few [e] pos) (hline : (ap.endLine == pos.line) = true) (h1 : OneArg [e]) (hs : ∀ env, starEach [e] env = (false, eval e env) :: starEach [] env) (D : DenA W n C sl e f) :
    DenE W n C sl (.Call (.Attribute (.Constant (.str sep) k sp) "join" ap) [e] [] pos) (fun ℓ => (f ℓ).bind (joinF sep)) := by
  intro A env P ℓ s m E Q X R hm q
  dsimp only at hm
  cases hf : f ℓ with
  | none => simp [hf] at hm
  | some lv =>
    rw [hf, Option.bind_some] at hm
    unfold joinF at hm
    split at hm
    · rename_i l hl
      split at hm
      · rename_i ys hys
        split at hm
        · rename_i hz
          cases hm
          refine wpAny_Call_method (T := "str") (id := "str.join") rfl (hfew env) hline F.plainAttrs_str F.slot_str_join F.type_str_join ?_
          refine wpAny_Constant_str ⟨typeIs_str _ _ _, fun a e => (by cases e), ?_⟩
          obtain ⟨x, rest, e1, hr⟩ := h1 env pos
          have Dl : DenLA W n C sl [e] (cons2 f fun _ => some []) := den_consA D (den_nilA (W := W) (n := n) (C := C) (sl := sl)) hs
          have main : wpAny (model W.prog W.w) A (spliced (backTo pos (starEach [e] env))) (fun vs s₁ => wpAny (model W.prog W.w) A (call (.builtin "str.join") (.str sep s.toks :: vs)) Q E s₁) E { s with toks := s.toks + 1 } := by
            refine Dl (s := { s with toks := s.toks + 1 }) (ms := [lv]) (X.grow (Grow.refl _) (Nat.le_succ _)) (R.grow (fun a p => p) (Grow.refl _) (Nat.le_succ _)) (by simp [cons2, hf]) fun vs h₁ tk₁ g₁ t₁ p => ?_
            cases p with
            | cons rx r =>
              cases r
              obtain ⟨a, us, rfl, hL, rs⟩ := rx.list hl
              have t₁' : s.toks + 1 ≤ tk₁ := t₁
              refine mono_toks' fun E' => join_list (s := { s with heap := h₁, toks := tk₁ }) hL (rs.texts hys) hz fun t' k ht' => ?_
              have ht'' : tk₁ ≤ k := ht'
              exact q _ h₁ k g₁ (by omega) ⟨t', rfl⟩
          rw [e1] at main ⊢
          exact callWith_builtin (by simpa using hr) (evalArgs_plain main)
        · cases hm
      · cases hm
    · cases hm
noncomputable def replF (y z : Str) : MV → Option MV := fun m => match m with
  | .str x => if x.length + (x.length + 1) * z.length ≤ 16777216 then some (.str (Txt.replace x y z)) else none
  | _ => none
theorem den_replace {o : Expr} {y z : Str} {k1 k2 : Nat} {p1 p2 ap pos : Pos} {f : MF} (hbase : ∀ env, attributeBase o "replace" env (eval o env) = eval o env) (hfew : Few [.Constant (.str y) k1 p1, .Constant (.str z) k2 p2] pos) (hline : (ap.endLine == pos.line) = true)
    (hyz : (y == z) = false) (D : DenE W n C sl o f) :
    DenE W n C sl (.Call (.Attribute o "replace" ap) [.Constant (.str y) k1 p1, .Constant (.str z) k2 p2] [] pos) (fun ℓ => (f ℓ).bind (replF y z)) := by
  intro A env P ℓ s m E Q X R hm q
  dsimp only at hm
  cases hf : f ℓ with
  | none => simp [hf] at hm
  | some mv =>
    rw [hf, Option.bind_some] at hm
    unfold replF at hm
    split at hm
    · rename_i x
      split at hm
      · rename_i hz
        cases hm
        refine wpAny_Call_method (T := "str") (id := "str.replace") (hbase env) (hfew env) hline F.plainAttrs_str F.slot_str_replace F.type_str_replace ?_
        refine D X R hf fun v h₁ tk₁ g₁ t₁ r => ?_
        obtain ⟨t, rfl⟩ := r
        refine ⟨typeIs_str _ _ _, fun a e => (by cases e), ?_⟩
        have htr : backTo pos (starEach [.Constant (.str y) k1 p1, .Constant (.str z) k2 p2] env) = [(false, eval (.Constant (.str y) k1 p1) env), (false, eval (.Constant (.str z) k2 p2) env)] := rfl
        rw [htr]
        have tp : 0 < tk₁ := Nat.lt_of_lt_of_le X.tok t₁
        refine callWith_builtin rfl (evalArgs_plain (spliced_cons (wpAny_Constant_str (spliced_cons (wpAny_Constant_str (spliced_nil ?_))))))
        refine mono_toks' fun E' => SC.replace (Nat.ne_of_gt tp) (Nat.succ_ne_zero _) (Nat.ne_of_lt (Nat.lt_succ_self _)) hyz hz fun t' k ht' => ?_
        have ht'' : tk₁ + 1 + 1 ≤ k := ht'
        exact q _ h₁ k g₁ (by omega) ⟨t', rfl⟩
      · cases hm
    · cases hm
end
end Mine
end
section
open PySem PySem.W PyProof.Rows PySem.Calls
set_option Elab.async false
set_option linter.unusedVariables false
set_option linter.unusedSimpArgs false
namespace Mine
/-! a list times a number -/
noncomputable def repA (vs : Array Value) (k : Int) : Array Value := List.foldl (fun x1 x2 => x1 ++ x2) #[] (List.replicate k.toNat vs)
theorem foldl_app (l : List (Array Value)) : ∀ a : Array Value, (l.foldl (fun x1 x2 => x1 ++ x2) a).toList = a.toList ++ (l.map (·.toList)).flatten := by
  induction l with
  | nil => intro a; simp
  | cons b l ih => intro a; rw [List.foldl_cons, ih]; simp
theorem repA_toList (vs : Array Value) (k : Int) : (repA vs k).toList = (List.replicate k.toNat vs.toList).flatten := by
  unfold repA; rw [foldl_app]; simp
theorem VRs.rep {P : AP} {h : Heap} {T : Nat} {ms : List MV} {vs : List Value} (x : VRs P h T ms vs) : ∀ k : Nat, VRs P h T (List.replicate k ms).flatten (List.replicate k vs).flatten
  | 0 => rfl
  | k + 1 => by
    rw [List.replicate_succ, List.flatten_cons, List.replicate_succ, List.flatten_cons]
    exact VRs.append x (VRs.rep x k)
noncomputable def repF : LV → LV → Option MV := fun x y => match x.mv, y.num with
  | some (.list l), some k => if l.length ≤ 1000 ∧ -1000 ≤ k ∧ k ≤ 1000 then some (.list (List.replicate k.toNat l).flatten) else none
  | _, _ => none
theorem mul_bound {n : Nat} {k : Int} (h1 : n ≤ 1000) (h2 : k ≤ 1000) : n * k.toNat ≤ 1000000 := Nat.le_trans (Nat.mul_le_mul h1 (show k.toNat ≤ 1000 by omega)) (by decide)
theorem ok_rep (W : Wd) : BinOK W (binaryOp .Mult) repF := by
  intro A P s x y va vb m E Q hh hu ht rx ry e q
  unfold repF at e
  split at e
  · rename_i l k hx hk
    split at e
    · rename_i hc
      cases e
      obtain ⟨u, rfl⟩ := ry.num hk
      have hP : ∃ a vs, va = .ref a ∧ s.heap.PlainList a vs ∧ VRs P s.heap s.toks l vs.toList := by
        cases x with
        | undef => cases hx
        | val m => cases hx; obtain ⟨a, vs, e, _, r⟩ := rx; exact ⟨a, vs, e, r⟩
        | ali => cases hx
        | pla l2 => cases hx; exact rx
        | own l2 => cases hx; exact rx
      obtain ⟨a, vs, rfl, ⟨n', ho⟩, r⟩ := hP
      have hl : vs.size = l.length := by rw [← r.length, Array.length_toList]
      have hb := mul_bound (n := vs.size) (k := k) (by omega) hc.2.2
      refine wpAny_binaryOp_repeat_ref (T := "list") (U := "int") (by decide) ⟨_, ho, rfl⟩ (fun s' => typeIs_int s' k u) noFill_list_mul F.fills_int_mul F.slot_int_rmul repeat_list F.slot_int_index.lookup
        (call_meets F.slot_int_rmul (typeIs_int s k u) F.entry_int_rmul (F.args_int_rmul_2 _ _) (int___rmul___int_list k u a vs n')
          ⟨ho, rfl, ⟨_, ho, rfl⟩, call_meets F.slot_list_mul ⟨_, ho, rfl⟩ F.entry_list_mul (F.args_list_mul_2 _ _)
            (AutoListH.list___mul___list_int_3 a vs n' k u (by simp [Builtin.List.listFitsIndex]; omega) (by omega) (by simp [Builtin.List.listTooLong, sizeLine]; omega))
            ⟨ho, ?_⟩⟩)
      refine q _ _ s.toks (Grow.push _ _) (Nat.le_refl _) ⟨_, _, rfl, .inr (none_of_size (Grow.refl _)), plain_new .., ?_⟩
      have key : (List.foldl (fun x1 x2 => x1 ++ x2) #[] (List.replicate (if vs.isEmpty = true then 0 else k.toNat) vs)).toList = (List.replicate k.toNat vs.toList).flatten := by
        rw [foldl_app]
        by_cases he : vs.isEmpty = true
        · have : vs = #[] := by simpa using he
          subst this; simp
        · simp [he]
      rw [key]
      exact VRs.sub (fun a p => PF.sub p) (VRs.grow (Grow.push _ _) (Nat.le_refl _) (r.rep _))
    · cases e
  · cases e
/-- two rules for one operator -/
noncomputable def orF (F G : LV → LV → Option MV) : LV → LV → Option MV := fun x y => match F x y with
  | some m => some m
  | none => G x y
theorem BinOK.or {W : Wd} {op} {F G} (h1 : BinOK W op F) (h2 : BinOK W op G) : BinOK W op (orF F G) := by
  intro A P s x y va vb m E Q hh hu ht rx ry e q
  unfold orF at e
  split at e
  · rename_i m' hm
    cases e
    exact h1 hh hu ht rx ry hm q
  · exact h2 hh hu ht rx ry e q
/-- a sum of lists is a new list -/
noncomputable def BinOKN (W : Wd) (op : Value → Value → Sem Value) (F : LV → LV → Option (List MV)) : Prop :=
  ∀ {A : Around} {P : AP} {s : Shared} {x y : LV} {va vb : Value} {m : List MV} {E : Value → Shared → Prop} {Q : Value → Shared → Prop},
    A.handled = none → 0 < s.toks → LR P s.heap s.toks x va → LR P s.heap s.toks y vb → F x y = some m →
    (∀ a vs h' tk P', (∀ b, P' b → PF P s.heap b) → ¬ P' a → s.heap.get? a = none → Grow s.heap h' → s.toks ≤ tk → h'.PlainList a vs → VRs P' h' tk m vs.toList → Q (.ref a) { s with heap := h', toks := tk }) → wpAny (model W.prog W.w) A (op va vb) Q E s
noncomputable def addLF : LV → LV → Option (List MV) := fun x y => match x.list?, y.list? with
  | some l, some k => if szOK l && szOK k then some (l ++ k) else none
  | _, _ => none
theorem ok_addN (W : Wd) : BinOKN W (binaryOp .Add) addLF := by
  intro A P s x y va vb m E Q hh ht rx ry e q
  unfold addLF at e
  split at e
  · rename_i l k hl hk
    split at e
    · rename_i hc
      cases e
      obtain ⟨a, vs, rfl, hL, r⟩ := rx.list hl
      obtain ⟨b, us, rfl, hK, r2⟩ := ry.list hk
      rw [Bool.and_eq_true] at hc
      have h1 : l.length ≤ 65536 := by simpa [szOK] using hc.1
      have h2 : k.length ≤ 65536 := by simpa [szOK] using hc.2
      have e1 : vs.size = l.length := by rw [← r.length, Array.length_toList]
      have e2 : us.size = k.length := by rw [← r2.length, Array.length_toList]
      refine add_lists_raw hL hK (by rw [sizeLine_eq]; omega) ?_
      refine newN (s := s) (vs := vs ++ us) (Grow.refl _) (Nat.le_refl _) ?_ q
      rw [Array.toList_append]
      exact VRs.sub (fun a p => PF.sub p) (r.append r2)
    · cases e
  · cases e
section
variable {W : Wd} {n : Nat} {C : Scope} {sl : List Str}
theorem den_binN {a b : Expr} {op} {pos} {fa fb : LF} {F : LV → LV → Option (List MV)} (Da : DenA W n C sl a fa) (Db : DenA W n C sl b fb) (hF : BinOKN W (binaryOp op) F) :
    DenN W n C sl (.BinOp a op b pos) (bind2 F fa fb) := by
  intro A env P ℓ s m E Q X R e q
  obtain ⟨x, y, ha, hb, hm⟩ := bind2_some e
  refine wpAny_BinOp (two_operands Da Db X R ha hb fun va vb h' tk g t ra rb => ?_)
  refine hF (s := { s with heap := h', toks := tk }) X.handled (Nat.lt_of_lt_of_le X.tok t) ra rb hm fun a vs h₂ tk₂ P' h1 h2 h3 g₂ t₂ l r => ?_
  refine q a vs h₂ tk₂ P' (fun b p => PF.sub2 g (h1 b p)) h2 ?_ (g.trans g₂) (Nat.le_trans t t₂) l r
  cases e : s.heap.get? a with
  | none => rfl
  | some o => rw [g a o e] at h3; cases h3
theorem den_truth {e : Expr} {f : MF} (he : ∀ env whole, isTrue e env whole = (do let v ← whole; standAt e.pos; holding [v] (truthy v))) (D : DenE W n C sl e f) :
    DenT W n C sl e (fun ℓ => match f ℓ with | some (.bool b) => some b | _ => none) := by
  intro A env P ℓ s b E Q X R hm q
  dsimp only at hm
  split at hm
  · rename_i c hc
    cases hm
    refine wpAny_isTrue_value (D X R hc fun v h' tk g t r => ?_) (he env _)
    cases r
    exact wpAny_truthy_bool (q h' tk g t)
  · cases hm
theorem den_never {ss : List Stmt} : DenS W n C sl ss (fun _ => none) := by
  intro A env hE P0 P X μ ℓ s out E Q Y S ht e q
  cases e
/-- a def that gives a new list in its second statement -/
theorem fn_okN2 {d : DefRec} {a : Addr} {n k : Nat} {ps sl : List Str} {st : Stmt} {e : Expr} {p : Pos} {g : SF} {f} (O : W.Ok) (F : FnObj W d a) (hchk : fnOK d ps sl = true) (hlen : sl.length = ps.length + k)
    (hb : ∀ pm code doc vs, vs.length = ps.length → bindArgs (docDef d.name d.params d.body d.scope pm code doc) ⟨vs, []⟩ = pure (ps.zip vs)) (hbody : d.body = [st, .Return (some e) p])
    (D1 : DenX W.w0 n d.scope sl st g) (D2 : DenN W.w0 n d.scope sl e f) : CallOKN W (n + 1) (.ref a) (fun lvs => if lvs.length = ps.length then (match g (initL lvs k) with | some (.next ℓ) => f ℓ | _ => none) else none) := by
  intro A P s lvs vs m E Q X pr hm q
  dsimp only at hm
  split at hm
  case isFalse => cases hm
  rename_i hl
  split at hm
  case h_2 => cases hm
  rename_i ℓ hg
  refine fn_enter O F hchk hlen hb X pr hl fun env h₁ tk₁ X' Y S ht₁' => ?_
  rw [hbody]
  refine wpAny_execs_cons (D1 (s := { s with heap := h₁, toks := tk₁ }) Y S (Nat.lt_of_lt_of_le X.tok ht₁') hg fun P1 X1 μ1 h1 tk1 S1 t1 k1 x1 => ?_)
  have t1' : tk₁ ≤ tk1 := t1
  have tp : 0 < tk1 := Nat.lt_of_lt_of_le X.tok (Nat.le_trans ht₁' t1')
  refine wpAny_execs_cons (wpAny_Return_some (D2 (s := { s with heap := h1, toks := tk1 }) (S1.cx Y tp) S1.toL hm fun a vs h' tk P' p1 p2 p3 g t l r => ?_))
  refine q a vs h' tk P' (fun b p => (S1.pf (Grow.refl _) (Nat.le_refl _)).PE b (p1 b p)) p2 (S1.grow.none p3) (fun b o e => g b o ((S1.grow b o e).1 fun f => f)) (Nat.le_trans ht₁' (Nat.le_trans t1' t)) l r
end
end Mine
end
section
open PySem PySem.W PyProof.Rows PySem.Calls
set_option Elab.async false
set_option linter.unusedVariables false
set_option linter.unusedSimpArgs false
namespace Mine
section
variable {prog : Program} {w : World} {A : Around} {E : Value → Shared → Prop} {s : Shared}
theorem imul_list {z : Addr} {vs : Array Value} {k : Int} {u : Tok} {Q : Value → Shared → Prop} (hz : s.heap.PlainList z vs) (hv : vs.size ≤ 1000) (hk1 : -1000 ≤ k) (hk : k ≤ 1000)
    (q : ∀ h', h'.PlainList z (repA vs k) → Heap.SameBut z s.heap h' → Q (.ref z) { s with heap := h' }) : wpAny (model prog w) A (inplaceOp .Mult (.ref z) (.int k u)) Q E s := by
  obtain ⟨n', ho⟩ := hz
  have hT : s.TypeIs (.ref z) "list" := ⟨_, ho, rfl⟩
  have hb := mul_bound (n := vs.size) (k := k) hv hk
  unfold inplaceOp
  refine wpAny_holding ?_
  have hfi : fillsInplaceSlot (.type "list") "mul" (Operator.Mult == .Add) = pure false := by
    unfold fillsInplaceSlot
    show (typeLookup (.type "list") (dunderI "mul") >>= fun fi => pure (fi.isSome && !isSeqSlot fi)) = pure false
    rw [F.slot_list_imul.lookup]
    rw [pure_bind]
    have e : ((some (Value.builtin "list.__imul__")).isSome && !isSeqSlot (some (.builtin "list.__imul__"))) = false := by decide +kernel
    rw [e]
  have hsi : seqSlot? (.type "list") (dunderI "mul") = pure (some (.builtin "list.__imul__")) := PySem.seqSlot_of F.slot_list_imul.lookup (by decide +kernel)
  refine wpAny_bind (wpAny_typeOf hT (wpAny_bind (wpAny_of_eq hfi ?_)))
  show wpAny _ A (if false = true then _ else _) Q E s
  rw [if_neg Bool.false_ne_true]
  refine wpAny_bind (wpAny_binaryOp1_right_declines (T := "list") (U := "int") (nm := "mul") (by decide) hT (typeIs_int s k u) noFill_list_mul F.fills_int_mul F.slot_int_rmul
    (call_meets F.slot_int_rmul (typeIs_int s k u) F.entry_int_rmul (F.args_int_rmul_2 _ _) (int___rmul___int_list k u z vs n') ⟨ho, rfl, ?_⟩))
  refine wpAny_bind (wpAny_of_eq hsi ?_)
  unfold sequenceRepeat
  refine wpAny_bind (wpAny_specialOf (typeIs_int s k u) F.slot_int_index.lookup ?_)
  refine wpAny_bind (wpAny_rule ?_)
  have hfit : ¬(!Builtin.List.listFitsIndex k) = true := by simp [Builtin.List.listFitsIndex]; omega
  by_cases h1 : (vs.size == 0 || k == 1) = true
  · refine call_meets F.slot_list_imul hT F.entry_list_imul (F.args_list_imul_2 _ _) (AutoListH.list___imul___list_int_1 z vs n' k u hfit h1) ⟨ho, ?_⟩
    refine q s.heap ⟨n', ?_⟩ (Heap.SameBut.refl ..)
    have : repA vs k = vs := by
      rw [Bool.or_eq_true, beq_iff_eq, beq_iff_eq] at h1
      apply Array.ext'
      rw [repA_toList]
      rcases h1 with h | h
      · have : vs = #[] := by simpa using h
        subst this; simp
      · subst h; simp
    rw [this]; exact ho
  · by_cases h2 : k < 1
    · refine call_meets F.slot_list_imul hT F.entry_list_imul (F.args_list_imul_2 _ _) (AutoSeq1.list___imul___list_int_2 z vs n' k u hfit h1 h2 (by rw [sizeLine_eq]; omega)) ⟨ho, ?_⟩
      have e2 : repA vs k = #[] := by apply Array.ext'; rw [repA_toList, show k.toNat = 0 by omega]; rfl
      rw [e2] at q
      exact q _ ⟨_, get?_update_seq ho (fun _ => #[])⟩ (Heap.SameBut.update ..)
    · refine call_meets F.slot_list_imul hT F.entry_list_imul (F.args_list_imul_2 _ _) (AutoListH.list___imul___list_int_5 z vs n' k u hfit h1 h2 (by omega) (by simp [Builtin.List.listTooLong, sizeLine]; omega)) ⟨ho, ?_⟩
      exact q _ ⟨_, get?_update_seq ho (fun xs => List.foldl (fun x1 x2 => x1 ++ x2) #[] (List.replicate k.toNat xs))⟩ (Heap.SameBut.update ..)
end

section
variable {W : Wd} {n : Nat} {C : Scope} {sl : List Str}
theorem kind_of {C : Scope} {env : Env} {x : Str} {k : NameKind} (h1 : env.scope = C) (h2 : C.names.lookup x = some k) : env.kindOf x = some k := by unfold Env.kindOf; rw [h1]; exact h2
theorem Has.at_local {env : Env} {h : Heap} {x : Str} {v : Value} (H : Has env h x v) (hk : env.kindOf x = some .local) : ∃ m, h.Ns env.locals m ∧ m x = some v := by
  rcases H with ⟨_, m, hn, e⟩ | ⟨k | k, _⟩
  · exact ⟨m, hn, e⟩
  · rw [hk] at k; cases k
  · rw [hk] at k; cases k
theorem ns_safe {h : Heap} {L z : Addr} {m vs} (x : h.Ns L m) (y : h.PlainList z vs) : L ≠ z := fun q => ns_not_list x (q ▸ y.isList)
theorem imul_call {d : DefRec} {f : Addr} {p1 p2 p3 p4 p5 : Pos} (O : W.Ok) (F : FnObj W d f) (hchk : fnOK d ["a", "b"] ["a", "b"] = true)
    (hb : ∀ pm code doc vs, vs.length = (["a", "b"] : List Str).length → bindArgs (docDef d.name d.params d.body d.scope pm code doc) ⟨vs, []⟩ = pure ((["a", "b"] : List Str).zip vs))
    (hbody : d.body = [.AugAssign (.Name "a" p1) .Mult (.Name "b" p2) p3, .Return (some (.Name "a" p4)) p5]) (ha : d.scope.names.lookup ("a" : Str) = some .local) (hbb : d.scope.names.lookup ("b" : Str) = some .local)
    {A : Around} {s : Shared} {z : Addr} {vs : Array Value} {k : Int} {t : Tok} {E : Value → Shared → Prop} {Q : Value → Shared → Prop} (X : Cs W (n + 1) A s.heap s.toks) (hz : s.heap.PlainList z vs) (hv : vs.size ≤ 1000) (hk1 : -1000 ≤ k) (hk : k ≤ 1000)
    (q : ∀ h' tk, (∀ b o, b ≠ z → s.heap.get? b = some o → h'.get? b = some o) → s.toks ≤ tk → h'.PlainList z (repA vs k) → Q (.ref z) { s with heap := h', toks := tk }) :
    wpAny (model W.prog W.w) A (call (.ref f) [.ref z, .int k t]) Q E s := by
  have pr : Paired (LR (fun _ => False) s.heap s.toks) [.val (.opq (.ref z)), .val (.opq (.int k t))] [.ref z, .int k t] := .cons rfl (.cons rfl .nil)
  refine fn_enter (k := 0) O F hchk rfl hb X pr rfl fun env h₁ tk₁ X' Y S ht₁' => ?_
  rw [hbody]
  have ka := kind_of Y.scope ha
  have kb := kind_of Y.scope hbb
  have hkf : env.scope.kind = .function := by rw [Y.scope]; exact Y.kind
  have hkp : (env.scope.kind == .class || (env.scope.kind == .module && env.locals != env.globals)) = false := by rw [hkf]; rfl
  rcases S.slot 0 "a" (.val (.opq (.ref z))) rfl rfl with u | ⟨va, Ha, ra, _⟩
  · cases u
  rcases S.slot 1 "b" (.val (.opq (.int k t))) rfl rfl with u | ⟨vb, Hb, rb, _⟩
  · cases u
  cases ra
  cases rb
  obtain ⟨m, hn, ea⟩ := Ha.at_local ka
  obtain ⟨m', hn', eb⟩ := Hb.at_local kb
  have hz1 : h₁.PlainList z vs := by obtain ⟨c, e⟩ := hz; exact ⟨c, (S.grow _ _ e).1 fun f => f⟩
  refine wpAny_execs_cons (wpAny_AugAssign_Name (wpAny_loadName_local hkf ka hn ea (wpAny_Name (wpAny_loadName_local hkf kb hn' eb ?_) (by decide))))
  refine imul_list (s := { s with heap := h₁, toks := tk₁ }) hz1 hv hk1 hk fun h₂ hz2 sb2 => ?_
  have hn2 : h₂.Ns env.locals m := hn.sameBut sb2 (ns_safe hn hz1)
  refine wpAny_storeName_local ka hn2 (fun h₃ hn3 sb3 => ?_) hkp
  refine wpAny_execs_cons (wpAny_Return_some (wpAny_Name (wpAny_loadName_local hkf ka hn3 (if_pos rfl) ?_) (by decide)))
  have hz3 : h₃.PlainList z (repA vs k) := by obtain ⟨c, e⟩ := hz2; exact ⟨c, sb3.extBut _ _ (Ne.symm (ns_safe hn hz1)) e⟩
  refine q h₃ _ (fun b o hbz e => ?_) (Nat.le_succ_of_le ht₁') hz3
  have e1 := (S.grow b o e).1 fun f => f
  have e2 := sb2.extBut b o hbz e1
  exact sb3.extBut b o (fun q => by subst q; have := S.XE _ S.frm.1; rw [e] at this; cases this) e2
/-- imul([...], e) : a new list -/
theorem den_imul {d : DefRec} {f : Addr} {p1 p2 p3 p4 p5 : Pos} (O : W.Ok) (F : FnObj W d f) (hg : GName W "imul" (.ref f)) (hchk : fnOK d ["a", "b"] ["a", "b"] = true)
    (hb : ∀ pm code doc vs, vs.length = (["a", "b"] : List Str).length → bindArgs (docDef d.name d.params d.body d.scope pm code doc) ⟨vs, []⟩ = pure ((["a", "b"] : List Str).zip vs))
    (hbody : d.body = [.AugAssign (.Name "a" p1) .Mult (.Name "b" p2) p3, .Return (some (.Name "a" p4)) p5]) (ha : d.scope.names.lookup ("a" : Str) = some .local) (hbb : d.scope.names.lookup ("b" : Str) = some .local)
    {np pos : Pos} {e1 e2 : Expr} {g1 : List LV → Option (List MV)} {g2 : MF} (hx : C.names.lookup ("imul" : Str) = some .globalImplicit) (h1 : OneArg [e1, e2]) (hs : ∀ env, starEach [e1, e2] env = [(false, eval e1 env), (false, eval e2 env)])
    (D1 : DenN W (n + 1) C sl e1 g1) (D2 : DenE W (n + 1) C sl e2 g2) :
    DenN W (n + 1) C sl (.Call (.Name "imul" np) [e1, e2] [] pos) (fun ℓ => match g1 ℓ, g2 ℓ with
      | some l, some m => (match m.num with
        | some k => if l.length ≤ 1000 ∧ -1000 ≤ k ∧ k ≤ 1000 then some (List.replicate k.toNat l).flatten else none
        | none => none)
      | _, _ => none) := by
  intro A env P ℓ s m E Q X R hm q
  dsimp only at hm
  split at hm
  case h_2 => cases hm
  rename_i l mk hl hmk
  split at hm
  case h_2 => cases hm
  rename_i k hk
  split at hm
  case isFalse => cases hm
  rename_i hc
  cases hm
  refine Call_Name (trees := backTo pos (starEach [e1, e2] env)) rfl (load_g O X hx (by decide) hg (call_form X F.form h1 ?_))
  have htr : backTo pos (starEach [e1, e2] env) = [(false, eval e1 env), (false, eval e2 env)] := by rw [hs]; rfl
  rw [htr]
  refine spliced_cons (D1 X R hl fun z vs h₁ tk₁ P' c1 c2 c3 g₁ t₁ hz r => ?_)
  refine spliced_cons (D2 (P := P) (s := { s with heap := h₁, toks := tk₁ }) (X.grow g₁ t₁) (R.grow (fun a p => p) g₁ t₁) hmk fun v h₂ tk₂ g₂ t₂ r₂ => ?_)
  refine spliced_nil ⟨g₁.trans g₂, ?_⟩
  obtain ⟨t, rfl⟩ := r₂.num hk
  have t₁' : s.toks ≤ tk₁ := t₁
  have t₂' : tk₁ ≤ tk₂ := t₂
  have hz2 : h₂.PlainList z vs := by obtain ⟨c, e⟩ := hz; exact ⟨c, g₂ _ _ e⟩
  have hsz : vs.size = l.length := by rw [← r.length, Array.length_toList]
  refine imul_call (s := { s with heap := h₂, toks := tk₂ }) O F hchk hb hbody ha hbb (X.grow (g₁.trans g₂) (Nat.le_trans t₁' t₂')).cs hz2 (by omega) hc.2.1 hc.2.2 fun h₃ tk₃ k3 t₃ hz3 => ?_
  have t₃' : tk₂ ≤ tk₃ := t₃
  have gg : Grow s.heap h₃ := fun b o e => k3 b o (fun q => by subst q; rw [c3] at e; cases e) (g₂ _ _ (g₁ _ _ e))
  refine q z _ h₃ tk₃ P' c1 c2 c3 gg (Nat.le_trans t₁' (Nat.le_trans t₂' t₃')) hz3 ?_
  rw [repA_toList]
  refine VRs.rep (VRs.mono (fun _ p => p) (fun b o p e => ?_) (Nat.le_trans t₂' t₃') r) _
  exact k3 b o (fun q => c2 (q ▸ p)) (g₂ _ _ e)
end
end Mine
end
section
open PySem PySem.W PyProof.Rows PySem.Calls
set_option Elab.async false
set_option linter.unusedVariables false
set_option linter.unusedSimpArgs false
namespace Mine
section
variable {W : Wd} {n : Nat} {C : Scope} {sl : List Str}
theorem seqIndex_nonneg {k : Int} {n : Nat} (h0 : 0 ≤ k) (h1 : k < n) : seqIndex? k n = some k.toNat := by
  have e : ¬ k < 0 := by omega
  simp only [seqIndex?, e, ↓reduceIte]
  have h2 : (decide (0 ≤ k) && decide (k < (n : Int))) = true := by simp; omega
  first | (rw [if_pos h2]; done) | (simp; omega)
theorem delitem_call {d : DefRec} {f : Addr} {p1 p2 p3 p4 : Pos} (O : W.Ok) (F : FnObj W d f) (hchk : fnOK d ["a", "b"] ["a", "b"] = true)
    (hb : ∀ pm code doc vs, vs.length = (["a", "b"] : List Str).length → bindArgs (docDef d.name d.params d.body d.scope pm code doc) ⟨vs, []⟩ = pure ((["a", "b"] : List Str).zip vs))
    (hbody : d.body = [.Delete [.Subscript (.Name "a" p1) (.Name "b" p2) p3] p4]) (ha : d.scope.names.lookup ("a" : Str) = some .local) (hbb : d.scope.names.lookup ("b" : Str) = some .local)
    {A : Around} {s : Shared} {z : Addr} {vs : Array Value} {k : Int} {t : Tok} {E : Value → Shared → Prop} {Q : Value → Shared → Prop} (X : Cs W (n + 1) A s.heap s.toks) (hz : s.heap.PlainList z vs) (hv : vs.size ≤ 65536) (hk1 : 0 ≤ k) (hk : k < vs.size)
    (q : ∀ h' tk, (∀ b o, b ≠ z → s.heap.get? b = some o → h'.get? b = some o) → s.toks ≤ tk → h'.PlainList z (vs.toList.eraseIdx k.toNat).toArray → Q .none { s with heap := h', toks := tk }) :
    wpAny (model W.prog W.w) A (call (.ref f) [.ref z, .int k t]) Q E s := by
  have pr : Paired (LR (fun _ => False) s.heap s.toks) [.val (.opq (.ref z)), .val (.opq (.int k t))] [.ref z, .int k t] := .cons rfl (.cons rfl .nil)
  refine fn_enter (k := 0) O F hchk rfl hb X pr rfl fun env h₁ tk₁ X' Y S ht₁' => ?_
  rw [hbody]
  have ka := kind_of Y.scope ha
  have kb := kind_of Y.scope hbb
  have hkf : env.scope.kind = .function := by rw [Y.scope]; exact Y.kind
  rcases S.slot 0 "a" (.val (.opq (.ref z))) rfl rfl with u | ⟨va, Ha, ra, _⟩
  · cases u
  rcases S.slot 1 "b" (.val (.opq (.int k t))) rfl rfl with u | ⟨vb, Hb, rb, _⟩
  · cases u
  cases ra
  cases rb
  obtain ⟨m, hn, ea⟩ := Ha.at_local ka
  obtain ⟨m', hn', eb⟩ := Hb.at_local kb
  obtain ⟨c, e0⟩ := hz
  have hz1 := (S.grow _ _ e0).1 fun f => f
  refine wpAny_execs_cons (wpAny_Delete (wpAny_deleteEach_cons (wpAny_delete_Subscript (wpAny_Name (wpAny_loadName_local hkf ka hn ea (wpAny_Name (wpAny_loadName_local hkf kb hn' eb ?_) (by decide))) (by decide)))))
  refine delItem_at (s := { s with heap := h₁, toks := tk₁ }) hz1 (by simp [Builtin.List.listFitsIndex]; omega) (seqIndex_nonneg hk1 hk) (fun h₂ sb2 hz2 => ?_) (by rw [sizeLine_eq]; omega)
  refine wpAny_deleteEach_nil (wpAny_execs_nil ?_)
  exact q h₂ tk₁ (fun b o hbz e => sb2.extBut b o hbz ((S.grow b o e).1 fun f => f)) ht₁' ⟨_, hz2⟩
noncomputable def delF (i : Nat) (f : MF) : SF := fun ℓ => match ℓ[i]?, f ℓ with
  | some (.own l), some m => (match m.num with
    | some k => if szOK l ∧ 0 ≤ k ∧ k < l.length then some (.next (ℓ.set i (.own (l.eraseIdx k.toNat)))) else none
    | none => none)
  | _, _ => none
theorem VRs.erase {P : AP} {h : Heap} {T : Nat} : ∀ {ms : List MV} {vs : List Value}, VRs P h T ms vs → ∀ k : Nat, VRs P h T (ms.eraseIdx k) (vs.eraseIdx k)
  | [], _, x, _ => by cases x; simp; rfl
  | _ :: _, _, ⟨v, r, e, x, y⟩, 0 => by subst e; exact y
  | _ :: _, _, ⟨v, r, e, x, y⟩, k + 1 => by subst e; exact ⟨v, _, rfl, x, VRs.erase y k⟩
/-- delitem(name, e) as a statement -/
theorem den_delitem {d : DefRec} {f : Addr} {p1 p2 p3 p4 : Pos} (O : W.Ok) (F : FnObj W d f) (hg : GName W "delitem" (.ref f)) (hchk : fnOK d ["a", "b"] ["a", "b"] = true)
    (hb : ∀ pm code doc vs, vs.length = (["a", "b"] : List Str).length → bindArgs (docDef d.name d.params d.body d.scope pm code doc) ⟨vs, []⟩ = pure ((["a", "b"] : List Str).zip vs))
    (hbody : d.body = [.Delete [.Subscript (.Name "a" p1) (.Name "b" p2) p3] p4]) (ha : d.scope.names.lookup ("a" : Str) = some .local) (hbb : d.scope.names.lookup ("b" : Str) = some .local)
    {x : Str} {np xp cp pos : Pos} {e2 : Expr} {g2 : MF} (i : Nat) (hi : sl[i]? = some x) (hxd : (x == ("__debug__" : Str)) = false) (hxc : (x == ("__classdict__" : Str)) = false)
    (hx : C.names.lookup ("delitem" : Str) = some .globalImplicit) (h1 : OneArg [.Name x xp, e2]) (hs : ∀ env, starEach [.Name x xp, e2] env = [(false, eval (.Name x xp) env), (false, eval e2 env)])
    (D2 : DenE W (n + 1) C sl e2 g2) : DenX W (n + 1) C sl (.Expr (.Call (.Name "delitem" np) [.Name x xp, e2] [] cp) pos) (delF i g2) := by
  intro A env hE P0 P X μ ℓ s out E Q Y S ht hg0 q
  unfold delF at hg0
  split at hg0
  case h_2 => cases hg0
  rename_i l mk hl hmk
  split at hg0
  case h_2 => cases hg0
  rename_i k hk
  split at hg0
  case isFalse => cases hg0
  rename_i hc
  cases hg0
  have hz' : l.length ≤ 65536 := by simpa [szOK] using hc.1
  have hint : interactive env = false := by unfold interactive; rw [Y.scope, Y.kind]; rfl
  obtain ⟨hH, xx, vs, hp, r⟩ := S.own_at hi hl
  have X0 := S.cx Y ht
  refine wpAny_Expr_any ?_ hint (by rfl)
  refine Call_Name (trees := backTo cp (starEach [.Name x xp, e2] env)) rfl (load_g O X0 hx (by decide) hg (call_form X0 F.form h1 ?_))
  have htr : backTo cp (starEach [.Name x xp, e2] env) = [(false, eval (.Name x xp) env), (false, eval e2 env)] := by rw [hs]; rfl
  rw [htr]
  refine spliced_cons (wpAny_Name (hH.load X0.kindE hxc ?_) hxd)
  refine spliced_cons (D2 X0 S.toL hmk fun v h₁ tk₁ g₁ t₁ r₁ => ?_)
  refine spliced_nil ⟨g₁, ?_⟩
  obtain ⟨t, rfl⟩ := r₁.num hk
  have hp1 : h₁.PlainList (μ i) vs := by obtain ⟨c, e'⟩ := hp; exact ⟨c, g₁ _ _ e'⟩
  have hsz : vs.size = l.length := by rw [← r.length, Array.length_toList]
  refine delitem_call (s := { s with heap := h₁, toks := tk₁ }) O F hchk hb hbody ha hbb (X0.grow g₁ t₁).cs hp1 (by omega) hc.2.1 (by omega) fun h₂ tk₂ k2 t₂ hp2 => ?_
  have S1 := S.pf g₁ t₁
  have t₂' : tk₁ ≤ tk₂ := t₂
  refine q _ X μ h₂ tk₂ (S1.mut hl ⟨vs, hp1⟩ k2 t₂' xx hp2 ?_) (Nat.le_trans t₁ t₂') (fun b o nb _ e => k2 b o (fun q => nb (q ▸ xx)) (g₁ b o e)) (fun a x => .inl x)
  have kP : KeepOn P s.heap h₂ := fun b o p e => k2 b o (fun q => S.PX b p (q ▸ xx)) (g₁ b o e)
  exact VRs.erase (VRs.mono (fun b p => PF.sub p) kP (Nat.le_trans t₁ t₂') r) _
end
end Mine
end
section
set_option genInjectivity false
set_option genSizeOf false
set_option genSizeOfSpec false
open PySem PySem.W PyProof.Rows PySem.Calls
set_option Elab.async false
set_option linter.unusedVariables false
set_option linter.unusedSimpArgs false
namespace Mine
section
variable {prog : Program} {w : World} {A : Around} {E : Value → Shared → Prop} {s : Shared}
theorem is_ints {p q : Int} {t u : Tok} {Q : Value → Shared → Prop} (ht : 0 < t) (htu : t < u) (hq : smallInt q = true) (h : Q (.bool (p == q)) s) : wpAny (model prog w) A (compareOp .Is (.int p t) (.int q u)) Q E s := by
  show wpAny _ A (do return .bool (← isSame (.int p t) (.int q u))) Q E s
  have t0 : (t == 0 || u == 0) = false := by
    rw [Bool.or_eq_false_iff, beq_eq_false_iff_ne, beq_eq_false_iff_ne]
    exact ⟨Nat.ne_of_gt ht, Nat.ne_of_gt (Nat.lt_trans ht htu)⟩
  refine wpAny_bind ?_
  show wpAny _ A (if p == q && smallInt p then isSame.cachedInt t u else isSame.created (p == q) t u) _ _ _
  by_cases e : p = q
  · subst e
    rw [hq, beq_self_eq_true]
    rw [beq_self_eq_true] at h
    simp only [Bool.and_self, if_true]
    unfold isSame.cachedInt
    rw [t0]
    simp only [Bool.false_eq_true, if_false]
    exact wpAny_bind (wpAny_rule (wpAny_pure (wpAny_pure h)))
  · have e' : (p == q) = false := beq_eq_false_iff_ne.mpr e
    rw [e'] at h ⊢
    simp only [Bool.false_and, Bool.false_eq_true, if_false]
    unfold isSame.created
    have tu : (t == u) = false := beq_eq_false_iff_ne.mpr (Nat.ne_of_lt htu)
    simp only [t0, tu, Bool.false_eq_true, if_false, Bool.not_false, if_true]
    exact wpAny_pure (wpAny_pure h)
end
theorem ints_at : ∀ {vs : List Value} {ns : List Int}, IntsAre vs ns → ∀ (i : Nat) (v : Value), vs[i]? = some v → ∃ x u, v = .int x u ∧ ns[i]? = some x
  | _, _, .nil, i, v, e => by simp at e
  | _, _, .cons x t r, 0, v, e => by simp at e; exact ⟨x, t, e.symm, rfl⟩
  | _, _, .cons x t r, i + 1, v, e => by simpa using ints_at r i v (by simpa using e)
theorem Grow.none {h h' : Heap} (g : Grow h h') {b} (e : h'.get? b = Option.none) : h.get? b = Option.none := by
  cases e1 : h.get? b with
  | none => rfl
  | some o => rw [g b o e1] at e; cases e
structure Missed (base : Heap) (out : List Env) (h₀ h' : Heap) (e : Addr) : Prop where
  fly : ∃ t, Heap.FlyingW base out e (.type "ValueError") (.ref t) h'
  slots : h₀.UpToSlots h'
section
variable {W : Wd} {n : Nat} {C : Scope} {sl : List Str}
/-- the text of indexOf -/
structure Ix where
  (q1 q2 q3 q4 q5 q6 q7 q8 q9 qa qb qc qd qe qf qg qh qi qj qk ql : Pos)
  (x1 cn : Nat)
  (msg : Str)
noncomputable def ixBody (p : Ix) : List Stmt :=
  [.For (.Tuple [.Name "i" p.q1, .Name "j" p.q2] p.x1 p.q3) (.Call (.Name "enumerate" p.q4) [.Name "a" p.q5] [] p.q6)
    [.If (.BoolOp .Or [.Compare (.Name "j" p.q7) [.Is] [.Name "b" p.q8] p.q9, .Compare (.Name "j" p.qa) [.Eq] [.Name "b" p.qb] p.qc] p.qd) [.Return (some (.Name "i" p.qe)) p.qf] [] p.qg]
    [.Raise (some (.Call (.Name "ValueError" p.qh) [.Constant (.str p.msg) p.cn p.qi] [] p.qj)) none p.qk] p.ql]
theorem ns_at {m : Str → Option Value} {x : Str} {v : Value} {M : Model} {A : Around} {E : Value → Shared → Prop} {env : Env} {s : Shared} {Q : Value → Shared → Prop} {pos : Pos} (hkf : env.scope.kind = .function) (k : env.kindOf x = some .local) (hn : s.heap.Ns env.locals m) (e : m x = some v) (q : Q v s) (hd : (x == ("__debug__" : Str)) = false) :
    wpAny M A (eval (.Name x pos) env) Q E s := wpAny_Name (wpAny_loadName_local hkf k hn e q) hd
theorem index_call {d : DefRec} {f : Addr} {p : Ix} (O : W.Ok) (F : FnObj W d f) (hchk : fnOK d ["a", "b"] ["a", "b", "i", "j"] = true)
    (hb : ∀ pm code doc vs, vs.length = (["a", "b"] : List Str).length → bindArgs (docDef d.name d.params d.body d.scope pm code doc) ⟨vs, []⟩ = pure ((["a", "b"] : List Str).zip vs))
    (hbody : d.body = ixBody p) (hla : d.scope.names.lookup ("a" : Str) = some .local) (hlb : d.scope.names.lookup ("b" : Str) = some .local) (hli : d.scope.names.lookup ("i" : Str) = some .local) (hlj : d.scope.names.lookup ("j" : Str) = some .local)
    (hle : d.scope.names.lookup ("enumerate" : Str) = some .globalImplicit) (hlv : d.scope.names.lookup ("ValueError" : Str) = some .globalImplicit)
    (ge : GName W "enumerate" (.type "enumerate")) (gv : GName W "ValueError" (.type "ValueError"))
    {A : Around} {s : Shared} {l : Addr} {items : Array Value} {ns : List Int} {k : Int} {t : Tok} {base : Heap} {out : List Env} {E : Value → Shared → Prop} {Q : Value → Shared → Prop} (X : Cs W (n + 1) A s.heap s.toks) (hl : s.heap.IsList l items) (hi : IntsAre items.toList ns)
    (htok : ∀ (j : Nat) (i : Int) (u : Tok), items[j]? = some (.int i u) → 0 < u ∧ u < t) (hk : smallInt k = true)
    (hfr : A.frames = some out) (hkb : base.StaysIn s.heap) (hff : s.heap.FunFrames base out)
    (found : ∀ (j : Nat) h' tk u, ns[j]? = some k → (∀ j' : Nat, j' < j → ns[j']? ≠ some k) → Grow s.heap h' → s.toks ≤ tk → Q (.int j u) { s with heap := h', toks := tk })
    (miss : ∀ e h' tk, (∀ j : Nat, ns[j]? ≠ some k) → Missed base out s.heap h' e → s.toks ≤ tk → E (.ref e) { s with heap := h', toks := tk }) :
    wpAny (model W.prog W.w) A (call (.ref f) [.ref l, .int k t]) Q E s := by
  refine mono_toks ?_
  have pr : Paired (LR (fun _ => False) s.heap s.toks) [.val (.opq (.ref l)), .val (.opq (.int k t))] [.ref l, .int k t] := .cons rfl (.cons rfl .nil)
  refine fn_enter (k := 2) O F hchk rfl hb X pr rfl fun env h₁ tk₁ X' Y S ht₁' => ?_
  rw [hbody]
  have ka := kind_of Y.scope hla
  have kb := kind_of Y.scope hlb
  have ki := kind_of Y.scope hli
  have kj := kind_of Y.scope hlj
  have hkf : env.scope.kind = .function := by rw [Y.scope]; exact Y.kind
  have hkp : (env.scope.kind == .class || (env.scope.kind == .module && env.locals != env.globals)) = false := by rw [hkf]; rfl
  rcases S.slot 0 "a" (.val (.opq (.ref l))) rfl rfl with u | ⟨va, Ha, ra, _⟩
  · cases u
  rcases S.slot 1 "b" (.val (.opq (.int k t))) rfl rfl with u | ⟨vb, Hb, rb, _⟩
  · cases u
  cases ra
  cases rb
  obtain ⟨m, hn, ea⟩ := Ha.at_local ka
  obtain ⟨m', hn', eb'⟩ := Hb.at_local kb
  have eb : m "b" = some (.int k t) := by rw [ns_unique hn hn' "b", eb']
  have g₁ : Grow s.heap h₁ := fun b o e => (S.grow b o e).1 fun f => f
  have hL0 : s.heap.get? env.locals = none := S.XE _ S.frm.1
  have hl₁ : h₁.IsList l items := isList_on (P := fun _ => True) g₁.on trivial hl
  have X₁ : Cx W.w0 n d.scope (A.deeper env) env h₁ tk₁ := S.cx Y (Nat.lt_of_lt_of_le X.tok ht₁')
  have gg : ∀ {h' : Heap}, Grow h₁ h' → (∃ m, h'.Ns env.locals m) := fun g => ⟨m, hn.keeps g⟩
  refine wpAny_execs_cons ?_
  refine wpAny_For (env := env) ?_ (by intro x; rfl)
  refine Call_Name (trees := backTo p.q6 (starEach [.Name "a" p.q5] env)) rfl (load_g (W := W.w0) (s := { s with heap := h₁, toks := tk₁ }) O.w0 X₁ hle (by decide) ge ?_)
  refine PyProof.Rows.callWith_type rfl (evalArgs_plain (spliced_cons (wpAny_Name (wpAny_loadName_local hkf ka hn ea (spliced_nil ?_)) (by decide))))
  refine call_enumerate_list (s := { s with heap := h₁, toks := tk₁ }) hl₁ fun h₂ he₂ hit₂ hz₂ hk₂ => ?_
  have hk₂' : Grow h₁ h₂ := hk₂
  refine wpAny_pyIter_enum (s := { s with heap := h₂, toks := tk₁ }) he₂ ?_
  -- addresses
  have hsz1 : ∀ {b : Addr} {o}, h₁.get? b = some o → @LT.lt Nat _ b h₁.objs.size := fun e => Heap.lt_size e
  have hLlt : @LT.lt Nat _ env.locals h₁.objs.size := hn.lt
  have hllt : @LT.lt Nat _ l h₁.objs.size := by obtain ⟨o, e, _⟩ := hl₁; exact hsz1 e
  have hei : h₁.objs.size + 1 ≠ h₁.objs.size := Nat.succ_ne_self _
  have heL : h₁.objs.size + 1 ≠ env.locals := Ne.symm (Nat.ne_of_lt (Nat.lt_succ_of_lt hLlt))
  have hiL : h₁.objs.size ≠ env.locals := Ne.symm (Nat.ne_of_lt hLlt)
  have hlL : l ≠ env.locals := fun q => ns_not_list hn (q ▸ hl₁)
  have hle' : l ≠ h₁.objs.size + 1 := Nat.ne_of_lt (Nat.lt_succ_of_lt hllt)
  have hli' : l ≠ h₁.objs.size := Nat.ne_of_lt hllt
  have hh : (A.deeper env).handled = none := Y.handled
  refine codeAny_forLoop_any
    (fun c s' => ∃ h' tk m' i old, s' = { s with heap := h', toks := tk } ∧ IsEnum h' (h₁.objs.size + 1) h₁.objs.size ((i : Nat) : Int) old ∧ h'.IsListIter h₁.objs.size l i ∧ h'.IsList l items ∧ h'.Ns env.locals m' ∧ m' "b" = some (.int k t) ∧ i ≤ items.size ∧
      c = items.size + 1 - i ∧ (∀ b o, b ≠ env.locals → b ≠ h₁.objs.size + 1 → b ≠ h₁.objs.size → h₂.get? b = some o → h'.get? b = some o) ∧ (∀ j : Nat, j < i → ns[j]? ≠ some k) ∧ tk₁ ≤ tk) ?_ (items.size + 1)
    ⟨h₂, tk₁, m, 0, .none, rfl, he₂, hit₂, isList_on (P := fun _ => True) hk₂'.on trivial hl₁, hn.keeps hk₂', eb, Nat.zero_le _, rfl, fun _ _ _ _ _ x => x, fun j hj => absurd hj (Nat.not_lt_zero _), Nat.le_refl _⟩
  rintro c s' ⟨H, tk, m', i, old, rfl, he', hit', hl', hn', eb', hi', rfl, hk', hno, htk⟩
  have keepS : ∀ {h9 : Heap}, (∀ b o, b ≠ env.locals → b ≠ h₁.objs.size + 1 → b ≠ h₁.objs.size → h₂.get? b = some o → h9.get? b = some o) → Grow s.heap h9 := fun {h9} kk b o e =>
    kk b o (fun q => by rw [q, hL0] at e; cases e) (fun q => by have := hsz1 (g₁ b o e); rw [q] at this; exact absurd this (by omega)) (fun q => by have := hsz1 (g₁ b o e); rw [q] at this; exact absurd this (Nat.lt_irrefl _)) (hk₂ b o (g₁ b o e))
  cases hv : items[i]? with
  | none =>
    have hsz : i = items.size := Nat.le_antisymm hi' (by simpa using hv)
    refine wpAny_pyNext_enum_end (s := { s with heap := H, toks := tk }) hh he' hit' hl' hv fun h₃ he₃ => ?_
    have he₃' : Heap.ExtBut h₁.objs.size H h₃ := he₃
    have hn₃ : h₃.Ns env.locals m' := hn'.extBut he₃' (Ne.symm hiL)
    have hall : ∀ j : Nat, ns[j]? ≠ some k := fun j => by
      by_cases hj : j < i
      · exact hno j hj
      · have hlen : ns.length = items.size := by rw [← hi.length, Array.length_toList]
        rw [List.getElem?_eq_none (by omega)]; exact fun q => by cases q
    have kk₃ : Grow s.heap h₃ := keepS fun b o h1 h2 h3 e => he₃' b o h3 (hk' b o h1 h2 h3 e)
    refine wpAny_execs_cons ?_
    refine wpAny_passesOwn PassesOwn.leaving ?_
    have X₃ : Cx W.w0 n d.scope (A.deeper env) env h₃ tk₁ :=
      { X₁ with base := fun b o e => kk₃ b o (X.base b o e)
                frames := ⟨_, Around.frames_deeper hfr, Heap.FunFrames.cons (by rw [hkf]; decide) Y.frame hn₃ (Grow.none X.base hL0) (by
                    obtain ⟨o2, e2, f2⟩ := X.frames
                    rw [hfr] at e2; cases e2
                    exact f2.of_keeps fun b o e _ => ⟨o, kk₃ b o e, rfl⟩)⟩ }
    refine wpAny_Raise_call PySem.F.excCall_ValueError PySem.F.excRaise_ValueError hh rfl (load_g (W := W.w0) (s := { s with heap := h₃, toks := tk }) O.w0 { X₃ with tok := ?_ } hlv (by decide) gv ⟨rfl, ?_⟩)
    · exact Nat.lt_of_lt_of_le X₁.tok htk
    · refine evalArgs_plain (spliced_cons (wpAny_Constant_str (k := p.cn) (pos := p.qi) (spliced_nil ⟨rfl, (by rw [sizeLine_eq]; exact (by decide : 1 ≤ 16777216)), fun h₄ e hx => ?_⟩)))
      have hx' : Heap.MadeExcOf h₃ h₄ e (.type "ValueError") [.str p.msg tk] := ⟨hx.keeps, hx.new, hx.there⟩
      have bL : base.get? env.locals = none := by
        cases e : base.get? env.locals with
        | none => rfl
        | some o => have := hkb _ _ e; rw [hL0] at this; cases this
      refine wpAny_leaves_madeW (base := base) (outer := out) (L := env.locals) (Around.frames_deeper hfr) Y.frame (fun b o e => kk₃ b o (hkb b o e))
        (Heap.FunFrames.cons (by rw [hkf]; decide) Y.frame hn₃ bL (hff.of_keeps fun b o e _ => ⟨o, kk₃ b o e, rfl⟩)) hx' fun h₅ t5 x1 x2 x3 x4 => ?_
      exact fun ht => miss e h₅ _ hall ⟨⟨t5, x1⟩, (Heap.UpToSlots.of_keeps kk₃).trans ((Heap.UpToSlots.of_keeps hx.keeps).trans x4)⟩ ht
  | some v =>
    have hlt : i < items.size := (Array.getElem?_eq_some_iff.mp hv).1
    have heH : @LT.lt Nat _ (h₁.objs.size + 1) H.objs.size := Heap.lt_size he'
    have hLH : @LT.lt Nat _ env.locals H.objs.size := hn'.lt
    have hiH : @LT.lt Nat _ h₁.objs.size H.objs.size := Nat.lt_of_succ_lt heH
    have hlH : @LT.lt Nat _ l H.objs.size := by obtain ⟨ol, hol, _⟩ := id hl'; exact Heap.lt_size hol
    obtain ⟨vn, hvn, hvv⟩ := ints_at hi i v (by simpa using hv)
    obtain ⟨rfl, hnx⟩ := hvv
    refine wpAny_pyNext_enum_item (s := { s with heap := H, toks := tk }) he' hit' hl' hv hei fun h₃ heo hit₃ ht₃ hz₃ hk₃ => ?_
    refine wpAny_letOwnedTupleGo_enum (s := { s with heap := h₃, toks := tk + 1 }) heo fun h₄ he₄ hs₄ => ?_
    have hk₃' : ∀ b o, b ≠ h₁.objs.size + 1 → b ≠ h₁.objs.size → H.get? b = some o → h₃.get? b = some o := hk₃
    replace hs₄ : Heap.SameBut (h₁.objs.size + 1) h₃ h₄ := hs₄
    have hz₄ : h₄.objs.size = H.objs.size + 1 := hs₄.1.trans hz₃
    have ht₄ : h₄.IsTuple H.objs.size #[.int i tk, .int vn hvn] := ⟨_, (hs₄.2 _ (Nat.ne_of_gt heH)).trans ht₃, rfl, _, rfl⟩
    refine wpAny_assign_Tuple (s := { s with heap := h₄, toks := tk + 1 }) hh ht₄ rfl rfl fun h₅ hx₅ => ?_
    replace hx₅ : Heap.ExtBut h₄.objs.size h₄ h₅ := hx₅
    have old₅ : ∀ b o, @LT.lt Nat _ b H.objs.size → h₄.get? b = some o → h₅.get? b = some o := fun b o hb x => hx₅ b o (by rw [hz₄]; exact Nat.ne_of_lt (Nat.lt_succ_of_lt hb)) x
    have hn₅ : h₅.Ns env.locals m' := (hn'.at fun o x => hk₃' _ o (Ne.symm heL) (Ne.symm hiL) x).sameBut hs₄ (Ne.symm heL) |>.at fun o x => old₅ _ o hLH x
    show wpAny _ _ (do holding [.int vn hvn] (assign (.Name "i" p.q1) env (.int i tk)); do holding [] (assign (.Name "j" p.q2) env (.int vn hvn)); pure ()) _ _ _
    refine wpAny_bind (wpAny_holding (wpAny_assign_Name (wpAny_storeName_local ki hn₅ (fun h₆ hn₆ hs₆ => ?_) hkp)))
    replace hs₆ : Heap.SameBut env.locals h₅ h₆ := hs₆
    refine wpAny_bind (wpAny_holding (wpAny_assign_Name (wpAny_storeName_local kj hn₆ (fun h₇ hn₇ hs₇ => wpAny_pure ?_) hkp)))
    replace hs₇ : Heap.SameBut env.locals h₆ h₇ := hs₇
    have up : ∀ b o, b ≠ env.locals → @LT.lt Nat _ b H.objs.size → h₄.get? b = some o → h₇.get? b = some o := fun b o hbL hb x =>
      hs₇.extBut b o hbL (hs₆.extBut b o hbL (old₅ b o hb x))
    have k7 : ∀ b o, b ≠ env.locals → b ≠ h₁.objs.size + 1 → b ≠ h₁.objs.size → h₂.get? b = some o → h₇.get? b = some o := fun b o hbL hbe hbi x => by
      have hbH : @LT.lt Nat _ b H.objs.size := Heap.lt_size (hk' b o hbL hbe hbi x)
      exact up b o hbL hbH (hs₄.extBut b o hbe (hk₃' b o hbe hbi (hk' b o hbL hbe hbi x)))
    have ei7 : (fun y : Str => if y = "j" then some (Value.int vn hvn) else if y = "i" then some (.int i tk) else m' y) "i" = some (.int i tk) := by
      show (if ("i" : Str) = "j" then _ else if ("i" : Str) = "i" then _ else _) = _
      rw [if_neg (by decide), if_pos rfl]
    have ej7 : (fun y : Str => if y = "j" then some (Value.int vn hvn) else if y = "i" then some (.int i tk) else m' y) "j" = some (.int vn hvn) := if_pos rfl
    have eb7 : (fun y : Str => if y = "j" then some (Value.int vn hvn) else if y = "i" then some (.int i tk) else m' y) "b" = some (.int k t) := by
      show (if ("b" : Str) = "j" then _ else if ("b" : Str) = "i" then _ else _) = _
      rw [if_neg (by decide), if_neg (by decide)]; exact eb'
    obtain ⟨hu0, hut⟩ := htok i vn hvn hv
    refine wpAny_execs_cons (wpAny_If (isTrue_or (wpAny_isTrue_Compare1 (ns_at hkf kj hn₇ ej7 (ns_at hkf kb hn₇ eb7 (is_ints hu0 hut hk (wpAny_truthy_bool ?_)) (by decide)) (by decide)))))
    cases hq : (vn == k) with
    | true =>
      have hvk : vn = k := eq_of_beq hq
      subst hvk
      simp only [if_true]
      refine wpAny_execs_cons (wpAny_Return_some (ns_at hkf ki hn₇ ei7 ?_ (by decide)))
      exact fun ht => found i h₇ _ tk hnx hno (keepS k7) ht
    | false =>
      simp only [Bool.false_eq_true, if_false]
      refine isTrue_or (wpAny_isTrue_Compare1 (ns_at hkf kj hn₇ ej7 (ns_at hkf kb hn₇ eb7 (eq_int (wpAny_truthy_bool ?_)) (by decide)) (by decide)))
      rw [hq]
      simp only [Bool.false_eq_true, if_false]
      refine isTrue_or_nil ?_
      simp only [Bool.false_eq_true, if_false]
      refine wpAny_execs_nil (wpAny_execs_nil ?_)
      refine ⟨items.size + 1 - (i + 1), by omega, h₇, _, _, i + 1, .int vn hvn, rfl, ?_, ?_, ?_, hn₇, eb7, hlt, rfl, k7, fun j hj => ?_, by omega⟩
      · have : ((i + 1 : Nat) : Int) = (i : Int) + 1 := by push_cast; rfl
        rw [this]; exact up _ _ heL heH he₄
      · exact (hit₃.extBut hs₄.extBut (Ne.symm hei)).at fun o x => up _ o hiL hiH x
      · exact ((hl'.at fun o x => hk₃' l o hle' hli' x).extBut hs₄.extBut hle').at fun o x => up l o hlL hlH x
      · rcases Nat.lt_or_ge j i with h | h
        · exact hno j h
        · have : j = i := by omega
          subst this
          rw [hnx]
          intro q
          cases q
          rw [beq_self_eq_true] at hq; cases hq
end
end Mine
end
section
set_option genInjectivity false
set_option genSizeOf false
set_option genSizeOfSpec false
open PySem PySem.W PyProof.Rows PySem.Calls
set_option Elab.async false
set_option linter.unusedVariables false
set_option linter.unusedSimpArgs false
namespace Mine
section
variable {W : Wd} {n : Nat} {C : Scope} {sl : List Str}
/-- the text of _law_found -/
structure Fx where
  (q1 q2 q3 q4 q5 q6 q7 q8 q9 qa qb : Pos)
noncomputable def fxBody (p : Fx) : List Stmt :=
  [.Try [.Return (some (.List [.Call (.Name "indexOf" p.q1) [.Name "dots" p.q2, .Name "size" p.q3] [] p.q4] p.q5)) p.q6]
    [.ExceptHandler (some (.Name "ValueError" p.q7)) none [.Return (some (.List [] p.q8)) p.q9] p.qa] [] [] p.qb]
/-- the callers' frames -/
noncomputable def onStack (out : List Env) : AP := fun b => b ∈ out.filterMap (·.frame)
theorem found_call {d df : DefRec} {f fa : Addr} {p : Ix} {r : Fx} (O : W.Ok) (F : FnObj W d f) (hchk : fnOK d ["a", "b"] ["a", "b", "i", "j"] = true)
    (hb : ∀ pm code doc vs, vs.length = (["a", "b"] : List Str).length → bindArgs (docDef d.name d.params d.body d.scope pm code doc) ⟨vs, []⟩ = pure ((["a", "b"] : List Str).zip vs))
    (hbody : d.body = ixBody p) (hla : d.scope.names.lookup ("a" : Str) = some .local) (hlb : d.scope.names.lookup ("b" : Str) = some .local) (hli : d.scope.names.lookup ("i" : Str) = some .local) (hlj : d.scope.names.lookup ("j" : Str) = some .local)
    (hle : d.scope.names.lookup ("enumerate" : Str) = some .globalImplicit) (hlv : d.scope.names.lookup ("ValueError" : Str) = some .globalImplicit)
    (ge : GName W "enumerate" (.type "enumerate")) (gv : GName W "ValueError" (.type "ValueError"))
    (Ff : FnObj W df fa) (gi : GName W "indexOf" (.ref f)) (hchkf : fnOK df ["dots", "size"] ["dots", "size"] = true)
    (hbf : ∀ pm code doc vs, vs.length = (["dots", "size"] : List Str).length → bindArgs (docDef df.name df.params df.body df.scope pm code doc) ⟨vs, []⟩ = pure ((["dots", "size"] : List Str).zip vs))
    (hbodyf : df.body = fxBody r) (hld : df.scope.names.lookup ("dots" : Str) = some .local) (hls : df.scope.names.lookup ("size" : Str) = some .local)
    (hlif : df.scope.names.lookup ("indexOf" : Str) = some .globalImplicit) (hlvf : df.scope.names.lookup ("ValueError" : Str) = some .globalImplicit)
    {A : Around} {s : Shared} {l : Addr} {items : Array Value} {ns : List Int} {k : Int} {t : Tok} {out : List Env} {E : Value → Shared → Prop} {Q : Value → Shared → Prop} (X : Cs W (n + 2) A s.heap s.toks) (hl : s.heap.IsList l items) (hi : IntsAre items.toList ns)
    (htok : ∀ (j : Nat) (i : Int) (u : Tok), items[j]? = some (.int i u) → 0 < u ∧ u < t) (hk : smallInt k = true) (hfr : A.frames = some out)
    (q : ∀ a vs h' tk, s.heap.get? a = none → h'.PlainList a vs → GrowN (onStack out) s.heap h' → s.toks ≤ tk →
      ((vs.toList = [] ∧ ∀ j : Nat, ns[j]? ≠ some k) ∨ ∃ (j : Nat) (u : Tok), vs.toList = [.int j u] ∧ ns[j]? = some k ∧ ∀ j' : Nat, j' < j → ns[j']? ≠ some k) → Q (.ref a) { s with heap := h', toks := tk }) :
    wpAny (model W.prog W.w) A (call (.ref fa) [.ref l, .int k t]) Q E s := by
  refine mono_toks ?_
  have pr : Paired (LR (fun _ => False) s.heap s.toks) [.val (.opq (.ref l)), .val (.opq (.int k t))] [.ref l, .int k t] := .cons rfl (.cons rfl .nil)
  refine fn_enter (n := n + 1) (k := 0) O Ff hchkf rfl hbf X pr rfl fun env h₁ tk₁ X' Y S ht₁' => ?_
  rw [hbodyf]
  have kd := kind_of Y.scope hld
  have ks := kind_of Y.scope hls
  have hkf : env.scope.kind = .function := by rw [Y.scope]; exact Y.kind
  rcases S.slot 0 "dots" (.val (.opq (.ref l))) rfl rfl with u | ⟨va, Ha, ra, _⟩
  · cases u
  rcases S.slot 1 "size" (.val (.opq (.int k t))) rfl rfl with u | ⟨vb, Hb, rb, _⟩
  · cases u
  cases ra
  cases rb
  obtain ⟨m, hn, ea⟩ := Ha.at_local kd
  obtain ⟨m', hn', eb⟩ := Hb.at_local ks
  have g₁ : Grow s.heap h₁ := fun b o e => (S.grow b o e).1 fun f => f
  have hL0 : s.heap.get? env.locals = none := S.XE _ S.frm.1
  have hl₁ : h₁.IsList l items := isList_on (P := fun _ => True) g₁.on trivial hl
  have X₁ : Cx W.w0 (n + 1) df.scope (A.deeper env) env h₁ tk₁ := S.cx Y (Nat.lt_of_lt_of_le X.tok ht₁')
  -- what stays: all but the frames
  have hffB : s.heap.FunFrames W.hB out := by
    obtain ⟨o2, e2, f2⟩ := X.frames
    rw [hfr] at e2; cases e2
    exact f2
  have hin : ∀ ev ∈ out, ∀ b, ev.frame = some b → b ∈ out.filterMap (·.frame) := fun ev he b hb => List.mem_filterMap.mpr ⟨ev, he, hb⟩
  have hkb : (hideAll s.heap (out.filterMap (·.frame))).StaysIn h₁ := fun b o e => g₁ b o (of_hideAll _ e)
  have hBb : Grow W.hB (hideAll s.heap (out.filterMap (·.frame))) := fun b o e => hideAll_get _ (X.base b o e) fun hm => by
    rw [(hffB.mem hm).1] at e; cases e
  have hLb : (hideAll s.heap (out.filterMap (·.frame))).get? env.locals = none := by
    cases e : (hideAll s.heap (out.filterMap (·.frame))).get? env.locals with
    | none => rfl
    | some o => have := of_hideAll _ e; rw [hL0] at this; cases this
  have hff₁ : h₁.FunFrames (hideAll s.heap (out.filterMap (·.frame))) (env :: out) :=
    Heap.FunFrames.cons (by rw [hkf]; decide) Y.frame hn hLb ((funFrames_hide hffB hin).of_keeps fun b o e _ => ⟨o, g₁ b o e, rfl⟩)
  have hfr' : (A.deeper env).frames = some (env :: out) := Around.frames_deeper hfr
  -- the end: a list made behind a heap that is s.heap but for records
  have fin : ∀ {h₉ : Heap} {tk₉ : Nat} {vs : Array Value} {c : Nat}, (hideAll s.heap (out.filterMap (·.frame))).StaysIn h₉ → s.heap.UpToSlots h₉ →
      ((vs.toList = [] ∧ ∀ j : Nat, ns[j]? ≠ some k) ∨ ∃ (j : Nat) (u : Tok), vs.toList = [.int j u] ∧ ns[j]? = some k ∧ ∀ j' : Nat, j' < j → ns[j']? ≠ some k) →
      s.toks ≤ tk₉ → Q (.ref h₉.objs.size) { s with heap := h₉.push { cls := .type "list", data := .seq vs c }, toks := tk₉ } := by
    intro h₉ tk₉ vs c st ups hvs htk
    have gN : GrowN (onStack out) s.heap h₉ := fun b o e => by
      by_cases hm : b ∈ out.filterMap (·.frame)
      · refine ⟨fun nb => absurd hm nb, ?_⟩
        obtain ⟨_, o', e', hnf⟩ := hffB.mem hm
        rw [e] at e'; cases e'
        exact ups b o e hnf
      · have := st b o (hideAll_get _ e hm)
        exact ⟨fun _ => this, o.slots, this⟩
    refine q _ vs _ tk₉ (gN.none (Heap.get?_none_of_le (Nat.le_refl _))) (plain_new ..) (gN.trans (.of (Grow.push _ _))) htk hvs
  refine wpAny_execs_cons (wpAny_Try_except ?_)
  refine wpAny_execs_cons (wpAny_Return_some (wpAny_List_spliced ?_))
  refine spliced_cons ?_
  refine Call_Name (trees := backTo r.q4 (starEach [.Name "dots" r.q2, .Name "size" r.q3] env)) rfl (load_g (W := W.w0) (s := { s with heap := h₁, toks := tk₁ }) O.w0 X₁ hlif (by decide) gi ?_)
  refine call_form (W := W.w0) (s := { s with heap := h₁, toks := tk₁ }) X₁ F.form (fun _ _ => ⟨_, _, rfl, rfl⟩) ?_
  refine spliced_cons (ns_at (s := { s with heap := h₁, toks := tk₁ }) hkf kd hn ea ?_ (by decide))
  refine spliced_cons (ns_at (s := { s with heap := h₁, toks := tk₁ }) hkf ks hn' eb ?_ (by decide))
  refine spliced_nil ⟨Grow.refl _, ?_⟩
  refine index_call (W := W.w0) (n := n) (s := { s with heap := h₁, toks := tk₁ }) O.w0 F hchk hb hbody hla hlb hli hlj hle hlv ge gv X₁.cs hl₁ hi htok hk hfr' hkb hff₁ ?_ ?_
  · intro j h₂ tk₂ u hj hj' g₂ t₂
    have g₂' : Grow h₁ h₂ := g₂
    refine spliced_nil ⟨by rw [sizeLine_eq]; exact (by decide : 1 ≤ 16777216), ?_⟩
    exact fin (vs := #[.int j u]) (fun b o e => g₂' b o (hkb b o e)) (Heap.UpToSlots.of_keeps (g₁.trans g₂')) (.inr ⟨j, u, rfl, hj, hj'⟩)
  · intro e h₂ tk₂ hno hm t₂
    obtain ⟨t5, hfl⟩ := hm.fly
    have ups₂ : s.heap.UpToSlots h₂ := (Heap.UpToSlots.of_keeps g₁).trans hm.slots
    refine wpAny_looks_onW (s := { s with heap := h₂, toks := tk₂ }) hfr' Y.frame hfl fun h₃ hheld₃ hs₃ => ?_
    refine wpAny_landsW hheld₃ fun h₄ hfl₄ hs₄ => ?_
    have hs₃' : h₂.UpToSlots h₃ := hs₃
    have hs₄' : h₃.UpToSlots h₄ := hs₄
    refine wpAny_noRaise ?_
    obtain ⟨ob, hob, hobc⟩ := hfl₄.there
    refine wpAny_handleBy_builtin (X := "ValueError") (T := "ValueError") (b := true) (by rw [isSubtype_type]; kernel_rfl) (by rw [isSubtype_type]; kernel_rfl) (by rw [isSubtype_type]; kernel_rfl) ?_
    have hkv : env.kindOf "ValueError" = some .globalImplicit := kind_of Y.scope hlvf
    have keepB : Grow W.hB h₄ := fun b o e => hfl₄.1 b o (hBb b o e)
    have after : ∀ {Qf : Flow → Shared → Prop}, (∀ h₅, (hideAll s.heap (out.filterMap (·.frame))).StaysIn h₅ → s.heap.UpToSlots h₅ → Qf (.ret (.ref h₅.objs.size)) { s with heap := h₅.push { cls := .type "list", data := .seq #[] }, toks := tk₂ }) → wpAny (model W.prog W.w) ((A.deeper env).mark (some (.ref e))) (setFlight (.ref e) none) (fun _ s₂ => wpAny (model W.prog W.w) ((A.deeper env).mark (some (.ref e))) (execs [.Return (some (.List [] r.q8)) r.q9] env) Qf (notedBy (model W.prog W.w) ((A.deeper env).mark (some (.ref e))) env (cameBackBy (model W.prog W.w) (A.deeper env) env fun _ _ => False)) s₂) (notedBy (model W.prog W.w) ((A.deeper env).mark (some (.ref e))) env (cameBackBy (model W.prog W.w) (A.deeper env) env fun _ _ => False)) { s with heap := h₄, toks := tk₂ } := by
      intro Qf hQf
      refine lands_againW (s := { s with heap := h₄, toks := tk₂ }) hfl₄ fun h₅ hfl₅ hs₅ => ?_
      have hs₅' : h₄.UpToSlots h₅ := hs₅
      refine wpAny_execs_cons (wpAny_Return_some (wpAny_List_spliced (spliced_nil ⟨Nat.zero_le _, ?_⟩)))
      exact hQf h₅ hfl₅.1 (((ups₂.trans hs₃').trans hs₄').trans hs₅')
    rcases gv with ev | ⟨ev1, ev2⟩
    · exact Name_function_global hkf hkv (loadGlobal_global (s := { s with heap := h₄, toks := tk₂ }) (by rw [Y.globals]; exact O.g.keeps keepB) ev ⟨rfl, ⟨ob, hob, hobc⟩, after fun h₅ a1 a2 => fin (vs := #[]) a1 a2 (.inl ⟨rfl, hno⟩)⟩) (by decide)
    · exact Name_function_global hkf hkv (loadGlobal_builtin (s := { s with heap := h₄, toks := tk₂ }) (by rw [Y.globals]; exact O.g.keeps keepB) ev1 (by rw [Y.builtins]; exact O.b.keeps keepB) ev2 ⟨rfl, ⟨ob, hob, hobc⟩, after fun h₅ a1 a2 => fin (vs := #[]) a1 a2 (.inl ⟨rfl, hno⟩)⟩) (by decide)
end
end Mine
end
section
open PySem PySem.W PyProof.Rows PySem.Calls
set_option Elab.async false
set_option linter.unusedVariables false
set_option linter.unusedSimpArgs false
namespace Mine
section
variable {W : Wd} {hE : Heap} {P0 P X : AP} {μ : Nat → Addr} {env : Env} {sl : List Str} {ℓ : List LV} {h : Heap} {T : Nat}
theorem ns_slots {h h' : Heap} {L : Addr} {m} (ks : ∀ o, h.get? L = some o → ∃ s, h'.get? L = some { o with slots := s }) (x : h.Ns L m) : h'.Ns L m := by
  obtain ⟨o, es, ep, e, d, r⟩ := x
  obtain ⟨s, e2⟩ := ks o e
  exact ⟨_, es, ep, e2, d, r⟩
/-- the frame's own record, and those further out, change -/
theorem SRel.noted (S : SRel W hE P0 P X μ env sl ℓ h T) {h' : Heap} {T' : Nat} (k : ∀ b o, b ≠ env.locals → ¬ W.N b → h.get? b = some o → h'.get? b = some o)
    (ks : ∀ b o, h.get? b = some o → ∃ s, h'.get? b = some { o with slots := s }) (t : T ≤ T') : SRel W hE P0 P X μ env sl ℓ h' T' := by
  obtain ⟨m0, hn0⟩ := S.frm.2
  have XN : ∀ b, X b → ¬ W.N b := fun b x n => by obtain ⟨o, e⟩ := S.NE b n; rw [S.XE b x] at e; cases e
  have kP : KeepOn P h h' := fun b o p e => k b o (fun q => S.PX b p (q ▸ S.frm.1)) (S.PN b p) e
  have kC : ∀ {c v}, X c → h.IsCell c v → h'.IsCell c v := fun {c v} xc hc => by
    obtain ⟨o, ho, hd⟩ := hc
    exact ⟨o, k c o (fun q => by subst q; exact ns_not_cell hn0 ⟨o, ho, hd⟩) (XN c xc) ho, hd⟩
  have kH : ∀ {x v}, Has env h x v → Has env h' x v := fun {x v} a => by
    rcases a with ⟨ky, m, hn, e⟩ | ⟨ky, c, e, hc⟩
    · exact .inl ⟨ky, m, ns_slots (ks _) hn, e⟩
    · obtain ⟨c', e', xc, _⟩ := S.cel x ky
      rw [e] at e'; cases e'
      exact .inr ⟨ky, c, e, kC xc hc⟩
  have kL : ∀ {a vs}, ¬ W.N a → h.IsList a vs → h'.IsList a vs := fun {a vs} na hl => by
    have hl' := hl
    obtain ⟨o, e, rest⟩ := hl
    exact ⟨o, k a o (fun q => by subst q; exact ns_not_list hn0 hl') na e, rest⟩
  have kPl : ∀ {a vs}, ¬ W.N a → h.PlainList a vs → h'.PlainList a vs := fun {a vs} na hl => by
    have hl' := hl.isList
    obtain ⟨c, e⟩ := hl
    exact ⟨c, k a _ (fun q => by subst q; exact ns_not_list hn0 hl') na e⟩
  refine ⟨fun i x lv e q => ?_, S.apart, ⟨S.frm.1, m0, ns_slots (ks _) hn0⟩, fun x ky => ?_, S.capart, S.PX, S.XE, S.PE, ?_, S.PN, S.NE, S.NB, fun a xa => ?_, S.nd, S.len⟩
  · rcases S.slot i x lv e q with u | ⟨v, a, b, c⟩
    · exact .inl u
    · refine .inr ⟨v, kH a, ?_, c⟩
      cases lv with
      | undef => exact b
      | val m => exact VR.mono (m := m) (fun _ p => p) kP t b
      | ali l =>
        obtain ⟨a', vs, rfl, hl, rs⟩ := b
        obtain ⟨a2, o2, e2, h2, na⟩ := c
        cases e2
        exact ⟨a', vs, rfl, kL na hl, rs.mono (fun _ p => p) kP t⟩
      | pla l =>
        obtain ⟨a', vs, rfl, hl, rs⟩ := b
        obtain ⟨a2, o2, e2, h2, na⟩ := c
        cases e2
        exact ⟨a', vs, rfl, kPl na hl, rs.mono (fun _ p => p) kP t⟩
      | own l =>
        obtain ⟨a', vs, rfl, hl, rs⟩ := b
        obtain ⟨e2, xa⟩ := c
        cases e2
        exact ⟨_, vs, rfl, kPl (XN _ xa) hl, rs.mono (fun _ p => p) kP t⟩
  · obtain ⟨c, e, xc, v, hc⟩ := S.cel x ky
    exact ⟨c, e, xc, v, kC xc hc⟩
  · intro b o e
    refine ⟨fun n => k b o (fun q => by subst q; rw [S.XE _ S.frm.1] at e; cases e) n ((S.grow b o e).1 n), ?_⟩
    obtain ⟨s1, e1⟩ := (S.grow b o e).2
    obtain ⟨s2, e2⟩ := ks b _ e1
    exact ⟨s2, e2⟩
  · obtain ⟨o, e⟩ := S.live a xa
    obtain ⟨s, e2⟩ := ks a o e
    exact ⟨_, e2⟩
end

/-! the first place of a number -/
noncomputable def firstAt (k : Int) : List Int → Nat → Option Nat
  | [], _ => none
  | x :: r, i => if x = k then some i else firstAt k r (i + 1)
theorem firstAt_none {k : Int} : ∀ {l : List Int} {i : Nat}, (∀ j : Nat, l[j]? ≠ some k) → firstAt k l i = none
  | [], _, _ => rfl
  | x :: r, i, h => by
    unfold firstAt
    rw [if_neg (fun q => h 0 (by rw [q]; rfl))]
    exact firstAt_none fun j => by simpa using h (j + 1)
theorem firstAt_some {k : Int} : ∀ {l : List Int} {i j : Nat}, l[j]? = some k → (∀ j' : Nat, j' < j → l[j']? ≠ some k) → firstAt k l i = some (i + j)
  | [], _, _, h, _ => by simp at h
  | x :: r, i, 0, h, _ => by
    unfold firstAt
    simp at h
    rw [if_pos h]; rfl
  | x :: r, i, j + 1, h, hj => by
    unfold firstAt
    rw [if_neg (fun q => hj 0 (Nat.succ_pos _) (by rw [q]; rfl)), firstAt_some (by simpa using h) fun j' h' => by simpa using hj (j' + 1) (Nat.succ_lt_succ h')]
    congr 1; omega
noncomputable def fints : List MV → Option (List Int)
  | [] => some []
  | .fint i :: r => (fints r).map (i :: ·)
  | _ :: _ => none
theorem VRs.fints {P : AP} {h : Heap} {T : Nat} : ∀ {ms : List MV} {vs : List Value} {ns : List Int}, VRs P h T ms vs → fints ms = some ns → IntsAre vs ns ∧ ∀ (j : Nat) (i : Int) (u : Tok), vs[j]? = some (.int i u) → 0 < u ∧ u < T
  | [], _, _, x, e => by cases x; cases e; exact ⟨.nil, fun j i u h => by simp at h⟩
  | m :: ms, _, _, ⟨v, r, e, x, y⟩, q => by
    subst e
    cases m <;> first | (simp [Mine.fints] at q; done) | skip
    rename_i i
    cases hs : Mine.fints ms with
    | none => simp [Mine.fints, hs] at q
    | some k =>
      simp [Mine.fints, hs] at q; subst q
      obtain ⟨t, rfl, t1, t2⟩ := x
      obtain ⟨i1, i2⟩ := VRs.fints y hs
      refine ⟨.cons _ _ i1, fun j i' u h => ?_⟩
      cases j with
      | zero => simp at h; obtain ⟨_, rfl⟩ := h; exact ⟨t1, t2⟩
      | succ j => exact i2 j i' u (by simpa using h)
end Mine
end
section
set_option genInjectivity false
set_option genSizeOf false
set_option genSizeOfSpec false
open PySem PySem.W PyProof.Rows PySem.Calls
set_option Elab.async false
set_option linter.unusedVariables false
set_option linter.unusedSimpArgs false
namespace Mine
/-- indexOf and _law_found as they stand in the text -/
structure FoundAt (W : Wd) where
  (d df : DefRec)
  (f fa : Addr)
  (p : Ix)
  (r : Fx)
  F : FnObj W d f
  hchk : fnOK d ["a", "b"] ["a", "b", "i", "j"] = true
  hb : ∀ pm code doc vs, vs.length = (["a", "b"] : List Str).length → bindArgs (docDef d.name d.params d.body d.scope pm code doc) ⟨vs, []⟩ = pure ((["a", "b"] : List Str).zip vs)
  hbody : d.body = ixBody p
  hla : d.scope.names.lookup ("a" : Str) = some .local
  hlb : d.scope.names.lookup ("b" : Str) = some .local
  hli : d.scope.names.lookup ("i" : Str) = some .local
  hlj : d.scope.names.lookup ("j" : Str) = some .local
  hle : d.scope.names.lookup ("enumerate" : Str) = some .globalImplicit
  hlv : d.scope.names.lookup ("ValueError" : Str) = some .globalImplicit
  ge : GName W "enumerate" (.type "enumerate")
  gv : GName W "ValueError" (.type "ValueError")
  Ff : FnObj W df fa
  gi : GName W "indexOf" (.ref f)
  gf : GName W "_law_found" (.ref fa)
  hchkf : fnOK df ["dots", "size"] ["dots", "size"] = true
  hbf : ∀ pm code doc vs, vs.length = (["dots", "size"] : List Str).length → bindArgs (docDef df.name df.params df.body df.scope pm code doc) ⟨vs, []⟩ = pure ((["dots", "size"] : List Str).zip vs)
  hbodyf : df.body = fxBody r
  hld : df.scope.names.lookup ("dots" : Str) = some .local
  hls : df.scope.names.lookup ("size" : Str) = some .local
  hlif : df.scope.names.lookup ("indexOf" : Str) = some .globalImplicit
  hlvf : df.scope.names.lookup ("ValueError" : Str) = some .globalImplicit
section
variable {W : Wd} {n : Nat} {C : Scope} {sl : List Str}
noncomputable def foundV (k : Int) (ns : List Int) : List MV := match firstAt k ns 0 with
  | some j => [.int j]
  | none => []
noncomputable def foundF (i j : Nat) : SF := fun ℓ => match ℓ[i]? with
  | some (.own l) => (match fints l with
    | some ns => if ns.length ≤ 200 then some (.next (ℓ.set j (.own (foundV ns.length ns)))) else none
    | none => none)
  | _ => none
theorem smallInt_nat {n : Nat} (h : n ≤ 200) : smallInt (n : Int) = true := by
  unfold smallInt
  simp; omega
theorem den_found (O : W.Ok) (K : FoundAt W) (hfull : W.full = true) (gl : GName W "len" (.builtin "len")) {x y : Str} {px np xp xp2 lp lq cp pos : Pos} (i j : Nat) (hi : sl[i]? = some x) (hj : sl[j]? = some y) (hy : isVar C y = true)
    (hxd : (x == ("__debug__" : Str)) = false) (hxc : (x == ("__classdict__" : Str)) = false)
    (hcl : C.names.lookup ("len" : Str) = some .globalImplicit) (hcf : C.names.lookup ("_law_found" : Str) = some .globalImplicit)
    (h1 : OneArg [.Name x xp, .Call (.Name "len" lp) [.Name x xp2] [] lq]) (hs : ∀ env, starEach [.Name x xp, .Call (.Name "len" lp) [.Name x xp2] [] lq] env = [(false, eval (.Name x xp) env), (false, eval (.Call (.Name "len" lp) [.Name x xp2] [] lq) env)])
    (h1l : OneArg [.Name x xp2]) (hsl : ∀ env, starEach [.Name x xp2] env = (false, eval (.Name x xp2) env) :: starEach [] env)
    (hsw : ∀ env, env.scope = C → swapsWith (.Call (.Name "_law_found" np) [.Name x xp, .Call (.Name "len" lp) [.Name x xp2] [] lq] [] cp) (some (.Name y px)) pos.line env = pure false) :
    DenX W (n + 2) C sl (.Assign [.Name y px] (.Call (.Name "_law_found" np) [.Name x xp, .Call (.Name "len" lp) [.Name x xp2] [] lq] [] cp) pos) (foundF i j) := by
  intro A env hE P0 P X μ ℓ s out E Q Y S ht hg0 q
  unfold foundF at hg0
  split at hg0
  case h_2 => cases hg0
  rename_i l hl
  split at hg0
  case h_2 => cases hg0
  rename_i ns hns
  split at hg0
  case isFalse => cases hg0
  rename_i hlen
  cases hg0
  obtain ⟨hH, xx, vs, hp, r⟩ := S.own_at hi hl
  have X0 := S.cx Y ht
  obtain ⟨hints, htoks⟩ := r.fints hns
  have hlen2 : ns.length = l.length := by rw [← hints.length, r.length]
  refine wpAny_Assign_Name ?_ (hsw env Y.scope)
  refine Call_Name (trees := backTo cp (starEach [.Name x xp, .Call (.Name "len" lp) [.Name x xp2] [] lq] env)) rfl (load_g O X0 hcf (by decide) K.gf (call_form X0 K.Ff.form h1 ?_))
  have htr : backTo cp (starEach [.Name x xp, .Call (.Name "len" lp) [.Name x xp2] [] lq] env) = [(false, eval (.Name x xp) env), (false, eval (.Call (.Name "len" lp) [.Name x xp2] [] lq) env)] := by rw [hs]; rfl
  rw [htr]
  refine spliced_cons (wpAny_Name (hH.load X0.kindE hxc ?_) hxd)
  have Dlen : DenF W (n + 2) C sl (.Call (.Name "len" lp) [.Name x xp2] [] lq) (fun ℓ => (lookA ℓ i).bind lenF) := den_lenF O hcl gl h1l hsl (den_nameA i hi hxd hxc)
  have elen : (lookA ℓ i).bind lenF = some (ns.length : Int) := by
    unfold lookA
    rw [hl]
    show lenF (.pla l) = _
    unfold lenF
    show (if szOK l then some (l.length : Int) else none) = _
    rw [if_pos (by unfold szOK; simp; omega), hlen2]
  refine spliced_cons (Dlen X0 S.toL elen fun t h₁ tk₁ g₁ t₁ t₁' => ?_)
  refine spliced_nil ⟨g₁, ?_⟩
  have hp1 : h₁.PlainList (μ i) vs := by obtain ⟨c, e'⟩ := hp; exact ⟨c, g₁ _ _ e'⟩
  obtain ⟨outF, hfr, hffE⟩ := Y.frames
  refine found_call (n := n) (s := { s with heap := h₁, toks := tk₁ }) O K.F K.hchk K.hb K.hbody K.hla K.hlb K.hli K.hlj K.hle K.hlv K.ge K.gv K.Ff K.gi K.hchkf K.hbf K.hbodyf K.hld K.hls K.hlif K.hlvf
    (X0.grow g₁ (Nat.le_trans t₁ (Nat.le_of_lt t₁'))).cs hp1.isList hints (fun j' i' u e => ?_) (smallInt_nat hlen) hfr fun a us h₂ tk₂ ha hpl gN t₂ hus => ?_
  · obtain ⟨u1, u2⟩ := htoks j' i' u (by simpa using e)
    exact ⟨u1, Nat.lt_of_lt_of_le u2 t₁⟩
  · have t₂' : tk₁ ≤ tk₂ := t₂
    have gN' : GrowN (onStack (env :: outF)) h₁ h₂ := gN
    have ha' : h₁.get? a = none := ha
    have stk : ∀ b, onStack (env :: outF) b → b = env.locals ∨ W.N b := fun b hb => by
      unfold onStack at hb
      rw [List.filterMap_cons, Y.frame] at hb
      rcases List.mem_cons.mp hb with e | e
      · exact .inl e
      · exact .inr (Y.outer hfull outF hfr b e)
    have na : ∀ {b o}, h₁.get? b = some o → b ≠ a := fun e q => by rw [q, ha'] at e; cases e
    have ex : ∀ b o, b ≠ env.locals → ¬ W.N b → h₁.get? b = some o → h₂.get? b = some o := fun b o h1 h2 e => (gN' b o e).1 fun hb => by
      rcases stk b hb with q | q
      · exact h1 q
      · exact h2 q
    have tkk : s.toks ≤ tk₂ := Nat.le_trans t₁ (Nat.le_trans (Nat.le_of_lt t₁') t₂')
    have S₂ : SRel W hE P0 P X μ env sl ℓ (hideAll h₂ [a]) tk₂ := (S.step g₁ (Nat.le_trans t₁ (Nat.le_of_lt t₁'))).noted
      (fun b o h1 h2 e => hideAll_get [a] (ex b o h1 h2 e) (by simpa using na e))
      (fun b o e => by obtain ⟨s2, e2⟩ := (gN' b o e).2; exact ⟨s2, hideAll_get [a] e2 (by simpa using na e)⟩) t₂'
    have rl : VRs (fun _ => False) h₂ tk₂ (foundV ns.length ns) us.toList := by
      rcases hus with ⟨e1, e2⟩ | ⟨jj, u, e1, e2, e3⟩
      · unfold foundV; rw [firstAt_none e2, e1]; rfl
      · unfold foundV; rw [firstAt_some e2 e3, e1]
        exact ⟨_, _, rfl, ⟨u, by rw [Nat.zero_add]⟩, rfl⟩
    refine storeO (s := { s with heap := hideAll h₂ [a], toks := tk₂ }) (h1 := h₂) (tk1 := tk₂) (P1 := fun _ => False) Y S₂ hj hy (fun _ f => f.elim) (fun f => f) (hideAll_none [a] (by simp)) (fun b o e => of_hideAll [a] e) (Nat.le_refl _) hpl rl (fun _ => False) (fun _ f => f.elim) (fun _ f => f.elim) fun h₃ tk₃ S₃ t₃ k₃ => ?_
    refine q _ _ _ h₃ tk₃ S₃ (Nat.le_trans tkk t₃) (fun b o nb nn e => ?_) (fun b xb => ?_)
    · have e1 := g₁ b o e
      exact k₃ b o (fun xb => by rcases xb with xb | xb; exact nb xb; exact na e1 xb) (ex b o (fun q => nb (q ▸ S.frm.1)) nn e1)
    · rcases xb with xb | xb
      · exact .inl xb
      · rw [xb]; exact .inr (Grow.none g₁ ha')
end
end Mine
end
section
open PySem PySem.W PyProof.Rows PySem.Calls
set_option Elab.async false
set_option linter.unusedVariables false
set_option linter.unusedSimpArgs false
namespace Mine
section
variable {W : Wd} {n : Nat} {C : Scope} {sl : List Str}
theorem firstAt_spec {k : Int} : ∀ {l : List Int} {i m : Nat}, firstAt k l i = some m → ∃ j, m = i + j ∧ l[j]? = some k
  | [], _, _, h => by cases h
  | x :: r, i, m, h => by
    unfold firstAt at h
    split at h
    · rename_i e; cases h; exact ⟨0, rfl, by rw [e]; rfl⟩
    · obtain ⟨j, e1, e2⟩ := firstAt_spec h
      exact ⟨j + 1, by omega, by simpa using e2⟩
noncomputable def indexF (l : List MV) (k : Int) : Option MV := match fints l with
  | some ns => if smallInt k then (match firstAt k ns 0 with | some j => some (.int j) | none => none) else none
  | none => none
theorem den_indexOf (O : W.Ok) (K : FoundAt W) {np pos : Pos} {e1 e2 : Expr} {g1 : LF} {g2 : List LV → Option Int} (hx : C.names.lookup ("indexOf" : Str) = some .globalImplicit) (h1 : OneArg [e1, e2]) (hs : ∀ env, starEach [e1, e2] env = [(false, eval e1 env), (false, eval e2 env)])
    (D1 : DenA W (n + 1) C sl e1 g1) (D2 : DenF W (n + 1) C sl e2 g2) :
    DenE W (n + 1) C sl (.Call (.Name "indexOf" np) [e1, e2] [] pos) (fun ℓ => match g1 ℓ, g2 ℓ with
      | some lv, some k => (match lv.list? with | some l => indexF l k | none => none)
      | _, _ => none) := by
  intro A env P ℓ s m E Q X R hm q
  dsimp only at hm
  split at hm
  case h_2 => cases hm
  rename_i lv k hlv hk
  split at hm
  case h_2 => cases hm
  rename_i l hl
  unfold indexF at hm
  split at hm
  case h_2 => cases hm
  rename_i ns hns
  split at hm
  case isFalse => cases hm
  rename_i hsm
  split at hm
  case h_2 => cases hm
  rename_i j0 hj0
  cases hm
  refine Call_Name (trees := backTo pos (starEach [e1, e2] env)) rfl (load_g O X hx (by decide) K.gi (call_form X K.F.form h1 ?_))
  have htr : backTo pos (starEach [e1, e2] env) = [(false, eval e1 env), (false, eval e2 env)] := by rw [hs]; rfl
  rw [htr]
  refine spliced_cons (D1 X R hlv fun v h₁ tk₁ g₁ t₁ r₁ => ?_)
  refine spliced_cons (D2 (P := PF P s.heap) (s := { s with heap := h₁, toks := tk₁ }) (X.grow g₁ t₁) (R.grow (fun a p => PF.sub p) g₁ t₁) hk fun t h₂ tk₂ g₂ t₂ t₂' => ?_)
  obtain ⟨a, vs, rfl, hL, r⟩ := r₁.list hl
  obtain ⟨hints, htoks⟩ := r.fints hns
  have g₂' : Grow h₁ h₂ := g₂
  have t₂2 : tk₁ ≤ t := t₂
  refine spliced_nil ⟨g₁.trans g₂', ?_⟩
  have X₂ := X.grow (g₁.trans g₂') (Nat.le_trans t₁ (Nat.le_trans t₂2 (Nat.le_of_lt t₂')))
  obtain ⟨out, hfr, hff⟩ := X₂.frames
  obtain ⟨j1, _, hj1⟩ := firstAt_spec hj0
  refine index_call (n := n) (s := { s with heap := h₂, toks := tk₂ }) (base := W.hB) O K.F K.hchk K.hb K.hbody K.hla K.hlb K.hli K.hlj K.hle K.hlv K.ge K.gv X₂.cs (isList_on (P := fun _ => True) g₂'.on trivial hL) hints
    (fun j' i' u e => ?_) hsm hfr X₂.base hff (fun jj h₃ tk₃ u e1 e2 g₃ t₃ => ?_) (fun e h₃ tk₃ hno => absurd hj1 (hno j1))
  · obtain ⟨u1, u2⟩ := htoks j' i' u (by simpa using e)
    exact ⟨u1, Nat.lt_of_lt_of_le u2 t₂2⟩
  · have t₃' : tk₂ ≤ tk₃ := t₃
    have g₃' : Grow h₂ h₃ := g₃
    have := firstAt_some (i := 0) e1 e2
    rw [hj0] at this
    cases this
    exact q _ h₃ tk₃ (g₁.trans (g₂'.trans g₃')) (by omega) ⟨u, by rw [Nat.zero_add]⟩

/-! a pair taken apart -/
noncomputable def unpF (i j : Nat) (f : MF) : SF := fun ℓ => match f ℓ with
  | some (.tup [a, b]) => some (.next ((ℓ.set i (.val a)).set j (.val b)))
  | _ => none
theorem den_unpack2 {x y : Str} {px py tp pos : Pos} {k : Nat} {e : Expr} {f : MF} (i j : Nat) (hi : sl[i]? = some x) (hj : sl[j]? = some y) (hx : isVar C x = true) (hy : isVar C y = true)
    (hsw : ∀ env, env.scope = C → swapsWithSole [.Tuple [.Name x px, .Name y py] k tp] e pos.line env = pure false) (hss : ∀ env, env.scope = C → swappedStores [.Tuple [.Name x px, .Name y py] k tp] e env = pure none) (D : DenE W n C sl e f) :
    DenX W n C sl (.Assign [.Tuple [.Name x px, .Name y py] k tp] e pos) (unpF i j f) := by
  intro A env hE P0 P X μ ℓ s out E Q Y S ht hg q
  unfold unpF at hg
  split at hg
  case h_2 => cases hg
  rename_i a b hm
  cases hg
  refine wpAny_Assign_stores ?_ (hsw env Y.scope) (hss env Y.scope)
  refine D (S.cx Y ht) S.toL hm fun v h1 tk1 g t r => ?_
  obtain ⟨ad, vs, rfl, pa, htup, rs⟩ := r
  obtain ⟨va, r1, e1, ra, vb, r2, e2, rb, e3⟩ := rs
  have e3' : r2 = [] := e3
  have hvs : vs = #[va, vb] := by
    have : vs.toList = [va, vb] := by rw [e1, e2, e3']
    apply Array.ext'; rw [this]
  subst hvs
  have g' : Grow s.heap h1 := g
  have t' : s.toks ≤ tk1 := t
  have hT : h1.IsTuple ad #[va, vb] := htup
  have S1 := S.pf g' t'
  have hh : A.handled = none := Y.handled
  show wpAny _ A (assign (.Tuple [.Name x px, .Name y py] k tp) env (.ref ad)) _ _ _
  refine wpAny_assign_Tuple (s := { s with heap := h1, toks := tk1 }) hh hT rfl rfl fun h2 hx2 => ?_
  have hx2' : Heap.ExtBut h1.objs.size h1 h2 := hx2
  have g2 : Grow h1 h2 := fun b o e => hx2' b o (Nat.ne_of_lt (Heap.lt_size e)) e
  have S2 := S1.step g2 (Nat.le_refl tk1)
  show wpAny _ A (do holding [vb] (assign (.Name x px) env va); do holding [] (assign (.Name y py) env vb); pure ()) _ _ _
  refine wpAny_bind (wpAny_holding (wpAny_assign_Name ?_))
  refine SRel.store (s := { s with heap := h2, toks := tk1 }) (lv := .val a) (μ' := μ) S2 (by rw [Y.scope]; exact Y.kind) (isVar_kind hx Y.scope) hi (VR.grow g2 (Nat.le_refl _) ra) trivial (fun _ _ => rfl) (fun l e => by cases e) fun h3 tk3 S3 t3 k3 => ?_
  have t3' : tk1 ≤ tk3 := t3
  have k3' : ∀ b o, ¬ X b → h2.get? b = some o → h3.get? b = some o := k3
  refine wpAny_bind (wpAny_holding (wpAny_assign_Name ?_))
  have rb3 : VR (PF P s.heap) h3 tk3 b vb := VR.mono (fun _ p => p) (fun b o p e => k3' b o (S1.PX b p) (g2 b o e)) t3' rb
  refine SRel.store (s := { s with heap := h3, toks := tk3 }) (lv := .val b) (μ' := μ) S3 (by rw [Y.scope]; exact Y.kind) (isVar_kind hy Y.scope) hj rb3 trivial (fun _ _ => rfl) (fun l e => by cases e) fun h4 tk4 S4 t4 k4 => ?_
  have t4' : tk3 ≤ tk4 := t4
  refine wpAny_pure ?_
  exact q _ X μ h4 tk4 S4 (by omega) (fun b o nb _ e => k4 b o nb (k3' b o nb (g2 b o (g' b o e)))) (fun a x => .inl x)
end
end Mine
end
section
open PySem PySem.W PyProof.Rows PySem.Calls
set_option Elab.async false
set_option linter.unusedVariables false
set_option linter.unusedSimpArgs false
namespace Mine
open Sre (M)
/-- the machine comes to an end, in so many steps at most -/
noncomputable def Ends (k : Nat) (m : M) (Φ : M → Prop) : Prop := ∃ n, n ≤ k ∧ (m.runFor n).outcome.isSome = true ∧ Φ (m.runFor n)
theorem Ends.step {k : Nat} {m m1 : M} {Φ : M → Prop} (h0 : m.outcome = none) (e : m.step = m1) (h : Ends k m1 Φ) : Ends (k + 1) m Φ := by
  obtain ⟨n, hn, h1, h2⟩ := h
  have er : m.runFor (n + 1) = m1.runFor n := by
    show (if m.outcome.isSome then m else M.runFor n m.step) = _
    rw [h0, if_neg (by decide), e]
  exact ⟨n + 1, Nat.succ_le_succ hn, by rw [er]; exact h1, by rw [er]; exact h2⟩
theorem Ends.stop {m : M} {Φ : M → Prop} (h0 : m.outcome.isSome = true) (h : Φ m) (k : Nat) : Ends k m Φ := ⟨0, Nat.zero_le _, h0, h⟩
theorem Ends.le {k k' : Nat} {m : M} {Φ : M → Prop} (h : Ends k m Φ) (hk : k ≤ k') : Ends k' m Φ := let ⟨n, a, b⟩ := h; ⟨n, Nat.le_trans a hk, b⟩

/-! one step of the machine -/
section
variable {m : M}
theorem step_exec (h0 : m.outcome = none) (h1 : m.answer = none) (hpc : m.pc < m.code.size) : m.step = m.exec := by
  unfold M.step
  rw [h0, h1]
  simp only [Option.isSome_none, Bool.false_eq_true, if_false]
  rw [if_pos hpc]
theorem step_resume {yes : Bool} {f : Sre.Frame} {rest : List Sre.Frame} (h0 : m.outcome = none) (h1 : m.answer = some yes) (hf : m.frames = f :: rest) :
    m.step = { m with answer := none, frames := rest, weight := m.weight - (1 + f.kept.marks.size), pc := f.pc, pos := f.pos, outermost := f.outermost }.resume f yes := by
  unfold M.step
  rw [h0, h1, hf]
  simp only [Option.isSome_none, Bool.false_eq_true, if_false]
theorem step_end {yes : Bool} (h0 : m.outcome = none) (h1 : m.answer = some yes) (hf : m.frames = []) : m.step = { m with outcome := some (if yes then .matched else .failed) } := by
  unfold M.step
  rw [h0, h1, hf]
  simp only [Option.isSome_none, Bool.false_eq_true, if_false]
theorem exec_lit {c : Nat} (hop : m.word 0 = 16) (hc : m.word 1 = c) : m.exec = (if m.pos ≥ m.lim then { m with seen := m.seen.add (m.word 0) }.say false else
    if m.text.getD m.pos 0 = c then { m with seen := m.seen.add (m.word 0), pc := m.pc + 2, pos := m.pos + 1 } else { m with seen := m.seen.add (m.word 0) }.say false) := by
  have hop' : Sre.ops[m.word 0]? = some .LITERAL := by rw [hop]; rfl
  have hcode : m.code.getD m.pc 0 = 16 := hop
  have hc' : m.code.getD (m.pc + 1) 0 = c := hc
  unfold M.exec
  rw [hop']
  dsimp only
  by_cases hl : m.pos ≥ m.lim
  · rw [if_pos hl, if_pos hl]
  · rw [if_neg hl, if_neg hl]
    have ha : ∀ x sn, Sre.accepts m.code m.pc x sn = .ok (x == m.code.getD (m.pc + 1) 0, sn) := fun x sn => by
      unfold Sre.accepts
      rw [hcode]
      rfl
    have hw : Sre.itemWidth m.code m.pc = 2 := by
      unfold Sre.itemWidth
      rw [hcode]
      rfl
    rw [ha, hw, hc']
    by_cases h : m.text.getD m.pos 0 = c
    · rw [if_pos h, h, beq_self_eq_true]
    · rw [if_neg h, beq_eq_false_iff_ne.mpr h]
theorem exec_jump (hop : m.word 0 = 15) : m.exec = { m with seen := m.seen.add (m.word 0), pc := m.pc + 1 + m.word 1 } := by
  have hop' : Sre.ops[m.word 0]? = some .JUMP := by rw [hop]; rfl
  unfold M.exec
  rw [hop']; rfl
theorem exec_success (hop : m.word 0 = 1) (h : m.outermost = false ∨ (m.wholeText = false ∧ (m.mustAdvance = false ∨ m.pos ≠ m.start))) : m.exec = { m with seen := m.seen.add (m.word 0), handed := m.pos }.say true := by
  have hop' : Sre.ops[m.word 0]? = some .SUCCESS := by rw [hop]; rfl
  unfold M.exec
  rw [hop']
  dsimp only
  have : (m.outermost && ((m.wholeText && m.pos != m.lim) || (m.mustAdvance && m.pos == m.start))) = false := by
    rcases h with h | ⟨h1, h2 | h2⟩
    · rw [h]; rfl
    · rw [h1, h2]; simp
    · rw [h1, beq_eq_false_iff_ne.mpr h2]; simp
  rw [this]
  rfl
theorem exec_branch (hop : m.word 0 = 7) (hi : m.inner = none) : m.exec = { m with seen := m.seen.add (m.word 0) }.alternative (m.pc + 1) { lastmark := m.lastmark, lastindex := m.lastindex, whole := false, marks := #[] } := by
  have hop' : Sre.ops[m.word 0]? = some .BRANCH := by rw [hop]; rfl
  unfold M.exec
  rw [hop']
  dsimp only
  unfold M.keep
  rw [hi]
  rfl
theorem alternative_go {alt : Nat} {kept : Sre.Kept} (h : m.code.getD alt 0 ≠ 0) (hk : kept.marks = #[]) (hw : m.weight ≤ 1000) : m.alternative alt kept =
    { m with frames := { wait := .nextBranch, pc := alt, pos := m.pos, outermost := m.outermost, kept := kept } :: m.frames, weight := m.weight + 1, pc := alt + 1, pos := m.pos, handed := m.pos, outermost := m.outermost } := by
  unfold M.alternative
  have h1 : (m.code.getD alt 0 == 0) = false := beq_eq_false_iff_ne.mpr h
  rw [h1]
  simp only [Bool.false_eq_true, if_false]
  unfold M.attempt M.frame
  dsimp only
  rw [hk]
  rw [if_neg (by simp; omega)]
  simp
end
end Mine
end
section
open PySem PySem.W PyProof.Rows PySem.Calls
set_option Elab.async false
set_option linter.unusedVariables false
set_option linter.unusedSimpArgs false
namespace Mine
open Sre (M)
noncomputable def C2 : Array Nat := #[14, 9, 4, 1, 2, 16, 10, 16, 13, 0, 7, 7, 16, 13, 16, 10, 15, 18, 5, 16, 10, 15, 13, 11, 16, 13, 5, 5, 0, 16, 10, 1, 15, 2, 0, 1]
/-- the machine of the second pattern, at a start -/
noncomputable def A2 (T : Array Nat) (ls s : Nat) (S : Sre.Seen) : M :=
  { code := C2, text := T, lim := T.size, start := s, lastStart := ls, wholeText := false, mustAdvance := false, pc := 10, pos := s, handed := s, outermost := true, marks := #[], lastmark := -1, lastindex := -1, loops := #[], inner := none,
    frames := [{ wait := .nextStart, pc := 10, pos := s, outermost := true }], weight := 1, answer := none, seen := S, outcome := none }
noncomputable def Hit (s e : Nat) (r : M) : Prop := r.outcome = some .matched ∧ r.start = s ∧ r.handed = e
theorem resume_next_yes {m : M} {f : Sre.Frame} (h : f.wait = .nextStart ∨ f.wait = .nextBranch) : m.resume f true = m.say true := by
  unfold M.resume
  rcases h with h | h <;> rw [h] <;> rfl
theorem resume_branch_no {m : M} {f : Sre.Frame} (h : f.wait = .nextBranch) : m.resume f false = (m.putBack f.kept).alternative (f.pc + m.code.getD f.pc 0) f.kept := by
  unfold M.resume
  rw [h]; rfl
theorem resume_start_no {m : M} {f : Sre.Frame} (h : f.wait = .nextStart) : m.resume f false = if f.pos < m.lastStart then { m with mustAdvance := false }.attemptFrom (f.pos + 1) false else m.say false := by
  unfold M.resume
  rw [h]; rfl
theorem resume_lookNot_no {m : M} {f : Sre.Frame} (h : f.wait = .lookNot) : m.resume f false = { m.putBack f.kept with pc := m.pc + 1 + m.word 1 } := by
  unfold M.resume
  rw [h]; rfl
theorem exec_assertNot {m : M} (hop : m.word 0 = 5) (h2 : m.word 2 = 0) (hi : m.inner = none) (hw : m.weight ≤ 1000) : m.exec =
    { m with seen := m.seen.add (m.word 0), frames := { wait := .lookNot, pc := m.pc, pos := m.pos, outermost := m.outermost, kept := { lastmark := m.lastmark, lastindex := m.lastindex, whole := false, marks := #[] } } :: m.frames, weight := m.weight + 1, pc := m.pc + 3, pos := m.pos, handed := m.pos, outermost := false } := by
  have hop' : Sre.ops[m.word 0]? = some .ASSERT_NOT := by rw [hop]; rfl
  unfold M.exec
  rw [hop']
  dsimp only
  have h2' : ({ m with seen := m.seen.add (m.word 0) } : M).word 2 = 0 := h2
  rw [h2']
  rw [if_neg (Nat.not_lt_zero _)]
  unfold M.attempt M.frame M.keep
  dsimp only
  rw [hi]
  rw [if_neg (by simp; omega)]
  simp
/-- return, feed -/
theorem hit_crlf {T : Array Nat} {ls s : Nat} {S : Sre.Seen} (h1 : s < T.size) (e1 : T.getD s 0 = 13) (h2 : s + 1 < T.size) (e2 : T.getD (s + 1) 0 = 10) : Ends 60 (A2 T ls s S) (Hit s (s + 2)) := by
  unfold A2
  refine Ends.step (k := 59) rfl (by rw [step_exec rfl rfl (Nat.le_of_ble_eq_true rfl), exec_branch rfl rfl, alternative_go (Nat.ne_of_beq_eq_false rfl) rfl (Nat.le_of_ble_eq_true rfl)]) ?_
  dsimp only [M.say, M.putBack]
  refine Ends.step (k := 58) rfl (by rw [step_exec rfl rfl (Nat.le_of_ble_eq_true rfl), exec_lit (c := 13) rfl rfl, if_neg (Nat.not_le.mpr h1), if_pos e1]) ?_
  dsimp only [M.say, M.putBack]
  refine Ends.step (k := 57) rfl (by rw [step_exec rfl rfl (Nat.le_of_ble_eq_true rfl), exec_lit (c := 10) rfl rfl, if_neg (Nat.not_le.mpr h2), if_pos e2]) ?_
  dsimp only [M.say, M.putBack]
  refine Ends.step (k := 56) rfl (by rw [step_exec rfl rfl (Nat.le_of_ble_eq_true rfl), exec_jump rfl]) ?_
  dsimp only [M.say, M.putBack]
  refine Ends.step (k := 55) rfl (by rw [step_exec rfl rfl (Nat.le_of_ble_eq_true rfl), exec_success rfl (.inr ⟨rfl, .inl rfl⟩)]) ?_
  dsimp only [M.say, M.putBack]
  refine Ends.step (k := 54) rfl (by rw [step_resume rfl rfl rfl, resume_next_yes (.inr rfl)]) ?_
  dsimp only [M.say, M.putBack]
  refine Ends.step (k := 53) rfl (by rw [step_resume rfl rfl rfl, resume_next_yes (.inl rfl)]) ?_
  dsimp only [M.say, M.putBack]
  refine Ends.step (k := 52) rfl (by rw [step_end rfl rfl rfl]) ?_
  dsimp only [M.say, M.putBack]
  exact Ends.stop rfl ⟨rfl, rfl, rfl⟩ _
/-- a feed -/
theorem hit_feed {T : Array Nat} {ls s : Nat} {S : Sre.Seen} (h1 : s < T.size) (e1 : T.getD s 0 = 10) : Ends 60 (A2 T ls s S) (Hit s (s + 1)) := by
  have n13 : ¬ T.getD s 0 = 13 := by rw [e1]; decide
  unfold A2
  refine Ends.step (k := 59) rfl (by rw [step_exec rfl rfl (Nat.le_of_ble_eq_true rfl), exec_branch rfl rfl, alternative_go (Nat.ne_of_beq_eq_false rfl) rfl (Nat.le_of_ble_eq_true rfl)]) ?_
  dsimp only [M.say, M.putBack]
  refine Ends.step (k := 58) rfl (by rw [step_exec rfl rfl (Nat.le_of_ble_eq_true rfl), exec_lit (c := 13) rfl rfl, if_neg (Nat.not_le.mpr h1), if_neg n13]) ?_
  dsimp only [M.say, M.putBack]
  refine Ends.step (k := 57) rfl (by rw [step_resume rfl rfl rfl, resume_branch_no rfl, alternative_go (Nat.ne_of_beq_eq_false rfl) rfl (Nat.le_of_ble_eq_true rfl)]) ?_
  dsimp only [M.say, M.putBack]
  refine Ends.step (k := 56) rfl (by rw [step_exec rfl rfl (Nat.le_of_ble_eq_true rfl), exec_lit (c := 10) rfl rfl, if_neg (Nat.not_le.mpr h1), if_pos e1]) ?_
  dsimp only [M.say, M.putBack]
  refine Ends.step (k := 55) rfl (by rw [step_exec rfl rfl (Nat.le_of_ble_eq_true rfl), exec_jump rfl]) ?_
  dsimp only [M.say, M.putBack]
  refine Ends.step (k := 54) rfl (by rw [step_exec rfl rfl (Nat.le_of_ble_eq_true rfl), exec_success rfl (.inr ⟨rfl, .inl rfl⟩)]) ?_
  dsimp only [M.say, M.putBack]
  refine Ends.step (k := 53) rfl (by rw [step_resume rfl rfl rfl, resume_next_yes (.inr rfl)]) ?_
  dsimp only [M.say, M.putBack]
  refine Ends.step (k := 52) rfl (by rw [step_resume rfl rfl rfl, resume_next_yes (.inl rfl)]) ?_
  dsimp only [M.say, M.putBack]
  refine Ends.step (k := 51) rfl (by rw [step_end rfl rfl rfl]) ?_
  dsimp only [M.say, M.putBack]
  exact Ends.stop rfl ⟨rfl, rfl, rfl⟩ _
/-- a return, then not a feed -/
theorem hit_cr {T : Array Nat} {ls s : Nat} {S : Sre.Seen} (h1 : s < T.size) (e1 : T.getD s 0 = 13) (h2 : s + 1 < T.size) (e2 : ¬ T.getD (s + 1) 0 = 10) : Ends 60 (A2 T ls s S) (Hit s (s + 1)) := by
  have n10 : ¬ T.getD s 0 = 10 := by rw [e1]; decide
  unfold A2
  refine Ends.step (k := 59) rfl (by rw [step_exec rfl rfl (Nat.le_of_ble_eq_true rfl), exec_branch rfl rfl, alternative_go (Nat.ne_of_beq_eq_false rfl) rfl (Nat.le_of_ble_eq_true rfl)]) ?_
  dsimp only [M.say, M.putBack]
  refine Ends.step (k := 58) rfl (by rw [step_exec rfl rfl (Nat.le_of_ble_eq_true rfl), exec_lit (c := 13) rfl rfl, if_neg (Nat.not_le.mpr h1), if_pos e1]) ?_
  dsimp only [M.say, M.putBack]
  refine Ends.step (k := 57) rfl (by rw [step_exec rfl rfl (Nat.le_of_ble_eq_true rfl), exec_lit (c := 10) rfl rfl, if_neg (Nat.not_le.mpr h2), if_neg e2]) ?_
  dsimp only [M.say, M.putBack]
  refine Ends.step (k := 56) rfl (by rw [step_resume rfl rfl rfl, resume_branch_no rfl, alternative_go (Nat.ne_of_beq_eq_false rfl) rfl (Nat.le_of_ble_eq_true rfl)]) ?_
  dsimp only [M.say, M.putBack]
  refine Ends.step (k := 55) rfl (by rw [step_exec rfl rfl (Nat.le_of_ble_eq_true rfl), exec_lit (c := 10) rfl rfl, if_neg (Nat.not_le.mpr h1), if_neg n10]) ?_
  dsimp only [M.say, M.putBack]
  refine Ends.step (k := 54) rfl (by rw [step_resume rfl rfl rfl, resume_branch_no rfl, alternative_go (Nat.ne_of_beq_eq_false rfl) rfl (Nat.le_of_ble_eq_true rfl)]) ?_
  dsimp only [M.say, M.putBack]
  refine Ends.step (k := 53) rfl (by rw [step_exec rfl rfl (Nat.le_of_ble_eq_true rfl), exec_lit (c := 13) rfl rfl, if_neg (Nat.not_le.mpr h1), if_pos e1]) ?_
  dsimp only [M.say, M.putBack]
  refine Ends.step (k := 52) rfl (by rw [step_exec rfl rfl (Nat.le_of_ble_eq_true rfl), exec_assertNot rfl rfl rfl (Nat.le_of_ble_eq_true rfl)]) ?_
  dsimp only [M.say, M.putBack]
  refine Ends.step (k := 51) rfl (by rw [step_exec rfl rfl (Nat.le_of_ble_eq_true rfl), exec_lit (c := 10) rfl rfl, if_neg (Nat.not_le.mpr h2), if_neg e2]) ?_
  dsimp only [M.say, M.putBack]
  refine Ends.step (k := 50) rfl (by rw [step_resume rfl rfl rfl, resume_lookNot_no rfl]) ?_
  dsimp only [M.say, M.putBack]
  refine Ends.step (k := 49) rfl (by rw [step_exec rfl rfl (Nat.le_of_ble_eq_true rfl), exec_jump rfl]) ?_
  dsimp only [M.say, M.putBack]
  refine Ends.step (k := 48) rfl (by rw [step_exec rfl rfl (Nat.le_of_ble_eq_true rfl), exec_success rfl (.inr ⟨rfl, .inl rfl⟩)]) ?_
  dsimp only [M.say, M.putBack]
  refine Ends.step (k := 47) rfl (by rw [step_resume rfl rfl rfl, resume_next_yes (.inr rfl)]) ?_
  dsimp only [M.say, M.putBack]
  refine Ends.step (k := 46) rfl (by rw [step_resume rfl rfl rfl, resume_next_yes (.inl rfl)]) ?_
  dsimp only [M.say, M.putBack]
  refine Ends.step (k := 45) rfl (by rw [step_end rfl rfl rfl]) ?_
  dsimp only [M.say, M.putBack]
  exact Ends.stop rfl ⟨rfl, rfl, rfl⟩ _
/-- a return at the end -/
theorem hit_cr_end {T : Array Nat} {ls s : Nat} {S : Sre.Seen} (h1 : s < T.size) (e1 : T.getD s 0 = 13) (hend : s + 1 ≥ T.size) : Ends 60 (A2 T ls s S) (Hit s (s + 1)) := by
  have n10 : ¬ T.getD s 0 = 10 := by rw [e1]; decide
  unfold A2
  refine Ends.step (k := 59) rfl (by rw [step_exec rfl rfl (Nat.le_of_ble_eq_true rfl), exec_branch rfl rfl, alternative_go (Nat.ne_of_beq_eq_false rfl) rfl (Nat.le_of_ble_eq_true rfl)]) ?_
  dsimp only [M.say, M.putBack]
  refine Ends.step (k := 58) rfl (by rw [step_exec rfl rfl (Nat.le_of_ble_eq_true rfl), exec_lit (c := 13) rfl rfl, if_neg (Nat.not_le.mpr h1), if_pos e1]) ?_
  dsimp only [M.say, M.putBack]
  refine Ends.step (k := 57) rfl (by rw [step_exec rfl rfl (Nat.le_of_ble_eq_true rfl), exec_lit (c := 10) rfl rfl, if_pos hend]) ?_
  dsimp only [M.say, M.putBack]
  refine Ends.step (k := 56) rfl (by rw [step_resume rfl rfl rfl, resume_branch_no rfl, alternative_go (Nat.ne_of_beq_eq_false rfl) rfl (Nat.le_of_ble_eq_true rfl)]) ?_
  dsimp only [M.say, M.putBack]
  refine Ends.step (k := 55) rfl (by rw [step_exec rfl rfl (Nat.le_of_ble_eq_true rfl), exec_lit (c := 10) rfl rfl, if_neg (Nat.not_le.mpr h1), if_neg n10]) ?_
  dsimp only [M.say, M.putBack]
  refine Ends.step (k := 54) rfl (by rw [step_resume rfl rfl rfl, resume_branch_no rfl, alternative_go (Nat.ne_of_beq_eq_false rfl) rfl (Nat.le_of_ble_eq_true rfl)]) ?_
  dsimp only [M.say, M.putBack]
  refine Ends.step (k := 53) rfl (by rw [step_exec rfl rfl (Nat.le_of_ble_eq_true rfl), exec_lit (c := 13) rfl rfl, if_neg (Nat.not_le.mpr h1), if_pos e1]) ?_
  dsimp only [M.say, M.putBack]
  refine Ends.step (k := 52) rfl (by rw [step_exec rfl rfl (Nat.le_of_ble_eq_true rfl), exec_assertNot rfl rfl rfl (Nat.le_of_ble_eq_true rfl)]) ?_
  dsimp only [M.say, M.putBack]
  refine Ends.step (k := 51) rfl (by rw [step_exec rfl rfl (Nat.le_of_ble_eq_true rfl), exec_lit (c := 10) rfl rfl, if_pos hend]) ?_
  dsimp only [M.say, M.putBack]
  refine Ends.step (k := 50) rfl (by rw [step_resume rfl rfl rfl, resume_lookNot_no rfl]) ?_
  dsimp only [M.say, M.putBack]
  refine Ends.step (k := 49) rfl (by rw [step_exec rfl rfl (Nat.le_of_ble_eq_true rfl), exec_jump rfl]) ?_
  dsimp only [M.say, M.putBack]
  refine Ends.step (k := 48) rfl (by rw [step_exec rfl rfl (Nat.le_of_ble_eq_true rfl), exec_success rfl (.inr ⟨rfl, .inl rfl⟩)]) ?_
  dsimp only [M.say, M.putBack]
  refine Ends.step (k := 47) rfl (by rw [step_resume rfl rfl rfl, resume_next_yes (.inr rfl)]) ?_
  dsimp only [M.say, M.putBack]
  refine Ends.step (k := 46) rfl (by rw [step_resume rfl rfl rfl, resume_next_yes (.inl rfl)]) ?_
  dsimp only [M.say, M.putBack]
  refine Ends.step (k := 45) rfl (by rw [step_end rfl rfl rfl]) ?_
  dsimp only [M.say, M.putBack]
  exact Ends.stop rfl ⟨rfl, rfl, rfl⟩ _
end Mine
end
section
open PySem PySem.W PyProof.Rows PySem.Calls
set_option Elab.async false
set_option linter.unusedVariables false
set_option linter.unusedSimpArgs false
namespace Mine
open Sre (M)
theorem inSet_C2 (c : Nat) (S : Sre.Seen) : ∃ S', Sre.inSet C2 c C2.size 5 true S = .ok (c == 10 || c == 13, S') := by
  show ∃ S', (if (c == 10) = true then _ else if (c == 13) = true then _ else _) = _
  cases h1 : c == 10 with
  | true => exact ⟨_, rfl⟩
  | false =>
    cases h2 : c == 13 with
    | true => exact ⟨_, rfl⟩
    | false => exact ⟨_, rfl⟩
/-- the next line end -/
noncomputable def nextEnd (T : Array Nat) : (fuel s : Nat) → Option Nat
  | 0, _ => none
  | fuel + 1, s => if s ≥ T.size then none else if T.getD s 0 == 10 || T.getD s 0 == 13 then some s else nextEnd T fuel (s + 1)
theorem admitted_C2 {m : M} (hc : m.code = C2) (hl : m.lim = m.text.size) : ∀ (fuel s : Nat) (S : Sre.Seen), ∃ S', M.admitted m fuel s S = .ok (nextEnd m.text fuel s, S')
  | 0, s, S => ⟨S, rfl⟩
  | fuel + 1, s, S => by
    unfold M.admitted nextEnd
    rw [hl]
    by_cases h : s ≥ m.text.size
    · rw [if_pos h, if_pos h]; exact ⟨_, rfl⟩
    · rw [if_neg h, if_neg h, hc]
      obtain ⟨S1, e1⟩ := inSet_C2 (m.text.getD s 0) S
      rw [e1]
      cases hx : (m.text.getD s 0 == 10 || m.text.getD s 0 == 13) with
      | true => exact ⟨S1, rfl⟩
      | false =>
        obtain ⟨S2, e2⟩ := admitted_C2 hc hl fuel (s + 1) S1
        exact ⟨S2, e2⟩
theorem nextEnd_some {T : Array Nat} : ∀ {fuel s i : Nat}, nextEnd T fuel s = some i → s ≤ i ∧ i < T.size ∧ (T.getD i 0 = 10 ∨ T.getD i 0 = 13) ∧ ∀ j, s ≤ j → j < i → T.getD j 0 ≠ 10 ∧ T.getD j 0 ≠ 13
  | 0, _, _, h => by cases h
  | fuel + 1, s, i, h => by
    unfold nextEnd at h
    split at h
    · cases h
    · rename_i hs
      split at h
      · rename_i hx
        cases h
        refine ⟨Nat.le_refl _, by omega, ?_, fun j a b => by omega⟩
        rw [Bool.or_eq_true, beq_iff_eq, beq_iff_eq] at hx
        exact hx
      · rename_i hx
        obtain ⟨a, b, c, d⟩ := nextEnd_some h
        refine ⟨by omega, b, c, fun j h1 h2 => ?_⟩
        by_cases hj : j = s
        · subst hj
          rw [Bool.or_eq_true, beq_iff_eq, beq_iff_eq, not_or] at hx
          exact hx
        · exact d j (by omega) h2
theorem nextEnd_none {T : Array Nat} : ∀ {fuel s : Nat}, nextEnd T fuel s = none → T.size < s + fuel → ∀ j, s ≤ j → j < T.size → T.getD j 0 ≠ 10 ∧ T.getD j 0 ≠ 13
  | 0, s, _, hf, j, h1, h2 => by omega
  | fuel + 1, s, h, hf, j, h1, h2 => by
    unfold nextEnd at h
    split at h
    · rename_i hs; omega
    · rename_i hs
      split at h
      · cases h
      · rename_i hx
        by_cases hj : j = s
        · subst hj
          rw [Bool.or_eq_true, beq_iff_eq, beq_iff_eq, not_or] at hx
          exact hx
        · exact nextEnd_none h (by omega) j (by omega) h2
/-- where a line end ends -/
noncomputable def endOf (T : Array Nat) (s : Nat) : Nat := if T.getD s 0 = 13 ∧ s + 1 < T.size ∧ T.getD (s + 1) 0 = 10 then s + 2 else s + 1
theorem hit_end {T : Array Nat} {ls s : Nat} {S : Sre.Seen} (h1 : s < T.size) (e1 : T.getD s 0 = 10 ∨ T.getD s 0 = 13) : Ends 60 (A2 T ls s S) (Hit s (endOf T s)) := by
  unfold endOf
  rcases e1 with e1 | e1
  · rw [if_neg (by rw [e1]; exact fun h => absurd h.1 (by decide))]
    exact hit_feed h1 e1
  · by_cases h2 : s + 1 < T.size
    · by_cases e2 : T.getD (s + 1) 0 = 10
      · rw [if_pos ⟨e1, h2, e2⟩]
        exact hit_crlf h1 e1 h2 e2
      · rw [if_neg (fun h => e2 h.2.2)]
        exact hit_cr h1 e1 h2 e2
    · rw [if_neg (fun h => h2 h.2.1)]
      exact hit_cr_end h1 e1 (by omega)
noncomputable def NoHit (r : M) : Prop := r.outcome = some .failed
noncomputable def F2 (T : Array Nat) (s ls : Nat) : M := { code := C2, text := T, lim := T.size, start := s, lastStart := ls, pc := 10, pos := s, handed := s, marks := #[], mustAdvance := false, seen := ({} : Sre.Seen).add 14 }
theorem forSearch_C2 (T : Array Nat) (s : Nat) : Sre.forSearch C2 T 0 s T.size false = if (decide (s > T.size) || decide (T.size - s < 1)) = true then (F2 T s 0).say false else (F2 T s T.size).attemptFrom s true := rfl
theorem no_hit {m : M} (h0 : m.outcome = none) (h1 : m.frames = []) : Ends 70 (m.say false) NoHit :=
  Ends.step (k := 69) h0 (step_end (yes := false) h0 rfl h1) (Ends.stop rfl (show some _ = some _ from rfl) _)
theorem search_C2 (T : Array Nat) (s : Nat) (hs : s ≤ T.size) : (∃ i, nextEnd T (T.size + 1 - s) s = some i ∧ Ends 70 (Sre.forSearch C2 T 0 s T.size false) (Hit i (endOf T i))) ∨
    (nextEnd T (T.size + 1 - s) s = none ∧ Ends 70 (Sre.forSearch C2 T 0 s T.size false) NoHit) := by
  rw [forSearch_C2]
  by_cases h1 : (decide (s > T.size) || decide (T.size - s < 1)) = true
  · rw [if_pos h1]
    have hsz : s = T.size := by
      simp at h1; omega
    refine .inr ⟨?_, no_hit rfl rfl⟩
    rw [show T.size + 1 - s = 0 + 1 by omega]
    unfold nextEnd
    rw [if_pos (by omega)]
  · rw [if_neg h1]
    unfold M.attemptFrom
    have hf : (F2 T s T.size).hasFirstSet = true := rfl
    rw [hf]
    obtain ⟨S', ha⟩ := admitted_C2 (m := F2 T s T.size) rfl rfl (T.size + 1 - s) s (F2 T s T.size).seen
    have ha' : M.admitted (F2 T s T.size) ((F2 T s T.size).lim + 1 - s) s (F2 T s T.size).seen = .ok (nextEnd T (T.size + 1 - s) s, S') := ha
    rw [ha']
    cases hn : nextEnd T (T.size + 1 - s) s with
    | none => exact .inr ⟨rfl, no_hit rfl rfl⟩
    | some i =>
      obtain ⟨_, hi, he, _⟩ := nextEnd_some hn
      exact .inl ⟨i, rfl, (hit_end (ls := T.size) (S := S') hi he).le (by decide)⟩
end Mine
end
section
open PySem PySem.W PyProof.Rows PySem.Calls
set_option Elab.async false
set_option linter.unusedVariables false
set_option linter.unusedSimpArgs false
namespace Mine
open Sre (M)
noncomputable def C1 : Array Nat := #[14, 4, 0, 1, 1, 6, 1, 16, 46, 1]
theorem exec_at1 {m : M} (hop : m.word 0 = 6) (hw : m.word 1 = 1) : m.exec = if (m.pos == 0 || m.text.getD (m.pos - 1) 0 == 10) = true then { m with seen := (m.seen.add (m.word 0)).add (43 + m.word 1), pc := m.pc + 2 } else { m with seen := (m.seen.add (m.word 0)).add (43 + m.word 1) }.say false := by
  have hop' : Sre.ops[m.word 0]? = some .AT := by rw [hop]; rfl
  unfold M.exec
  rw [hop']
  dsimp only
  have h1 : ({ m with seen := m.seen.add (m.word 0) } : M).word 1 = 1 := hw
  rw [h1]
  have h2 : ({ m with seen := m.seen.add (m.word 0) } : M).isAt 1 = .ok (m.pos == 0 || m.text.getD (m.pos - 1) 0 == 10) := rfl
  rw [h2, hw]
noncomputable def A1 (T : Array Nat) (ls s : Nat) (first : Bool) (S : Sre.Seen) : M :=
  { code := C1, text := T, lim := T.size, start := s, lastStart := ls, wholeText := false, mustAdvance := false, pc := 5, pos := s, handed := s, outermost := first, marks := #[], lastmark := -1, lastindex := -1, loops := #[], inner := none,
    frames := [{ wait := .nextStart, pc := 5, pos := s, outermost := first }], weight := 1, answer := none, seen := S, outcome := none }
noncomputable def atLine (T : Array Nat) (s : Nat) : Bool := s == 0 || T.getD (s - 1) 0 == 10
/-- the next dot at a row's head -/
noncomputable def nextDot (T : Array Nat) : (fuel s : Nat) → Option Nat
  | 0, _ => none
  | fuel + 1, s => if s ≥ T.size then none else if atLine T s && T.getD s 0 == 46 then some s else nextDot T fuel (s + 1)
noncomputable def B1 (T : Array Nat) (s : Nat) (first : Bool) (S : Sre.Seen) (p q h : Nat) : M :=
  { code := C1, text := T, lim := T.size, start := s, lastStart := T.size, wholeText := false, mustAdvance := false, pc := p, pos := q, handed := h, outermost := first, marks := #[], lastmark := -1, lastindex := -1, loops := #[], inner := none,
    frames := [{ wait := .nextStart, pc := 5, pos := s, outermost := first }], weight := 1, answer := some false, seen := S, outcome := none }
theorem resume1 {T : Array Nat} {s : Nat} {first : Bool} {S : Sre.Seen} {Φ : M → Prop} {k p q h : Nat} (hs : s < T.size) (g : ∀ S', Ends k (A1 T T.size (s + 1) false S') Φ) : Ends (k + 1) (B1 T s first S p q h) Φ := by
  unfold B1
  refine Ends.step rfl (by rw [step_resume rfl rfl rfl, resume_start_no rfl, if_pos hs]) ?_
  exact g S
theorem search1 (T : Array Nat) : ∀ (d s : Nat) (first : Bool) (S : Sre.Seen), d = T.size - s → s ≤ T.size →
    (∃ i, nextDot T (T.size + 1 - s) s = some i ∧ Ends (4 * d + 20) (A1 T T.size s first S) (Hit i (i + 1))) ∨ (nextDot T (T.size + 1 - s) s = none ∧ Ends (4 * d + 20) (A1 T T.size s first S) NoHit)
  | 0, s, first, S, hd, hs => by
    have hsz : s = T.size := by omega
    refine .inr ⟨?_, ?_⟩
    · rw [show T.size + 1 - s = 0 + 1 by omega]
      unfold nextDot
      rw [if_pos (by omega)]
    · unfold A1
      by_cases ha : (s == 0 || T.getD (s - 1) 0 == 10) = true
      · refine Ends.step (k := 19) rfl (by rw [step_exec rfl rfl (Nat.le_of_ble_eq_true rfl), exec_at1 rfl rfl, if_pos ha]) ?_
        dsimp only [M.say, M.putBack]
        refine Ends.step (k := 18) rfl (by rw [step_exec rfl rfl (Nat.le_of_ble_eq_true rfl), exec_lit (c := 46) rfl rfl, if_pos (show s ≥ T.size by omega)]) ?_
        dsimp only [M.say, M.putBack]
        refine Ends.step (k := 17) rfl (by rw [step_resume rfl rfl rfl, resume_start_no rfl, if_neg (show ¬ s < T.size by omega)]) ?_
        dsimp only [M.say, M.putBack]
        refine Ends.step (k := 16) rfl (by rw [step_end rfl rfl rfl]) ?_
        exact Ends.stop rfl (show some _ = some _ from rfl) _
      · refine Ends.step (k := 19) rfl (by rw [step_exec rfl rfl (Nat.le_of_ble_eq_true rfl), exec_at1 rfl rfl, if_neg ha]) ?_
        dsimp only [M.say, M.putBack]
        refine Ends.step (k := 18) rfl (by rw [step_resume rfl rfl rfl, resume_start_no rfl, if_neg (show ¬ s < T.size by omega)]) ?_
        dsimp only [M.say, M.putBack]
        refine Ends.step (k := 17) rfl (by rw [step_end rfl rfl rfl]) ?_
        exact Ends.stop rfl (show some _ = some _ from rfl) _
  | d + 1, s, first, S, hd, hs => by
    have hlt : s < T.size := by omega
    have ih := fun S' => search1 T d (s + 1) false S' (by omega) (by omega)
    have hn : nextDot T (T.size + 1 - s) s = if atLine T s && T.getD s 0 == 46 then some s else nextDot T (T.size + 1 - (s + 1)) (s + 1) := by
      rw [show T.size + 1 - s = (T.size + 1 - (s + 1)) + 1 by omega]
      rw [nextDot]
      rw [if_neg (by omega)]
    by_cases ha : (s == 0 || T.getD (s - 1) 0 == 10) = true
    · by_cases hdot : T.getD s 0 = 46
      · refine .inl ⟨s, ?_, ?_⟩
        · rw [hn, if_pos (by unfold atLine; rw [ha, hdot]; rfl)]
        · refine Ends.le (k := 20) ?_ (by omega)
          unfold A1
          refine Ends.step (k := 19) rfl (by rw [step_exec rfl rfl (Nat.le_of_ble_eq_true rfl), exec_at1 rfl rfl, if_pos ha]) ?_
          dsimp only [M.say, M.putBack]
          refine Ends.step (k := 18) rfl (by rw [step_exec rfl rfl (Nat.le_of_ble_eq_true rfl), exec_lit (c := 46) rfl rfl, if_neg (Nat.not_le.mpr hlt), if_pos hdot]) ?_
          dsimp only [M.say, M.putBack]
          refine Ends.step (k := 17) rfl (by rw [step_exec rfl rfl (Nat.le_of_ble_eq_true rfl), exec_success rfl (.inr ⟨rfl, .inl rfl⟩)]) ?_
          dsimp only [M.say, M.putBack]
          refine Ends.step (k := 16) rfl (by rw [step_resume rfl rfl rfl, resume_next_yes (.inl rfl)]) ?_
          dsimp only [M.say, M.putBack]
          refine Ends.step (k := 15) rfl (by rw [step_end rfl rfl rfl]) ?_
          exact Ends.stop rfl ⟨rfl, rfl, rfl⟩ _
      · have hn' : nextDot T (T.size + 1 - s) s = nextDot T (T.size + 1 - (s + 1)) (s + 1) := by
          rw [hn, if_neg]
          rw [Bool.and_eq_true, beq_iff_eq]
          exact fun h => hdot h.2
        have go : ∀ {Φ : M → Prop}, (∀ S', Ends (4 * d + 20) (A1 T T.size (s + 1) false S') Φ) → Ends (4 * (d + 1) + 20) (A1 T T.size s first S) Φ := fun {Φ} g => by
          refine Ends.le (k := 4 * d + 20 + 1 + 1 + 1) ?_ (by omega)
          unfold A1
          refine Ends.step rfl (by rw [step_exec rfl rfl (Nat.le_of_ble_eq_true rfl), exec_at1 rfl rfl, if_pos ha]) ?_
          dsimp only [M.say, M.putBack]
          refine Ends.step rfl (by rw [step_exec rfl rfl (Nat.le_of_ble_eq_true rfl), exec_lit (c := 46) rfl rfl, if_neg (Nat.not_le.mpr hlt), if_neg hdot]) ?_
          dsimp only [M.say, M.putBack]
          exact resume1 hlt g
        rw [hn']
        cases hx : nextDot T (T.size + 1 - (s + 1)) (s + 1) with
        | none =>
          refine .inr ⟨rfl, go fun S' => ?_⟩
          rcases ih S' with ⟨i, e, _⟩ | ⟨_, e⟩
          · rw [hx] at e; cases e
          · exact e
        | some i =>
          refine .inl ⟨i, rfl, go fun S' => ?_⟩
          rcases ih S' with ⟨i', e, f⟩ | ⟨e, _⟩
          · rw [hx] at e; cases e; exact f
          · rw [hx] at e; cases e
    · have hn' : nextDot T (T.size + 1 - s) s = nextDot T (T.size + 1 - (s + 1)) (s + 1) := by
        rw [hn, if_neg]
        rw [Bool.and_eq_true]
        exact fun h => ha h.1
      have go : ∀ {Φ : M → Prop}, (∀ S', Ends (4 * d + 20) (A1 T T.size (s + 1) false S') Φ) → Ends (4 * (d + 1) + 20) (A1 T T.size s first S) Φ := fun {Φ} g => by
        refine Ends.le (k := 4 * d + 20 + 1 + 1) ?_ (by omega)
        unfold A1
        refine Ends.step rfl (by rw [step_exec rfl rfl (Nat.le_of_ble_eq_true rfl), exec_at1 rfl rfl, if_neg ha]) ?_
        dsimp only [M.say, M.putBack]
        exact resume1 hlt g
      rw [hn']
      cases hx : nextDot T (T.size + 1 - (s + 1)) (s + 1) with
      | none =>
        refine .inr ⟨rfl, go fun S' => ?_⟩
        rcases ih S' with ⟨i, e, _⟩ | ⟨_, e⟩
        · rw [hx] at e; cases e
        · exact e
      | some i =>
        refine .inl ⟨i, rfl, go fun S' => ?_⟩
        rcases ih S' with ⟨i', e, f⟩ | ⟨e, _⟩
        · rw [hx] at e; cases e; exact f
        · rw [hx] at e; cases e
noncomputable def F1 (T : Array Nat) (s ls : Nat) : M := { code := C1, text := T, lim := T.size, start := s, lastStart := ls, pc := 5, pos := s, handed := s, marks := #[], mustAdvance := false, seen := ({} : Sre.Seen).add 14 }
theorem forSearch_C1 (T : Array Nat) (s : Nat) : Sre.forSearch C1 T 0 s T.size false = if (decide (s > T.size) || decide (T.size - s < 1)) = true then (F1 T s 0).say false else (F1 T s T.size).attemptFrom s true := rfl
theorem search_C1 (T : Array Nat) (s : Nat) (hs : s ≤ T.size) : (∃ i, nextDot T (T.size + 1 - s) s = some i ∧ Ends (4 * T.size + 100) (Sre.forSearch C1 T 0 s T.size false) (Hit i (i + 1))) ∨
    (nextDot T (T.size + 1 - s) s = none ∧ Ends (4 * T.size + 100) (Sre.forSearch C1 T 0 s T.size false) NoHit) := by
  rw [forSearch_C1]
  by_cases h1 : (decide (s > T.size) || decide (T.size - s < 1)) = true
  · rw [if_pos h1]
    have hsz : s = T.size := by simp at h1; omega
    refine .inr ⟨?_, (no_hit rfl rfl).le (by omega)⟩
    rw [show T.size + 1 - s = 0 + 1 by omega]
    unfold nextDot
    rw [if_pos (by omega)]
  · rw [if_neg h1]
    have hA : (F1 T s T.size).attemptFrom s true = A1 T T.size s true (({} : Sre.Seen).add 14) := rfl
    rw [hA]
    rcases search1 T (T.size - s) s true (({} : Sre.Seen).add 14) rfl hs with ⟨i, e, f⟩ | ⟨e, f⟩
    · exact .inl ⟨i, e, f.le (by omega)⟩
    · exact .inr ⟨e, f.le (by omega)⟩
end Mine
end
section
open PySem PySem.W PyProof.Rows PySem.Calls
set_option Elab.async false
set_option linter.unusedVariables false
set_option linter.unusedSimpArgs false
namespace Mine
open Sre (M)
theorem runFor_done {m : M} (h : m.outcome.isSome = true) : ∀ n, m.runFor n = m
  | 0 => rfl
  | n + 1 => by show (if m.outcome.isSome then m else _) = m; rw [if_pos h]
theorem runFor_add (a : Nat) : ∀ (m : M) (b : Nat), m.runFor (a + b) = (m.runFor a).runFor b := by
  induction a with
  | zero => intro m b; rw [Nat.zero_add]; rfl
  | succ a ih =>
    intro m b
    rw [Nat.succ_add]
    show (if m.outcome.isSome then m else M.runFor (a + b) m.step) = M.runFor b (if m.outcome.isSome then m else M.runFor a m.step)
    by_cases h : m.outcome.isSome = true
    · rw [if_pos h, if_pos h, runFor_done h]
    · rw [if_neg h, if_neg h, ih]
theorem Ends.after {k a : Nat} {m : M} {Φ : M → Prop} (h : Ends k m Φ) : ((m.runFor a).outcome.isSome = true ∧ Φ (m.runFor a)) ∨ ((m.runFor a).outcome.isSome = false ∧ a < k ∧ Ends (k - a) (m.runFor a) Φ) := by
  obtain ⟨n, hn, h1, h2⟩ := h
  cases hc : (m.runFor a).outcome.isSome with
  | true =>
    left
    refine ⟨rfl, ?_⟩
    rcases Nat.le_total n a with h | h
    · obtain ⟨c, rfl⟩ := Nat.exists_eq_add_of_le h
      rw [runFor_add, runFor_done h1]; exact h2
    · obtain ⟨c, rfl⟩ := Nat.exists_eq_add_of_le h
      rw [runFor_add, runFor_done hc] at h2; exact h2
  | false =>
    right
    rcases Nat.le_total n a with h | h
    · obtain ⟨c, rfl⟩ := Nat.exists_eq_add_of_le h
      rw [runFor_add, runFor_done h1] at hc
      rw [h1] at hc; cases hc
    · obtain ⟨c, rfl⟩ := Nat.exists_eq_add_of_le h
      rw [runFor_add] at h1 h2
      refine ⟨rfl, ?_, c, by omega, h1, h2⟩
      have : c ≠ 0 := fun q => by subst q; rw [show M.runFor 0 (m.runFor a) = m.runFor a from rfl, hc] at h1; cases h1
      omega
section
variable {Mo : Model} {A : Around} {E : Value → Shared → Prop} {s : Shared}
theorem wp_reDrive {Φ : M → Prop} {Q : M → Shared → Prop} : ∀ (turns k : Nat) (m : M), Ends k m Φ → k ≤ 4 * turns → 0 < turns → (∀ r, Φ r → r.outcome.isSome = true → Q r s) → wpAny Mo A (Builtin.Re.reDrive turns m) Q E s
  | 0, k, m, h, hk, h0, q => absurd h0 (Nat.lt_irrefl _)
  | turns + 1, k, m, h, hk, h0, q => by
    rw [Builtin.Re.reDrive]
    have ha := h.after (a := Builtin.Re.reTurnSteps)
    rcases ha with ⟨h1, h2⟩ | ⟨h1, h2, h3⟩
    · rw [if_pos h1]; exact wpAny_pure (q _ h2 h1)
    · rw [if_neg (by rw [h1]; decide)]
      refine wpAny_bind (wpAny_rule ?_)
      have e4 : Builtin.Re.reTurnSteps = 4 := rfl
      exact wp_reDrive turns (k - 4) _ h3 (by omega) (by omega) q
theorem wp_rules (g : Nat → Bool) (nm : Nat → String) {Q : PUnit → Shared → Prop} : ∀ (l : List Nat), Q PUnit.unit s → wpAny Mo A (forIn l PUnit.unit fun i __s => if g i = true then do
            rule (nm i)
            pure (ForInStep.yield PUnit.unit)
          else pure (ForInStep.yield PUnit.unit)) Q E s
  | [], h => by rw [List.forIn_nil]; exact wpAny_pure h
  | i :: l, h => by
    rw [List.forIn_cons]
    refine wpAny_bind ?_
    by_cases hg : g i = true
    · rw [if_pos hg]
      exact wpAny_bind (wpAny_rule (wpAny_pure (wp_rules g nm l h)))
    · rw [if_neg hg]
      exact wpAny_pure (wp_rules g nm l h)
theorem wp_reRunToEnd {Φ : M → Prop} {k : Nat} {m : M} {Q : Option M → Shared → Prop} (h : Ends k m Φ) (hk : k ≤ 1000000000) (q : ∀ r, Φ r → r.outcome = some .matched → Q (some r) s) (q' : ∀ r, Φ r → r.outcome = some .failed → Q none s)
    (hs : ∀ r why, Φ r → r.outcome ≠ some (.stuck why)) : wpAny Mo A (Builtin.Re.reRunToEnd m) Q E s := by
  unfold Builtin.Re.reRunToEnd
  refine wpAny_bind (wp_reDrive (2 ^ 64) k m h (by omega) (by decide) fun r hr ho => ?_)
  refine wpAny_bind (wp_rules _ _ _ ?_)
  cases hx : r.outcome with
  | none => rw [hx] at ho; cases ho
  | some o =>
    cases o with
    | matched => exact wpAny_pure (q r hr hx)
    | failed => exact wpAny_pure (q' r hr hx)
    | stuck why => exact absurd hx (hs r why hr)
end
end Mine
end
section
open PySem PySem.W PyProof.Rows PySem.Calls
set_option Elab.async false
set_option linter.unusedVariables false
set_option linter.unusedSimpArgs false
namespace Mine
open Sre (M)
open Builtin.Re
/-- a compiled pattern of texts as it stands in the heap -/
noncomputable def PatAt (h : Heap) (p : Addr) (code : Array Nat) : Prop := ∃ o fs ta ot items n, h.get? p = some o ∧ o.data = .fields fs ∧ fs.getD 5 .none = .ref ta ∧ reRawNat (fs.getD 6 .none) = 0 ∧ reRawNat (fs.getD 2 .none) = 0 ∧
  h.get? ta = some ot ∧ ot.data = .seq items n ∧ (items.map reRawOf).map (·.toNat) = code
theorem PatAt.grow {h h' : Heap} {p code} (g : Grow h h') (x : PatAt h p code) : PatAt h' p code := by
  obtain ⟨o, fs, ta, ot, items, n, a, b, c, d, e, f, r⟩ := x
  exact ⟨o, fs, ta, ot, items, n, g _ _ a, b, c, d, e, g _ _ f, r⟩
section
variable {prog : Program} {w : World} {A : Around} {E : Value → Shared → Prop} {s : Shared}
theorem wp_target {p : Addr} {code : Array Nat} {x : Str} {t : Tok} {Q : ReTarget → Shared → Prop} (hp : PatAt s.heap p code)
    (q : Q { pattern := .ref p, string := .str x t, code := code, text := x.cps, kind := 0, groups := 0, pos := 0, lim := x.cps.size } s) : wpAny (model prog w) A (reWholeTarget (.ref p) (.str x t)) Q E s := by
  obtain ⟨o, fs, ta, ot, items, n, ho, hd, h5, h6, h2, hot, hdt, hcode⟩ := hp
  unfold reWholeTarget fieldsOf
  refine wpAny_bind (wpAny_bind (wpAny_load ho ?_))
  rw [hd]
  refine wpAny_pure ?_
  refine wpAny_bind (m := reTextOf (.str x t)) (show wpAny _ _ (pure (x.cps, 0)) _ _ _ from wpAny_pure ?_)
  dsimp only
  rw [h6]
  simp only [beq_self_eq_true, Bool.true_and]
  rw [if_neg (by decide), if_neg (by decide)]
  refine wpAny_bind (m := reNoCollectionInside (.str x t) 0) (show wpAny _ _ (pure ()) _ _ _ from wpAny_pure ?_)
  unfold reRawItems
  rw [h5]
  refine wpAny_bind (wpAny_bind (m := seqItems? (.ref ta)) (wpAny_bind (wpAny_load hot ?_)))
  rw [hdt]
  refine wpAny_pure (wpAny_pure (wpAny_pure ?_))
  rw [h2]
  show Q { pattern := .ref p, string := .str x t, code := (items.map reRawOf).map (·.toNat), text := x.cps, kind := 0, groups := 0, pos := 0, lim := x.cps.size } s
  rw [hcode]
  exact q
end
end Mine
end
section
open PySem PySem.W PyProof.Rows PySem.Calls
set_option Elab.async false
set_option linter.unusedVariables false
set_option linter.unusedSimpArgs false
namespace Mine
open Sre (M)
open Builtin.Re
structure Finder (code : Array Nat) (T : Array Nat) (nx : Nat → Option Nat) (en : Nat → Nat) : Prop where
  run : ∀ s, s ≤ T.size → (∃ i, nx s = some i ∧ Ends 100000000 (Sre.forSearch code T 0 s T.size false) (Hit i (en i))) ∨ (nx s = none ∧ Ends 100000000 (Sre.forSearch code T 0 s T.size false) NoHit)
  ge : ∀ s i, nx s = some i → s ≤ i ∧ i < en i ∧ en i ≤ T.size
/-- the pieces of the new text -/
noncomputable def subPieces (T : Array Nat) (nx : Nat → Option Nat) (en : Nat → Nat) (rep : Str) : (fuel p : Nat) → List Str
  | 0, _ => []
  | fuel + 1, p => match nx p with
    | some i => (if p < i then [⟨T.extract p i⟩] else []) ++ rep :: subPieces T nx en rep fuel (en i)
    | none => if p < T.size then [⟨T.extract p T.size⟩] else []
theorem entry_sub_loop : entryFor table "re.Pattern.sub.loop" = some Builtin.«re.Pattern.sub.loop» := entryFor_of_tree (by kernel_rfl)
theorem plain_push {h : Heap} {L : Addr} {acc : Array Value} {v : Value} (x : h.PlainList L acc) : (h.update L (Obj.mapSeq (·.push v))).PlainList L (acc.push v) := by
  obtain ⟨c, e⟩ := x
  exact ⟨_, get?_update_seq e (·.push v)⟩
section
variable {prog : Program} {w : World} {A : Around} {E : Value → Shared → Prop} {s : Shared}
theorem wp_found {code T : Array Nat} {nx en} (Fi : Finder code T nx en) {pv sv : Value} {p : Nat} (hp : p ≤ T.size) {Q : Option M → Shared → Prop}
    (q : ∀ i r, nx p = some i → r.start = i → r.handed = en i → Q (some r) s) (q' : nx p = none → Q none s) :
    wpAny (model prog w) A (reNextFound { pattern := pv, string := sv, code := code, text := T, kind := 0, groups := 0, pos := 0, lim := T.size } p false) Q E s := by
  unfold reNextFound
  rcases Fi.run p hp with ⟨i, e, h⟩ | ⟨e, h⟩
  · exact wp_reRunToEnd h (by decide) (fun r hr _ => q i r e hr.2.1 hr.2.2) (fun r hr ho => by rw [hr.1] at ho; cases ho) (fun r why hr ho => by rw [hr.1] at ho; cases ho)
  · exact wp_reRunToEnd h (by decide) (fun r hr ho => by have hr' : r.outcome = some .failed := hr; rw [hr'] at ho; cases ho) (fun r hr _ => q' e) (fun r why hr ho => by have hr' : r.outcome = some .failed := hr; rw [hr'] at ho; cases ho)
theorem sub_loop {code : Array Nat} {x rep : Str} {tx tr : Tok} {pa L : Addr} {nx en} {hB : Heap} (Fi : Finder code x.cps nx en) (hpB : PatAt hB pa code) (hL : hB.get? L = none) {R : Result → Shared → Prop} (hx : x.cps.size ≤ 1000000) (zs : List Str) (hz : (zs.map (·.length)).sum ≤ 16000000) (hz2 : zs.length ≤ 1000000) (s0 : Shared) :
    ∀ (fuel p : Nat) (n : Int) (acc : Array Value) (ys : List Str) (s : Shared), x.cps.size < p + fuel → p ≤ x.cps.size → s.heap.PlainList L acc → StrsAre acc.toList ys → Grow hB s.heap → ys ++ subPieces x.cps nx en rep fuel p = zs →
      (∃ h tk, s = { s0 with heap := h, toks := tk }) → (∀ b o, b ≠ L → s0.heap.get? b = some o → s.heap.get? b = some o) →
      (∀ h' t' tk, (∀ b o, b ≠ L → s0.heap.get? b = some o → h'.get? b = some o) → R (.ok (.ret (.str (Txt.join "" zs) t'))) { s0 with heap := h', toks := tk }) →
      codeAny (model prog w) A (.builtin "re.Pattern.sub.loop" ⟨[.ref pa, .str x tx, .str rep tr, rawInt 0, rawInt 0, rawInt n, rawInt p, rawInt p, .bool false, .ref L, .bool false], []⟩) R s
  | 0, p, n, acc, ys, s, hf, hp, _, _, _, _, _, _, _ => by omega
  | fuel + 1, p, n, acc, ys, s, hf, hp, hl, hys, g, hzs, hs0, hk, hR => by
    refine codeAny_builtin entry_sub_loop ?_
    show wpAny _ _ (reWholeTarget (.ref pa) (.str x tx) >>= _) _ _ s
    refine wpAny_bind (wp_target (hpB.grow g) ?_)
    dsimp only
    have ew : ((0 : Int) == 0) = true := rfl
    have ec : (((0 : Int) != 0) && decide (n ≥ 0)) = false := rfl
    rw [if_pos ew]
    refine wpAny_bind (m := reLiteralCannotBeTurned (.str rep tr)) (show wpAny _ _ (pure PUnit.unit) _ _ _ from wpAny_pure ?_)
    rw [if_neg (by rw [ec]; decide)]
    have hpt : ((p : Nat) : Int).toNat = p := Int.toNat_natCast p
    rw [hpt]
    have hylen := hys.length
    have hlen : (ys ++ subPieces x.cps nx en rep (fuel + 1) p).length ≤ 1000000 := by rw [hzs]; exact hz2
    have hacc : acc.size ≤ 1000000 := by rw [← Array.length_toList, hylen]; rw [List.length_append] at hlen; omega
    have keepL : ∀ {h h' : Heap}, (∀ b o, b ≠ L → h.get? b = some o → h'.get? b = some o) → Grow hB h → Grow hB h' := fun {h h'} k gg b o e => k b o (fun q => by rw [q, hL] at e; cases e) (gg b o e)
    have upd : ∀ (h : Heap) (f : Array Value → Array Value) b o, b ≠ L → h.get? b = some o → (h.update L (Obj.mapSeq f)).get? b = some o := fun h f b o hb e => (Heap.get?_update_ne _ _ _ _ hb).trans e
    refine wpAny_bind (wp_found Fi hp (fun i r e hst hhd => ?_) (fun e => ?_))
    · obtain ⟨ge1, ge2, ge3⟩ := Fi.ge p i e
      dsimp only
      rw [hst, hhd]
      have hne : (en i == i) = false := beq_eq_false_iff_ne.mpr (by omega)
      rw [hne]
      have hsub : subPieces x.cps nx en rep (fuel + 1) p = (if p < i then [⟨x.cps.extract p i⟩] else []) ++ rep :: subPieces x.cps nx en rep fuel (en i) := by rw [subPieces]; rw [e]
      have hnn : (Value.str rep tr != Value.none) = true := rfl
      -- the new piece, then on
      have on : ∀ (acc' : Array Value) (ys' : List Str) (s' : Shared), s'.heap.PlainList L acc' → StrsAre acc'.toList ys' → Grow hB s'.heap → ys' ++ rep :: subPieces x.cps nx en rep fuel (en i) = zs → (∃ h tk, s' = { s0 with heap := h, toks := tk }) → (∀ b o, b ≠ L → s0.heap.get? b = some o → s'.heap.get? b = some o) →
          ∀ {A' : Around}, wpAny (model prog w) A' (updateSeq L (·.push (.str rep tr)) >>= fun _ => again (.builtin "re.Pattern.sub.loop" ⟨[.ref pa, .str x tx, .str rep tr, rawInt 0, rawInt 0, rawInt (n + 1), rawInt (en i), rawInt (en i), .bool false, .ref L, .bool false], []⟩))
            (fun fin s' => match fin with | .done f => R (.ok f) s' | .again c' => c'.quiet = true ∧ codeAny (model prog w) A c' R s') (fun e s' => R (.error e) s') s' := by
        intro acc' ys' s' hl' hys' g' hz' hs' hk' A'
        have hsz : acc'.size ≤ 1000000 := by
          rw [← Array.length_toList, hys'.length]
          have : (ys' ++ rep :: subPieces x.cps nx en rep fuel (en i)).length ≤ 1000000 := by rw [hz']; exact hz2
          rw [List.length_append] at this; omega
        obtain ⟨c, eo⟩ := id hl'
        refine wpAny_bind (wpAny_updateSeq eo rfl ?_ (by rw [sizeLine_eq]; omega) (by rw [sizeLine_eq, Array.size_push]; omega))
        refine wpAny_pure ⟨Code.quiet_builtin _ (by decide +kernel), ?_⟩
        obtain ⟨h0, tk0, rfl⟩ := hs'
        refine sub_loop Fi hpB hL hx zs hz hz2 s0 fuel (en i) (n + 1) (acc'.push (.str rep tr)) (ys' ++ [rep]) _ (by omega) ge3 (plain_push hl') ?_ (keepL (upd _ _) g') (by rw [List.append_assoc]; exact hz') ⟨_, tk0, rfl⟩ (fun b o hb e => upd _ _ b o hb (hk' b o hb e)) hR
        rw [Array.toList_push]
        exact StrsAre.append' hys' (.cons rep tr .nil)
      by_cases hpi : p < i
      · rw [if_pos hpi]
        rw [hsub, if_pos hpi] at hzs
        show wpAny _ _ (mkStr ⟨x.cps.extract p i⟩ >>= _) _ _ s
        refine wpAny_bind (wpAny_mkStr ?_ ?_)
        · obtain ⟨c, eo⟩ := id hl
          refine wpAny_bind (wpAny_updateSeq eo rfl ?_ (by rw [sizeLine_eq]; omega) (by rw [sizeLine_eq, Array.size_push]; omega))
          rw [if_pos ew]
          refine wpAny_bind (wpAny_pure ?_)
          rw [if_pos hnn]
          obtain ⟨h0, tk0, rfl⟩ := hs0
          refine on (acc.push _) (ys ++ [⟨x.cps.extract p i⟩]) _ (plain_push hl) ?_ (keepL (upd _ _) g) (by rw [List.append_assoc]; exact hzs) ⟨_, _, rfl⟩ (fun b o hb e => upd _ _ b o hb (hk b o hb e))
          rw [Array.toList_push]
          exact StrsAre.append' hys (.cons _ _ .nil)
        · show (x.cps.extract p i).size ≤ sizeLine
          rw [sizeLine_eq, Array.size_extract]; omega
      · rw [if_neg hpi]
        rw [hsub, if_neg hpi] at hzs
        rw [if_pos ew]
        refine wpAny_bind (wpAny_pure ?_)
        rw [if_pos hnn]
        exact on acc ys s hl hys g hzs hs0 hk
    · dsimp only
      have hsub : subPieces x.cps nx en rep (fuel + 1) p = if p < x.cps.size then [⟨x.cps.extract p x.cps.size⟩] else [] := by rw [subPieces]; rw [e]
      have tail : ∀ (acc' : Array Value) (s' : Shared), s'.heap.PlainList L acc' → StrsAre acc'.toList zs → (∃ h tk, s' = { s0 with heap := h, toks := tk }) → (∀ b o, b ≠ L → s0.heap.get? b = some o → s'.heap.get? b = some o) →
          ∀ {A' : Around}, wpAny (model prog w) A' (do
            let joiner ← reSlice x.cps 0 0 0
            let y ← seqItems? (.ref L)
            if (y.getD #[]).isEmpty = true then do
                let text ← pure joiner
                if false = true then do
                    let v ← holding [text] (do
                      let k ← mkInt n
                      newTuple [text, k])
                    ret v
                  else ret text
              else do
                let text ← call (.builtin (if (0 == 0) = true then "str.join" else "bytes.join")) [joiner, .ref L]
                if false = true then do
                    let v ← holding [text] (do
                      let k ← mkInt n
                      newTuple [text, k])
                    ret v
                  else ret text)
            (fun fin s' => match fin with | .done f => R (.ok f) s' | .again c' => c'.quiet = true ∧ codeAny (model prog w) A c' R s') (fun e s' => R (.error e) s') s' := by
        intro acc' s' hl' hys' hs' hk' A'
        obtain ⟨h0, tk0, rfl⟩ := hs'
        have e0 : x.cps.extract 0 0 = #[] := by simp
        have ej : (⟨x.cps.extract 0 0⟩ : Str) = Str.ofString "" := by rw [e0]; rfl
        show wpAny _ _ (mkStr ⟨x.cps.extract 0 0⟩ >>= _) _ _ _
        rw [ej]
        refine wpAny_bind (wpAny_mkStr ?_ (Nat.zero_le _))
        obtain ⟨c, eo⟩ := id hl'
        refine wpAny_bind (m := seqItems? (.ref L)) (wpAny_bind (wpAny_load eo ?_))
        refine wpAny_pure ?_
        by_cases hem : acc'.isEmpty = true
        · rw [if_pos (show ((some acc').getD #[]).isEmpty = true from hem)]
          refine wpAny_bind (wpAny_pure ?_)
          rw [if_neg (by decide)]
          have hz0 : zs = [] := by
            have hlz := hys'.length
            have : acc' = #[] := by simpa using hem
            subst this
            exact List.length_eq_zero_iff.mp hlz.symm
          refine wpAny_pure ?_
          have := hR h0 tk0 (tk0 + 1) hk'
          rw [hz0] at this
          exact this
        · rw [if_neg (show ¬ ((some acc').getD #[]).isEmpty = true from hem)]
          refine wpAny_bind (join_list (s := { s0 with heap := h0, toks := tk0 + 1 }) hl'.isList hys' (by show _ + _ * 0 ≤ _; omega) fun t' k => ?_)
          rw [if_neg (by decide)]
          exact wpAny_pure (hR h0 t' k hk')
      by_cases hpi : p < x.cps.size
      · rw [if_pos hpi]
        rw [hsub, if_pos hpi] at hzs
        show wpAny _ _ (mkStr ⟨x.cps.extract p x.cps.size⟩ >>= _) _ _ s
        refine wpAny_bind (wpAny_mkStr ?_ ?_)
        · obtain ⟨c, eo⟩ := id hl
          refine wpAny_bind (wpAny_updateSeq eo rfl ?_ (by rw [sizeLine_eq]; omega) (by rw [sizeLine_eq, Array.size_push]; omega))
          obtain ⟨h0, tk0, rfl⟩ := hs0
          refine tail (acc.push _) _ (plain_push hl) ?_ ⟨_, _, rfl⟩ (fun b o hb e => upd _ _ b o hb (hk b o hb e))
          rw [Array.toList_push, ← hzs]
          exact StrsAre.append' hys (.cons _ _ .nil)
        · show (x.cps.extract p x.cps.size).size ≤ sizeLine
          rw [sizeLine_eq, Array.size_extract]; omega
      · rw [if_neg hpi]
        rw [hsub, if_neg hpi, List.append_nil] at hzs
        subst hzs
        exact tail acc s hl hys hs0 hk
end
end Mine
end
section
open PySem PySem.W PyProof.Rows PySem.Calls
set_option Elab.async false
set_option linter.unusedVariables false
set_option linter.unusedSimpArgs false
set_option maxRecDepth 100000
namespace Mine
open Sre (M)
open Builtin.Re
namespace MF
theorem slot_pat_sub : Slot "re.Pattern" "sub" "re.Pattern.sub" :=
  .of (owner := "re.Pattern") (n := "sub") (by rw [typeLookup_type, builtinLookup_eq_fast]; kernel_rfl) (by decide +kernel) (by decide +kernel) (by decide +kernel)
    (by first | exact .inl (by decide +kernel) | exact .inr (by decide +kernel)) (by rw [isSubtype_type]; kernel_rfl)
theorem entry_pat_sub : entryFor table "re.Pattern.sub" = some Builtin.«re.Pattern.sub» := entryFor_of_tree (by kernel_rfl)
theorem args_pat_sub (a b c : Value) : argsOk "re.Pattern.sub" ⟨[a, b, c], []⟩ := by unfold argsOk; kernel_rfl
theorem type_pat_sub : typeOf (.builtin "re.Pattern.sub") = pure (.type "method_descriptor") := by show builtinType _ = _; rw [builtinType_eq_fast]; kernel_rfl
theorem lk_str_call : typeLookup (.type "str") "__call__" = pure none := by rw [typeLookup_type, builtinLookup_eq_fast]; kernel_rfl
end MF
section
variable {prog : Program} {w : World} {A : Around} {E : Value → Shared → Prop} {s : Shared}
theorem sub_entry {rep x : Str} {tr tx : Tok} {pa : Addr} {code : Array Nat} {P : Fin → Shared → Prop} (hpa : PatAt s.heap pa code) (hrep : rep.cps.contains 92 = false)
    (q : P (.again (.builtin "re.Pattern.sub.loop" ⟨[.ref pa, .str x tx, .str rep tr, rawInt 0, rawInt 0, rawInt 0, rawInt ((0 : Nat) : Int), rawInt ((0 : Nat) : Int), .bool false, .ref s.heap.objs.size, .bool false], []⟩)) { s with heap := s.heap.push { cls := .type "list", data := .seq #[] } }) :
    wpAny (model prog w) A (Builtin.«re.Pattern.sub» ⟨[.ref pa, .str rep tr, .str x tx], []⟩) P E s := by
  unfold Builtin.«re.Pattern.sub» reSubstitute
  dsimp only
  refine wpAny_bind (m := reNamed "re.Pattern.sub" "sub" ["repl", "string", "count"] 2 [.str rep tr, .str x tx] []) (show wpAny _ _ (pure [some (Value.str rep tr), some (Value.str x tx), none]) _ _ _ from wpAny_pure ?_)
  dsimp only
  refine wpAny_bind (wpAny_pure ?_)
  refine wpAny_bind (wpAny_specialOf (typeIs_str s rep tr) MF.lk_str_call ?_)
  simp only [Option.isSome_none, Bool.false_eq_true, if_false]
  refine wpAny_bind (m := asStr? (.str rep tr)) (show wpAny _ _ (pure (some rep)) _ _ _ from wpAny_pure ?_)
  dsimp only
  refine wpAny_bind (wpAny_pure ?_)
  rw [if_pos (by rw [hrep]; rfl)]
  refine wpAny_bind (wpAny_pure ?_)
  dsimp only
  refine wpAny_bind (wpAny_holding (wp_target hpa ?_))
  rw [if_neg (by decide)]
  refine wpAny_bind (wpAny_newList ?_)
  exact wpAny_pure q
/-- pattern.sub(rep, x) -/
theorem sub_call {code : Array Nat} {x rep : Str} {tx tr : Tok} {pa : Addr} {nx en} (Fi : Finder code x.cps nx en) (hpa : PatAt s.heap pa code) (hT : s.TypeIs (.ref pa) "re.Pattern") (hrep : rep.cps.contains 92 = false) (hx : x.cps.size ≤ 1000000)
    {Q : Value → Shared → Prop} (hz : ((subPieces x.cps nx en rep (x.cps.size + 1) 0).map (·.length)).sum ≤ 16000000) (hz2 : (subPieces x.cps nx en rep (x.cps.size + 1) 0).length ≤ 1000000)
    (q : ∀ h' t' tk, Grow s.heap h' → Q (.str (Txt.join "" (subPieces x.cps nx en rep (x.cps.size + 1) 0)) t') { s with heap := h', toks := tk }) :
    wpAny (model prog w) A (call (.builtin "re.Pattern.sub") [.ref pa, .str rep tr, .str x tx]) Q E s := by
  refine wpAny_call (codeAny_call_builtin MF.slot_pat_sub.plain MF.entry_pat_sub (MF.slot_pat_sub.check _ _ _ _ _ _ _ _ hT (MF.args_pat_sub _ _ _) ?_))
  refine sub_entry hpa hrep ⟨Code.quiet_builtin _ (by decide +kernel), ?_⟩
  have hsz : s.heap.get? s.heap.objs.size = none := Heap.get?_none_of_le (Nat.le_refl _)
  refine sub_loop (hB := s.heap) Fi hpa hsz hx _ hz hz2 s (x.cps.size + 1) 0 0 #[] [] _ (by omega) (Nat.zero_le _) (plain_new ..) .nil (Grow.push _ _) rfl ⟨_, s.toks, rfl⟩ (fun b o _ e => Heap.get?_push_of_some _ e) fun h' t' tk k => ?_
  exact q h' t' tk fun b o e => k b o (fun hb => by rw [hb, hsz] at e; cases e) e
end
end Mine
end
section
open PySem PySem.W PyProof.Rows PySem.Calls
set_option Elab.async false
set_option linter.unusedVariables false
set_option linter.unusedSimpArgs false
namespace Mine
open Sre (M)
theorem endOf_bounds (T : Array Nat) (i : Nat) (b : i < T.size) : i < endOf T i ∧ endOf T i ≤ T.size := by
  unfold endOf
  by_cases h : T.getD i 0 = 13 ∧ i + 1 < T.size ∧ T.getD (i + 1) 0 = 10
  · rw [if_pos h]; exact ⟨by omega, by omega⟩
  · rw [if_neg h]; exact ⟨by omega, by omega⟩
theorem finder2 (T : Array Nat) (hT : T.size ≤ 1000000) : Finder C2 T (fun s => nextEnd T (T.size + 1 - s) s) (endOf T) where
  run := fun s hs => by
    rcases search_C2 T s hs with ⟨i, e, h⟩ | ⟨e, h⟩
    · exact .inl ⟨i, e, h.le (by decide)⟩
    · exact .inr ⟨e, h.le (by decide)⟩
  ge := fun s i e => by
    obtain ⟨a, b, c, _⟩ := nextEnd_some e
    have h2 := endOf_bounds T i b
    exact ⟨a, h2.1, h2.2⟩
theorem nextDot_some {T : Array Nat} : ∀ {fuel s i : Nat}, nextDot T fuel s = some i → s ≤ i ∧ i < T.size ∧ (atLine T i && T.getD i 0 == 46) = true ∧ ∀ j, s ≤ j → j < i → (atLine T j && T.getD j 0 == 46) = false
  | 0, _, _, h => by cases h
  | fuel + 1, s, i, h => by
    unfold nextDot at h
    split at h
    · cases h
    · rename_i hs
      split at h
      · rename_i hx
        cases h
        exact ⟨Nat.le_refl _, by omega, hx, fun j a b => by omega⟩
      · rename_i hx
        obtain ⟨a, b, c, d⟩ := nextDot_some h
        refine ⟨by omega, b, c, fun j h1 h2 => ?_⟩
        by_cases hj : j = s
        · subst hj; simpa using hx
        · exact d j (by omega) h2
theorem nextDot_none {T : Array Nat} : ∀ {fuel s : Nat}, nextDot T fuel s = none → T.size < s + fuel → ∀ j, s ≤ j → j < T.size → (atLine T j && T.getD j 0 == 46) = false
  | 0, s, _, hf, j, h1, h2 => by omega
  | fuel + 1, s, h, hf, j, h1, h2 => by
    unfold nextDot at h
    split at h
    · rename_i hs; omega
    · rename_i hs
      split at h
      · cases h
      · rename_i hx
        by_cases hj : j = s
        · subst hj; simpa using hx
        · exact nextDot_none h (by omega) j (by omega) h2
theorem finder1 (T : Array Nat) (hT : T.size ≤ 1000000) : Finder C1 T (fun s => nextDot T (T.size + 1 - s) s) (fun i => i + 1) where
  run := fun s hs => by
    rcases search_C1 T s hs with ⟨i, e, h⟩ | ⟨e, h⟩
    · exact .inl ⟨i, e, h.le (by omega)⟩
    · exact .inr ⟨e, h.le (by omega)⟩
  ge := fun s i e => by
    obtain ⟨a, b, _⟩ := nextDot_some e
    exact ⟨a, by omega, by omega⟩
/-- the text that the pieces make, as numbers -/
noncomputable def joined (l : List Str) : List Nat := (l.map (fun s => s.cps.toList)).flatten
/-- line ends made even; the mark: a return came just before -/
noncomputable def fixA : Bool → List Nat → List Nat
  | _, [] => []
  | b, c :: r => if c = 13 then 13 :: 10 :: fixA true r else if c = 10 then (if b then fixA false r else 13 :: 10 :: fixA false r) else c :: fixA false r
theorem fixA_plain : ∀ {l r : List Nat}, (∀ c ∈ l, c ≠ 10 ∧ c ≠ 13) → fixA false (l ++ r) = l ++ fixA false r
  | [], r, _ => rfl
  | c :: l, r, h => by
    obtain ⟨h1, h2⟩ := h c (List.mem_cons_self ..)
    rw [List.cons_append, fixA, if_neg h2, if_neg h1, fixA_plain fun d hd => h d (List.mem_cons_of_mem _ hd)]
    rfl
theorem drop_getD {T : Array Nat} {i : Nat} (h : i < T.size) : T.toList.drop i = T.getD i 0 :: T.toList.drop (i + 1) := by
  rw [List.drop_eq_getElem_cons (by simpa using h)]
  congr 1
  simp [Array.getD, h]
theorem fixA_at {T : Array Nat} {i : Nat} (h : i < T.size) (e : T.getD i 0 = 10 ∨ T.getD i 0 = 13) : fixA false (T.toList.drop i) = 13 :: 10 :: fixA false (T.toList.drop (endOf T i)) := by
  unfold endOf
  rw [drop_getD h]
  rcases e with e | e
  · rw [e, if_neg (fun h => absurd h.1 (by decide)), fixA, if_neg (by decide), if_pos rfl]
    rfl
  · rw [e, fixA, if_pos rfl]
    by_cases h2 : i + 1 < T.size ∧ T.getD (i + 1) 0 = 10
    · rw [if_pos ⟨rfl, h2⟩, drop_getD h2.1, h2.2, fixA, if_neg (by decide), if_pos rfl]
      rfl
    · rw [if_neg (fun h => h2 h.2)]
      congr 2
      by_cases h3 : i + 1 < T.size
      · rw [drop_getD h3, fixA, fixA]
        by_cases h4 : T.getD (i + 1) 0 = 13
        · rw [if_pos h4, if_pos h4]
        · rw [if_neg h4, if_neg h4, if_neg (fun q => h2 ⟨h3, q⟩), if_neg (fun q => h2 ⟨h3, q⟩)]
      · rw [List.drop_eq_nil_of_le (by simpa using h3)]; rfl
theorem extract_toList (T : Array Nat) (a b : Nat) (h : a ≤ b) (hb : b ≤ T.size) : (T.extract a b).toList ++ T.toList.drop b = T.toList.drop a := by
  rw [Array.toList_extract]
  rw [List.extract_eq_take_drop]
  have : T.toList.drop b = (T.toList.drop a).drop (b - a) := by rw [List.drop_drop]; congr 1; omega
  rw [this, List.take_append_drop]
theorem mem_extract {T : Array Nat} {a b c : Nat} (h : c ∈ (T.extract a b).toList) : ∃ j, a ≤ j ∧ j < b ∧ j < T.size ∧ T.getD j 0 = c := by
  obtain ⟨j, hj, e⟩ := List.getElem_of_mem h
  have hj' : j < (T.extract a b).size := by rw [← Array.length_toList]; exact hj
  rw [Array.size_extract] at hj'
  refine ⟨a + j, by omega, by omega, by omega, ?_⟩
  rw [← e]
  simp [Array.getD, show a + j < T.size by omega]
theorem pieces_fix (T : Array Nat) : ∀ (fuel p : Nat), T.size < p + fuel → p ≤ T.size → joined (subPieces T (fun s => nextEnd T (T.size + 1 - s) s) (endOf T) ⟨#[13, 10]⟩ fuel p) = fixA false (T.toList.drop p)
  | 0, p, h, hp => by omega
  | fuel + 1, p, h, hp => by
    unfold subPieces
    cases e : nextEnd T (T.size + 1 - p) p with
    | some i =>
      dsimp only
      obtain ⟨a, b, c, d⟩ := nextEnd_some e
      obtain ⟨e1, e2⟩ := endOf_bounds T i b
      have ih := pieces_fix T fuel (endOf T i) (by omega) e2
      have key : fixA false (T.toList.drop p) = (T.extract p i).toList ++ 13 :: 10 :: fixA false (T.toList.drop (endOf T i)) := by
        rw [← extract_toList T p i a (by omega), fixA_plain, fixA_at b c]
        intro x hx
        obtain ⟨j, j1, j2, j3, j4⟩ := mem_extract hx
        rw [← j4]; exact d j j1 j2
      rw [key, ← ih]
      by_cases hpi : p < i
      · rw [if_pos hpi]; simp [joined]
      · rw [if_neg hpi]
        have : p = i := by omega
        subst this
        simp [joined]
    | none =>
      dsimp only
      have hn := nextEnd_none e (by omega)
      by_cases hpl : p < T.size
      · rw [if_pos hpl]
        have key : fixA false (T.toList.drop p) = (T.extract p T.size).toList := by
          rw [← extract_toList T p T.size hp (Nat.le_refl _), fixA_plain]
          · rw [List.drop_eq_nil_of_le (by simp)]; simp [fixA]
          · intro x hx
            obtain ⟨j, j1, j2, j3, j4⟩ := mem_extract hx
            rw [← j4]; exact hn j j1 j3
        rw [key]; simp [joined]
      · rw [if_neg hpl, List.drop_eq_nil_of_le (by simp; omega)]; rfl
end Mine
end
section
open PySem PySem.W PyProof.Rows PySem.Calls
set_option Elab.async false
set_option linter.unusedVariables false
set_option linter.unusedSimpArgs false
namespace Mine
open Sre (M)
/-- a dot doubled at a row's head; the mark: a row begins here -/
noncomputable def quoteA : Bool → List Nat → List Nat
  | _, [] => []
  | b, c :: r => if (b && c == 46) = true then 46 :: 46 :: quoteA false r else c :: quoteA (c == 10) r
theorem atLine_succ (T : Array Nat) (i : Nat) : atLine T (i + 1) = (T.getD i 0 == 10) := by
  unfold atLine
  simp
theorem quoteA_skip (T : Array Nat) : ∀ (d p i : Nat), i = p + d → i ≤ T.size → (∀ j, p ≤ j → j < i → (atLine T j && T.getD j 0 == 46) = false) →
    quoteA (atLine T p) (T.toList.drop p) = (T.extract p i).toList ++ quoteA (atLine T i) (T.toList.drop i)
  | 0, p, i, h, hi, hn => by
    have : i = p := by omega
    subst this
    simp
  | d + 1, p, i, h, hi, hn => by
    have hp : p < T.size := by omega
    have ih := quoteA_skip T d (p + 1) i (by omega) hi fun j a b => hn j (by omega) b
    rw [drop_getD hp, quoteA, hn p (Nat.le_refl _) (by omega), if_neg (by decide), ← atLine_succ, ih]
    have : (T.extract p i).toList = T.getD p 0 :: (T.extract (p + 1) i).toList := by
      rw [Array.toList_extract, Array.toList_extract, List.extract_eq_take_drop, List.extract_eq_take_drop, drop_getD hp, show i - p = (i - (p + 1)) + 1 by omega, List.take_succ_cons]
    rw [this, List.cons_append]
theorem pieces_quote (T : Array Nat) : ∀ (fuel p : Nat), T.size < p + fuel → p ≤ T.size → joined (subPieces T (fun s => nextDot T (T.size + 1 - s) s) (fun i => i + 1) ⟨#[46, 46]⟩ fuel p) = quoteA (atLine T p) (T.toList.drop p)
  | 0, p, h, hp => by omega
  | fuel + 1, p, h, hp => by
    unfold subPieces
    cases e : nextDot T (T.size + 1 - p) p with
    | some i =>
      dsimp only
      obtain ⟨a, b, c, d⟩ := nextDot_some e
      have ih := pieces_quote T fuel (i + 1) (by omega) (by omega)
      have hc : T.getD i 0 = 46 := by
        rw [Bool.and_eq_true, beq_iff_eq] at c; exact c.2
      have key : quoteA (atLine T p) (T.toList.drop p) = (T.extract p i).toList ++ 46 :: 46 :: quoteA (atLine T (i + 1)) (T.toList.drop (i + 1)) := by
        rw [quoteA_skip T (i - p) p i (by omega) (by omega) d, drop_getD b, quoteA, c, if_pos rfl, atLine_succ, hc]
        rfl
      rw [key, ← ih]
      by_cases hpi : p < i
      · rw [if_pos hpi]; simp [joined]
      · rw [if_neg hpi]
        have : p = i := by omega
        subst this
        simp [joined]
    | none =>
      dsimp only
      have hn := nextDot_none e (by omega)
      by_cases hpl : p < T.size
      · rw [if_pos hpl, quoteA_skip T (T.size - p) p T.size (by omega) (Nat.le_refl _) (fun j a b => hn j a b), List.drop_eq_nil_of_le (by simp)]
        simp [joined, quoteA]
      · rw [if_neg hpl, List.drop_eq_nil_of_le (by simp; omega)]; rfl
end Mine
end
section
open PySem PySem.W PyProof.Rows PySem.Calls
set_option Elab.async false
set_option linter.unusedVariables false
set_option linter.unusedSimpArgs false
namespace Mine
open Sre (M)
theorem joined_cons (x : Str) (r : List Str) : joined (x :: r) = x.cps.toList ++ joined r := by simp [joined]
theorem strJoin_nil : ∀ l : List Str, (Str.join ⟨#[]⟩ l).cps.toList = joined l
  | [] => rfl
  | x :: r => by
    rw [join_nil_cons, joined_cons, ← strJoin_nil r]
    show (x.cps ++ (Str.join ⟨#[]⟩ r).cps).toList = _
    simp
theorem txtJoin_nil (l : List Str) : (Txt.join "" l).cps.toList = joined l := by
  have h := join_closes (sep := Str.ofString "") (sep' := ⟨#[]⟩) (ys := l) rfl
  rw [eq_of_beq h]
  exact strJoin_nil l
noncomputable def fixS (x : Str) : Str := ⟨(fixA false x.cps.toList).toArray⟩
noncomputable def quoteS (x : Str) : Str := ⟨(quoteA true x.cps.toList).toArray⟩
theorem fixA_len : ∀ (b : Bool) (l : List Nat), (fixA b l).length ≤ 2 * l.length
  | _, [] => Nat.le_refl _
  | b, c :: r => by
    rw [fixA]
    have h1 := fixA_len true r
    have h2 := fixA_len false r
    split
    · simp only [List.length_cons]; omega
    · split
      · split
        · simp only [List.length_cons]; omega
        · simp only [List.length_cons]; omega
      · simp only [List.length_cons]; omega
theorem quoteA_len : ∀ (b : Bool) (l : List Nat), (quoteA b l).length ≤ 2 * l.length
  | _, [] => Nat.le_refl _
  | b, c :: r => by
    rw [quoteA]
    have h1 := quoteA_len (c == 10) r
    have h2 := quoteA_len false r
    split
    · simp only [List.length_cons]; omega
    · simp only [List.length_cons]; omega
theorem joined_len : ∀ l : List Str, (joined l).length = (l.map (·.length)).sum
  | [] => rfl
  | x :: r => by rw [joined_cons, List.length_append, joined_len r, List.map_cons, List.sum_cons]; rfl
theorem pieces_some {T : Array Nat} {nx en} {rep : Str} (hr : 1 ≤ rep.length) : ∀ fuel p, p ≤ T.size → (∀ s i, s ≤ T.size → nx s = some i → i ≤ T.size ∧ en i ≤ T.size) → ∀ y ∈ subPieces T nx en rep fuel p, 1 ≤ y.length
  | 0, p, hp, h, y, hy => by cases hy
  | fuel + 1, p, hp, h, y, hy => by
    unfold subPieces at hy
    split at hy
    · rename_i i e
      obtain ⟨h1, h2⟩ := h p i hp e
      rcases List.mem_append.mp hy with hy | hy
      · split at hy
        · rename_i hpi
          rw [List.mem_singleton] at hy
          subst hy
          show 1 ≤ (T.extract p i).size
          rw [Array.size_extract]; omega
        · cases hy
      · rcases List.mem_cons.mp hy with rfl | hy
        · exact hr
        · exact pieces_some hr fuel (en i) h2 h y hy
    · split at hy
      · rename_i hpl
        rw [List.mem_singleton] at hy
        subst hy
        show 1 ≤ (T.extract p T.size).size
        rw [Array.size_extract]; omega
      · cases hy
theorem count_le_sum : ∀ l : List Str, (∀ y ∈ l, 1 ≤ y.length) → l.length ≤ (l.map (·.length)).sum
  | [], _ => Nat.le_refl _
  | x :: r, h => by
    have h1 := h x (List.mem_cons_self ..)
    have h2 := count_le_sum r fun y hy => h y (List.mem_cons_of_mem _ hy)
    rw [List.map_cons, List.sum_cons, List.length_cons]; omega
section
variable {prog : Program} {w : World} {A : Around} {E : Value → Shared → Prop} {s : Shared}
theorem str_eq {a b : Str} (h : a.cps.toList = b.cps.toList) : a = b := by
  cases a; cases b
  congr 1
  exact Array.ext' h
/-- the two substitutions of the text -/
theorem sub_ends {x : Str} {tx tr : Tok} {pa : Addr} (hpa : PatAt s.heap pa C2) (hT : s.TypeIs (.ref pa) "re.Pattern") (hx : x.cps.size ≤ 400000) {Q : Value → Shared → Prop}
    (q : ∀ h' t' tk, Grow s.heap h' → Q (.str (fixS x) t') { s with heap := h', toks := tk }) : wpAny (model prog w) A (call (.builtin "re.Pattern.sub") [.ref pa, .str ⟨#[13, 10]⟩ tr, .str x tx]) Q E s := by
  have hj := pieces_fix x.cps (x.cps.size + 1) 0 (by omega) (Nat.zero_le _)
  rw [List.drop_zero] at hj
  have hs : ((subPieces x.cps (fun s => nextEnd x.cps (x.cps.size + 1 - s) s) (endOf x.cps) ⟨#[13, 10]⟩ (x.cps.size + 1) 0).map (·.length)).sum ≤ 800000 := by
    rw [← joined_len, hj]
    have := fixA_len false x.cps.toList
    have e : x.cps.toList.length = x.cps.size := Array.length_toList
    omega
  have hn := count_le_sum _ (pieces_some (T := x.cps) (nx := fun s => nextEnd x.cps (x.cps.size + 1 - s) s) (en := endOf x.cps) (rep := ⟨#[13, 10]⟩) (by decide) (x.cps.size + 1) 0 (Nat.zero_le _) fun s i _ e => by
    obtain ⟨a, b, _⟩ := nextEnd_some e
    exact ⟨by omega, (endOf_bounds _ _ b).2⟩)
  refine sub_call (finder2 x.cps (by omega)) hpa hT (by decide +kernel) (by omega) (by omega) (by omega) fun h' t' tk g => ?_
  have : Txt.join "" (subPieces x.cps (fun s => nextEnd x.cps (x.cps.size + 1 - s) s) (endOf x.cps) ⟨#[13, 10]⟩ (x.cps.size + 1) 0) = fixS x := str_eq (by rw [txtJoin_nil, hj]; simp [fixS])
  rw [this]
  exact q h' t' tk g
theorem sub_dots {x : Str} {tx tr : Tok} {pa : Addr} (hpa : PatAt s.heap pa C1) (hT : s.TypeIs (.ref pa) "re.Pattern") (hx : x.cps.size ≤ 400000) {Q : Value → Shared → Prop}
    (q : ∀ h' t' tk, Grow s.heap h' → Q (.str (quoteS x) t') { s with heap := h', toks := tk }) : wpAny (model prog w) A (call (.builtin "re.Pattern.sub") [.ref pa, .str ⟨#[46, 46]⟩ tr, .str x tx]) Q E s := by
  have hj := pieces_quote x.cps (x.cps.size + 1) 0 (by omega) (Nat.zero_le _)
  rw [List.drop_zero] at hj
  have h0 : atLine x.cps 0 = true := rfl
  rw [h0] at hj
  have hs : ((subPieces x.cps (fun s => nextDot x.cps (x.cps.size + 1 - s) s) (fun i => i + 1) ⟨#[46, 46]⟩ (x.cps.size + 1) 0).map (·.length)).sum ≤ 800000 := by
    rw [← joined_len, hj]
    have := quoteA_len true x.cps.toList
    have e : x.cps.toList.length = x.cps.size := Array.length_toList
    omega
  have hn := count_le_sum _ (pieces_some (T := x.cps) (nx := fun s => nextDot x.cps (x.cps.size + 1 - s) s) (en := fun i => i + 1) (rep := ⟨#[46, 46]⟩) (by decide) (x.cps.size + 1) 0 (Nat.zero_le _) fun s i _ e => by
    obtain ⟨a, b, _⟩ := nextDot_some e
    exact ⟨by omega, by show i + 1 ≤ _; omega⟩)
  refine sub_call (finder1 x.cps (by omega)) hpa hT (by decide +kernel) (by omega) (by omega) (by omega) fun h' t' tk g => ?_
  have : Txt.join "" (subPieces x.cps (fun s => nextDot x.cps (x.cps.size + 1 - s) s) (fun i => i + 1) ⟨#[46, 46]⟩ (x.cps.size + 1) 0) = quoteS x := str_eq (by rw [txtJoin_nil, hj]; simp [quoteS])
  rw [this]
  exact q h' t' tk g
end
end Mine
end
section
open PySem PySem.W PyProof.Rows PySem.Calls
set_option Elab.async false
set_option linter.unusedVariables false
set_option linter.unusedSimpArgs false
set_option maxRecDepth 100000
namespace Mine
/-- a pattern of the text -/
structure PatG (W : Wd) (x : Str) (pa : Addr) (code : Array Nat) : Prop where
  name : GName W x (.ref pa)
  at' : PatAt W.hB pa code
  obj : ∃ o, W.hB.get? pa = some o ∧ o.cls = .type "re.Pattern" ∧ o.dict = none
section
variable {W : Wd} {n : Nat} {C : Scope} {sl : List Str}
theorem den_gstr (O : W.Ok) {x : Str} {pos : Pos} {v : Str} {t : Tok} (hx : C.names.lookup x = some .globalImplicit) (hd : (x == ("__debug__" : Str)) = false) (hg : GName W x (.str v t)) : DenE W n C sl (.Name x pos) (fun _ => some (.str v)) := by
  intro A env P ℓ s m E Q X R e q
  cases e
  exact load_g O X hx hd hg (q _ s.heap s.toks (Grow.refl _) (Nat.le_refl _) ⟨t, rfl⟩)
noncomputable def subF (rep : Str) (f : Str → Str) : List MV → Option MV := fun ms => match ms with
  | [.str r, .str x] => if r = rep ∧ x.cps.size ≤ 400000 then some (.str (f x)) else none
  | _ => none
theorem plainAttrs_pat : PlainAttrs "re.Pattern" :=
  ⟨⟨"object.__getattribute__", by rw [typeLookup_type, builtinLookup_eq_fast]; kernel_rfl, by decide +kernel⟩, by rw [typeLookup_type, builtinLookup_eq_fast]; kernel_rfl⟩
theorem den_sub (O : W.Ok) {pn : Str} {pa : Addr} {code : Array Nat} {rep : Str} {f : Str → Str} (K : PatG W pn pa code) (hx : C.names.lookup pn = some .globalImplicit) (hd : (pn == ("__debug__" : Str)) = false)
    (hsub : ∀ {A : Around} {E : Value → Shared → Prop} {s : Shared} {x : Str} {tx tr : Tok} {Q : Value → Shared → Prop}, PatAt s.heap pa code → s.TypeIs (.ref pa) "re.Pattern" → x.cps.size ≤ 400000 →
      (∀ h' t' tk, Grow s.heap h' → Q (.str (f x) t') { s with heap := h', toks := tk }) → wpAny (model W.prog W.w) A (call (.builtin "re.Pattern.sub") [.ref pa, .str rep tr, .str x tx]) Q E s)
    {np ap pos : Pos} {e1 e2 : Expr} {g} (hfew : Few [e1, e2] pos) (hline : (ap.endLine == pos.line) = true) (h1 : OneArg [e1, e2]) (D : DenL W n C sl [e1, e2] g) :
    DenE W n C sl (.Call (.Attribute (.Name pn np) "sub" ap) [e1, e2] [] pos) (fun ℓ => (g ℓ).bind (subF rep f)) := by
  intro A env P ℓ s m E Q X R hm q
  dsimp only at hm
  cases hg : g ℓ with
  | none => simp [hg] at hm
  | some ms =>
    rw [hg, Option.bind_some] at hm
    unfold subF at hm
    split at hm
    case h_2 => cases hm
    rename_i r x
    split at hm
    case isFalse => cases hm
    rename_i hc
    cases hm
    obtain ⟨rfl, hlen⟩ := hc
    obtain ⟨o, ho, hcls, hdict⟩ := K.obj
    refine wpAny_Call_method (T := "re.Pattern") (id := "re.Pattern.sub") rfl (hfew env) hline plainAttrs_pat MF.slot_pat_sub MF.type_pat_sub ?_
    refine load_g O X hx hd K.name ⟨⟨o, X.base _ _ ho, hcls⟩, fun a e => (by cases e; exact ⟨o, X.base _ _ ho, hdict⟩), ?_⟩
    obtain ⟨xx, rest, e1', hr⟩ := h1 env pos
    have main : wpAny (model W.prog W.w) A (spliced (backTo pos (starEach [e1, e2] env))) (fun vs s₁ => wpAny (model W.prog W.w) A (call (.builtin "re.Pattern.sub") (.ref pa :: vs)) Q E s₁) E s := by
      refine D X R hg fun vs h₁ tk₁ g₁ t₁ rs => ?_
      obtain ⟨v1, r1, rfl, ⟨tr, rfl⟩, v2, r2, rfl, ⟨tx, rfl⟩, e3⟩ := rs
      have e3' : r2 = [] := e3
      subst e3'
      have g₁' : Grow s.heap h₁ := g₁
      have t₁' : s.toks ≤ tk₁ := t₁
      refine mono_toks' fun E' => hsub (s := { s with heap := h₁, toks := tk₁ }) (K.at'.grow (X.base.trans g₁')) ⟨o, g₁' _ _ (X.base _ _ ho), hcls⟩ hlen fun h' t' tk gg ht' => ?_
      have ht'' : tk₁ ≤ tk := ht'
      exact q _ h' tk (g₁'.trans gg) (Nat.le_trans t₁' ht'') ⟨t', rfl⟩
    rw [e1'] at main ⊢
    exact callWith_builtin (by simpa using hr) (evalArgs_plain main)
end
end Mine
end
section
open PySem PySem.W PyProof.Rows PySem.Calls
set_option Elab.async false
set_option linter.unusedVariables false
set_option linter.unusedSimpArgs false
namespace Mine
/-- the class as it stands: what its look-ups give -/
structure ClsAt (W : Wd) (K : Frag) where
  cd : ClassData
  inB : K.In W.hB
  cls : clsIn K wsC = some cd
  own : cd.hasDict = true
  ga : findIn K (.ref wsC) "__getattribute__" = some (some (.builtin "object.__getattribute__"))
  noNorm : findIn K (.ref wsC) "norm" = some none
  noNt : findIn K (.ref wsC) "nt" = some none
  noRaw : findIn K (.ref wsC) "raw" = some none
theorem findObj_own {K : Frag} {C : Addr} {cd : ClassData} {o : Obj} {name : Str} {v : Value} (hc : clsIn K C = some cd) (hd : cd.hasDict = true) (hf : findIn K (.ref C) name = some none) (hl : lookIn name o = some (some v)) :
    findObj K C (some o) name = some (.value v) := by
  unfold findObj
  rw [hc, Option.bind_some, hf, Option.bind_some]
  dsimp only
  rw [Option.bind_some, Option.bind_some]
  dsimp only
  unfold PySem.W.ownOf
  rw [if_pos hd]
  dsimp only
  rw [hl, Option.bind_some]
section
variable {W : Wd} {n : Nat} {C : Scope} {sl : List Str} {K : Frag}
noncomputable def attrF (name : Str) : MV → Option MV := fun m => match m with
  | .ws raw count b n nt => if name = ("norm" : Str) then some (.tup [.tup (count.map .int), .int b]) else if name = ("nt" : Str) then some (.int nt) else none
  | _ => none
theorem den_wsattr (KC : ClsAt W K) {o : Expr} {name : Str} {pos : Pos} {f : MF} (hbase : ∀ env, attributeBase o name env (eval o env) = eval o env) (D : DenE W n C sl o f) :
    DenE W n C sl (.Attribute o name pos) (fun ℓ => (f ℓ).bind (attrF name)) := by
  intro A env P ℓ s m E Q X R hm q
  dsimp only at hm
  cases hf : f ℓ with
  | none => simp [hf] at hm
  | some mv =>
    rw [hf, Option.bind_some] at hm
    unfold attrF at hm
    split at hm
    case h_2 => cases hm
    rename_i raw count b n' nt
    rw [arm_eval_Attribute, hbase]
    refine wpAny_bind (D X R hf fun v h₁ tk₁ g t r => ?_)
    obtain ⟨x, dx, es, ne, rfl, p1, p2, g1, g2, t1, t2, t3, tu, cu, vs, us, t4, h1, h2, h3, h4, h5, k1, k2, k3, k4, k5, p3, p4, rfl, i1, i2, i3, i4⟩ := r
    have g' : Grow s.heap h₁ := g
    have t' : s.toks ≤ tk₁ := t
    have I : InstAt h₁ x (instObj wsC dx) wsC (some (dictOf _ ne)) := ⟨g1, rfl, rfl, g2⟩
    have X1 : K.In h₁ := fun b o e => X.base.trans g' b o (KC.inB b o e)
    refine wpAny_bind (wpAny_standAt (wpAny_bind (wpAny_holding ?_)))
    split at hm
    · rename_i hn
      subst hn
      cases hm
      refine get_value (s := { s with heap := h₁, toks := tk₁ }) X1 I KC.ga (findObj_own KC.cls KC.own KC.noNorm (v := .ref tu) rfl) rfl ?_
      refine wpAny_bind (wpAny_letTemporaryGo (wpAny_pure (q _ h₁ (tk₁ + 1) g' (Nat.le_succ_of_le t') ?_)))
      exact ⟨tu, vs, rfl, p3, i1, by rw [i2]; exact ⟨_, _, rfl, ⟨cu, us, rfl, p4, i3, VRs.ofInts i4⟩, _, _, rfl, ⟨t4, rfl⟩, rfl⟩⟩
    · split at hm
      · rename_i hn
        subst hn
        cases hm
        refine get_value (s := { s with heap := h₁, toks := tk₁ }) X1 I KC.ga (findObj_own KC.cls KC.own KC.noNt (v := .int nt t3) rfl) rfl ?_
        exact wpAny_bind (wpAny_letTemporaryGo (wpAny_pure (q _ h₁ (tk₁ + 1) g' (Nat.le_succ_of_le t') ⟨t3, rfl⟩)))
      · cases hm
end
end Mine
end
section
set_option genInjectivity false
set_option genSizeOf false
set_option genSizeOfSpec false
open PySem PySem.W PyProof.Rows PySem.Calls
set_option Elab.async false
set_option linter.unusedVariables false
set_option linter.unusedSimpArgs false
namespace Mine
/-- the text's own statements, and its defs as records -/
noncomputable def stAt (i : Nat) : Option Stmt := PySem.Challenge.pw_sw0046_01.main.body[i]?
noncomputable def noRec : DefRec := ⟨"", ⟨[], [], none, [], [], none, []⟩, [], ⟨.function, [], false, false, []⟩, ⟨0,0,0,0⟩⟩
noncomputable def recOf : Option Stmt → DefRec
  | some (.FunctionDef name a b _ _ _ sc _ _ pos) => ⟨name, a, b, sc, pos⟩
  | _ => noRec
noncomputable def recAt (i : Nat) : DefRec := recOf (stAt i)
/-- the methods of the class at place 17 -/
noncomputable def methAt (k : Nat) : DefRec := match stAt 17 with
  | some (.ClassDef _ _ _ body _ _ _ _ _ _ _) => recOf body[k]?
  | _ => noRec

section
variable {W : Wd} {n : Nat} {C : Scope} {sl : List Str}
theorem DenI.weak {e f} (D : DenI true W n C sl e f) : DenI false W n C sl e f := by
  intro A env P ℓ s items E K X R he q
  exact D X R he fun I fp wr Pt St h₂ tk g t M st hf hw _ hit hz => q I fp wr Pt St h₂ tk g t M st hf hw (fun h => by cases h) hit hz
end
noncomputable abbrev mulIF : LV → LV → Option MV := intBin fun a b => if small a then some (.fint (a * b)) else none
noncomputable abbrev mulAll : LV → LV → Option MV := orF mulIF (orF mulS repF)
theorem ok_mulAll (W : Wd) : BinOK W (binaryOp .Mult) mulAll := BinOK.or (ok_mulI W) (BinOK.or (ok_mulS W) (ok_rep W))
noncomputable abbrev subIF : LV → LV → Option MV := intBin fun a b => some (.fint (a - b))
noncomputable abbrev modIF : LV → LV → Option MV := intBin fun a b => if b = 0 then none else some (.fint (a.fmod b))
noncomputable abbrev divIF : LV → LV → Option MV := intBin fun a b => if b = 0 then none else if -1000000000 < b ∧ b < 1000000000 then some (.fint (a.fdiv b)) else none
noncomputable abbrev neF : LV → LV → Option Bool := fun x y => (eqF x y).map (!·)
noncomputable abbrev ltF : LV → LV → Option Bool := intCmp fun a b => decide (a < b)
noncomputable abbrev gtF : LV → LV → Option Bool := intCmp fun a b => decide (b < a)
noncomputable abbrev geF : LV → LV → Option Bool := intCmp fun a b => decide (b ≤ a)
noncomputable abbrev toAF (f : MF) : LF := fun ℓ => (f ℓ).map .val
noncomputable abbrev toLF (f : List LV → Option (List MV)) : MF := fun ℓ => (f ℓ).map .list
noncomputable abbrev toIF (f : List LV → Option Int) : MF := fun ℓ => (f ℓ).map .fint
noncomputable abbrev toBF (f : List LV → Option Bool) : MF := fun ℓ => (f ℓ).map .bool
noncomputable abbrev nilF {α : Type} : List LV → Option (List α) := fun _ => some []
noncomputable abbrev litF (l : MV) : MF := fun _ => some l
noncomputable abbrev litIF (l : Int) : List LV → Option Int := fun _ => some l
noncomputable abbrev fitF (f : List LV → Option (List MV)) : List LV → Option (List MV) := fun ℓ => (f ℓ).bind fits
noncomputable abbrev tupF (f : List LV → Option (List MV)) : MF := fun ℓ => ((f ℓ).bind fits).map .tup
noncomputable abbrev callF {α : Type} (g : List LV → Option (List LV)) (F : List LV → Option α) : List LV → Option α := fun ℓ => match g ℓ with | some a => F a | none => none
noncomputable abbrev rangF (g : List LV → Option (List LV)) : List LV → Option (List MV) := fun ℓ => match g ℓ with | some a => rangeA a | none => none
noncomputable abbrev iterF (f : LF) : List LV → Option (List MV) := fun ℓ => match f ℓ with | some lv => (match lv.list? with | some l => if szOK l then some l else none | none => none) | none => none
noncomputable abbrev partF (f : LF) : List LV → Option (Option Int) := fun ℓ => match f ℓ with | some v => v.num.map some | none => none
noncomputable abbrev part0F : List LV → Option (Option Int) := fun _ => some none
noncomputable abbrev negF (f : MF) : MF := fun ℓ => match f ℓ with | some m => (match m.num with | some i => some (.fint (-i)) | none => none) | none => none
noncomputable abbrev trueTF : List LV → Option Bool := fun _ => some true
noncomputable abbrev truthF (f : MF) : List LV → Option Bool := fun ℓ => match f ℓ with | some (.bool b) => some b | _ => none
noncomputable abbrev nextF : SF := fun ℓ => some (.next ℓ)
noncomputable abbrev freezeF (i : Nat) (g : SF) : SF := fun ℓ => g (frz ℓ i)
noncomputable abbrev lenFF (f : LF) : List LV → Option Int := fun ℓ => (f ℓ).bind lenF
noncomputable abbrev nameA (i : Nat) : LF := fun ℓ => lookA ℓ i
noncomputable abbrev nameE (i : Nat) : MF := fun ℓ => lookE ℓ i
noncomputable abbrev joinFF (sep : Str) (f : LF) : MF := fun ℓ => (f ℓ).bind (joinF sep)
noncomputable abbrev replFF (y z : Str) (f : MF) : MF := fun ℓ => (f ℓ).bind (replF y z)
noncomputable abbrev subFF (rep : Str) (f : Str → Str) (g : List LV → Option (List MV)) : MF := fun ℓ => (g ℓ).bind (subF rep f)
noncomputable abbrev attrFF (name : Str) (f : MF) : MF := fun ℓ => (f ℓ).bind (attrF name)
noncomputable abbrev imulF (g1 : List LV → Option (List MV)) (g2 : MF) : List LV → Option (List MV) := fun ℓ => match g1 ℓ, g2 ℓ with
      | some l, some m => (match m.num with
        | some k => if l.length ≤ 1000 ∧ -1000 ≤ k ∧ k ≤ 1000 then some (List.replicate k.toNat l).flatten else none
        | none => none)
      | _, _ => none
noncomputable abbrev indexFF (g1 : LF) (g2 : List LV → Option Int) : MF := fun ℓ => match g1 ℓ, g2 ℓ with
      | some lv, some k => (match lv.list? with | some l => indexF l k | none => none)
      | _, _ => none
noncomputable abbrev defF (ps : Nat) (g : SF) (k : Nat) : List LV → Option MV := fun lvs => if lvs.length = ps then fnF g k lvs else none
noncomputable abbrev defNF (ps : Nat) (g : SF) (f : List LV → Option (List MV)) (k : Nat) : List LV → Option (List MV) := fun lvs => if lvs.length = ps then (match g (initL lvs k) with | some (.next ℓ) => f ℓ | _ => none) else none

/-- a method as the class's look-ups give it -/
structure MethAt (W : Wd) (K : Frag) (name : Str) (a : Addr) : Prop where
  form : CallForm W (.ref a)
  nga : findIn K (.ref wsC) "__getattr__" = some none
  find : findIn K (.ref wsC) name = some (some (.ref a))
  typ : typeIn K (.ref a) = some (.type "function")
  key : (["raw", "n", "nt", "norm", "is_simple"] : List Str).all (fun x => !(x == name)) = true
/-- what the top gives: its defs, its names, its patterns, its class -/
structure Law (W : Wd) where
  O : W.Ok
  aMul : Addr
  fMul : FnObj W (recAt 3) aMul
  nMul : GName W "mul" (.ref aMul)
  aSub : Addr
  fSub : FnObj W (recAt 4) aSub
  nSub : GName W "sub" (.ref aSub)
  aConcat : Addr
  fConcat : FnObj W (recAt 5) aConcat
  nConcat : GName W "concat" (.ref aConcat)
  aContains : Addr
  fContains : FnObj W (recAt 6) aContains
  nContains : GName W "contains" (.ref aContains)
  aDelitem : Addr
  fDelitem : FnObj W (recAt 7) aDelitem
  nDelitem : GName W "delitem" (.ref aDelitem)
  aIndexOf : Addr
  fIndexOf : FnObj W (recAt 8) aIndexOf
  nIndexOf : GName W "indexOf" (.ref aIndexOf)
  aImul : Addr
  fImul : FnObj W (recAt 9) aImul
  nImul : GName W "imul" (.ref aImul)
  aQuote : Addr
  fQuote : FnObj W (recAt 14) aQuote
  nQuote : GName W "quotedata" (.ref aQuote)
  aFix : Addr
  fFix : FnObj W (recAt 15) aFix
  nFix : GName W "_fix_eols" (.ref aFix)
  aHeaps : Addr
  fHeaps : FnObj W (recAt 19) aHeaps
  nHeaps : GName W "_law_heaps" (.ref aHeaps)
  aHands : Addr
  fHands : FnObj W (recAt 20) aHands
  nHands : GName W "_law_hands" (.ref aHands)
  aOrder : Addr
  fOrder : FnObj W (recAt 21) aOrder
  nOrder : GName W "_law_order" (.ref aOrder)
  aMail : Addr
  fMail : FnObj W (recAt 22) aMail
  nMail : GName W "_law_mail" (.ref aMail)
  aLead : Addr
  fLead : FnObj W (recAt 23) aLead
  nLead : GName W "_law_lead" (.ref aLead)
  aFound : Addr
  fFound : FnObj W (recAt 24) aFound
  nFound : GName W "_law_found" (.ref aFound)
  aBack : Addr
  fBack : FnObj W (recAt 25) aBack
  nBack : GName W "_law_read_back" (.ref aBack)
  aAhead : Addr
  fAhead : FnObj W (recAt 26) aAhead
  nAhead : GName W "_law_ahead" (.ref aAhead)
  aGiven : Addr
  fGiven : FnObj W (recAt 27) aGiven
  nGiven : GName W "_law_given_back" (.ref aGiven)
  aInit : Addr
  fInit : FnQ W "Whitespace.__init__" (methAt 1) aInit
  aLongest : Addr
  fLongest : FnQ W "Whitespace.longest_run_of_spaces" (methAt 2) aLongest
  aIndent : Addr
  fIndent : FnQ W "Whitespace.indent_level" (methAt 3) aIndent
  aEqual : Addr
  fEqual : FnQ W "Whitespace.equal" (methAt 4) aEqual
  aWitness : Addr
  fWitness : FnQ W "Whitespace.not_equal_witness" (methAt 5) aWitness
  bLen : GName W "len" (.builtin "len")
  bMin : GName W "min" (.builtin "min")
  bMax : GName W "max" (.builtin "max")
  bSum : GName W "sum" (.builtin "sum")
  bSorted : GName W "sorted" (.builtin "sorted")
  bHasattr : GName W "hasattr" (.builtin "hasattr")
  bRange : GName W "range" (.type "range")
  bEnum : GName W "enumerate" (.type "enumerate")
  bTuple : GName W "tuple" (.type "tuple")
  bValueError : GName W "ValueError" (.type "ValueError")
  nCRLF : ∃ t, GName W "CRLF" (.str ⟨#[13, 10]⟩ t)
  a1 : Addr
  p1 : PatG W "_twin_re_1" a1 C1
  a2 : Addr
  p2 : PatG W "_twin_re_2" a2 C2
  K : Frag
  KC : ClsAt W K
  nWs : GName W "Whitespace" (.ref wsC)
  mLongest : MethAt W K "longest_run_of_spaces" aLongest
  mIndent : MethAt W K "indent_level" aIndent
  mEqual : MethAt W K "equal" aEqual
  mWitness : MethAt W K "not_equal_witness" aWitness
  makes : makesIn K wsC = true
  keepW : keepIn K (.ref wsC) = true
  init : findIn K (.ref wsC) "__init__" = some (some (.ref aInit))
  initT : typeIn K (.ref aInit) = some (.type "function")
  setA : findIn K (.ref wsC) "__setattr__" = some (some (.builtin "object.__setattr__"))
  over : plainOver K wsC = true
  hasD : hasDictIn K wsC = true
  taker : ∀ x ∈ (["raw", "n", "nt", "norm", "is_simple"] : List Str), takerIn K wsC x = some none
  mcls : Value
  reads : readsIn K wsC mcls = true
  clsS : ∃ t, findCls K (.ref wsC) mcls "S" = some (.val (.str " " t))
  clsT : ∃ t, findCls K (.ref wsC) mcls "T" = some (.val (.str "\t" t))
end Mine
end
section
open PySem PySem.W PyProof.Rows PySem.Calls
set_option Elab.async false
set_option linter.unusedVariables false
set_option linter.unusedSimpArgs false
set_option maxRecDepth 100000
namespace Mine
noncomputable def ClsAt.at {W : Wd} {K : Frag} (X : ClsAt W K) (N : AP) (f : Bool) : ClsAt { W with N := N, full := f } K := ⟨X.cd, X.inB, X.cls, X.own, X.ga, X.noNorm, X.noNt, X.noRaw⟩
noncomputable def Law.at {W : Wd} (L : Law W) (N : AP) (f : Bool) : Law { W with N := N, full := f } where
  O := ⟨L.O.g, L.O.b, L.O.nolimit⟩
  aMul := L.aMul
  fMul := L.fMul
  nMul := L.nMul
  aSub := L.aSub
  fSub := L.fSub
  nSub := L.nSub
  aConcat := L.aConcat
  fConcat := L.fConcat
  nConcat := L.nConcat
  aContains := L.aContains
  fContains := L.fContains
  nContains := L.nContains
  aDelitem := L.aDelitem
  fDelitem := L.fDelitem
  nDelitem := L.nDelitem
  aIndexOf := L.aIndexOf
  fIndexOf := L.fIndexOf
  nIndexOf := L.nIndexOf
  aImul := L.aImul
  fImul := L.fImul
  nImul := L.nImul
  aQuote := L.aQuote
  fQuote := L.fQuote
  nQuote := L.nQuote
  aFix := L.aFix
  fFix := L.fFix
  nFix := L.nFix
  aHeaps := L.aHeaps
  fHeaps := L.fHeaps
  nHeaps := L.nHeaps
  aHands := L.aHands
  fHands := L.fHands
  nHands := L.nHands
  aOrder := L.aOrder
  fOrder := L.fOrder
  nOrder := L.nOrder
  aMail := L.aMail
  fMail := L.fMail
  nMail := L.nMail
  aLead := L.aLead
  fLead := L.fLead
  nLead := L.nLead
  aFound := L.aFound
  fFound := L.fFound
  nFound := L.nFound
  aBack := L.aBack
  fBack := L.fBack
  nBack := L.nBack
  aAhead := L.aAhead
  fAhead := L.fAhead
  nAhead := L.nAhead
  aGiven := L.aGiven
  fGiven := L.fGiven
  nGiven := L.nGiven
  aInit := L.aInit
  fInit := L.fInit
  aLongest := L.aLongest
  fLongest := L.fLongest
  aIndent := L.aIndent
  fIndent := L.fIndent
  aEqual := L.aEqual
  fEqual := L.fEqual
  aWitness := L.aWitness
  fWitness := L.fWitness
  bLen := L.bLen
  bMin := L.bMin
  bMax := L.bMax
  bSum := L.bSum
  bSorted := L.bSorted
  bHasattr := L.bHasattr
  bRange := L.bRange
  bEnum := L.bEnum
  bTuple := L.bTuple
  bValueError := L.bValueError
  nCRLF := L.nCRLF
  a1 := L.a1
  p1 := ⟨L.p1.name, L.p1.at', L.p1.obj⟩
  a2 := L.a2
  p2 := ⟨L.p2.name, L.p2.at', L.p2.obj⟩
  K := L.K
  KC := L.KC.at N f
  nWs := L.nWs
  mLongest := ⟨L.mLongest.form, L.mLongest.nga, L.mLongest.find, L.mLongest.typ, L.mLongest.key⟩
  mIndent := ⟨L.mIndent.form, L.mIndent.nga, L.mIndent.find, L.mIndent.typ, L.mIndent.key⟩
  mEqual := ⟨L.mEqual.form, L.mEqual.nga, L.mEqual.find, L.mEqual.typ, L.mEqual.key⟩
  mWitness := ⟨L.mWitness.form, L.mWitness.nga, L.mWitness.find, L.mWitness.typ, L.mWitness.key⟩
  makes := L.makes
  keepW := L.keepW
  init := L.init
  initT := L.initT
  setA := L.setA
  over := L.over
  hasD := L.hasD
  taker := L.taker
  mcls := L.mcls
  reads := L.reads
  clsS := L.clsS
  clsT := L.clsT
noncomputable def Law.w0 {W : Wd} (L : Law W) : Law W.w0 := L.at (fun _ => False) false
theorem ix_body : ∃ p, (recAt 8).body = ixBody p := ⟨⟨_, _, _, _, _, _, _, _, _, _, _, _, _, _, _, _, _, _, _, _, _, _, _, _⟩, rfl⟩
theorem fx_body : ∃ p, (recAt 24).body = fxBody p := ⟨⟨_, _, _, _, _, _, _, _, _, _, _⟩, rfl⟩
theorem one_of {vs : List Value} (h : vs.length = 1) : ∃ a, vs = [a] := List.length_eq_one_iff.mp h
theorem two_of {vs : List Value} (h : vs.length = 2) : ∃ a b, vs = [a, b] := by
  obtain _ | ⟨a, vs⟩ := vs
  · cases h
  · obtain ⟨b, rfl⟩ := one_of (Nat.succ.inj h)
    exact ⟨a, b, rfl⟩
theorem three_of {vs : List Value} (h : vs.length = 3) : ∃ a b c, vs = [a, b, c] := by
  obtain _ | ⟨a, vs⟩ := vs
  · cases h
  · obtain ⟨b, c, rfl⟩ := two_of (Nat.succ.inj h)
    exact ⟨a, b, c, rfl⟩
noncomputable def Law.found {W : Wd} (L : Law W) : FoundAt W where
  d := recAt 8
  df := recAt 24
  f := L.aIndexOf
  fa := L.aFound
  p := Classical.choose ix_body
  r := Classical.choose fx_body
  F := L.fIndexOf
  hchk := by kernel_rfl
  hb := fun _ _ _ vs h => by obtain ⟨v0, v1, rfl⟩ := two_of h; rfl
  hbody := Classical.choose_spec ix_body
  hla := by kernel_rfl
  hlb := by kernel_rfl
  hli := by kernel_rfl
  hlj := by kernel_rfl
  hle := by kernel_rfl
  hlv := by kernel_rfl
  ge := L.bEnum
  gv := L.bValueError
  Ff := L.fFound
  gi := L.nIndexOf
  gf := L.nFound
  hchkf := by kernel_rfl
  hbf := fun _ _ _ vs h => by obtain ⟨v0, v1, rfl⟩ := two_of h; rfl
  hbodyf := Classical.choose_spec fx_body
  hld := by kernel_rfl
  hls := by kernel_rfl
  hlif := by kernel_rfl
  hlvf := by kernel_rfl
theorem few1 {e : Expr} {pos : Pos} (h : ∀ env, starEach [e] env = [(false, eval e env)] := by intro _; rfl) : Few [e] pos := fun env => by rw [h]; rfl
theorem few2 {e f : Expr} {pos : Pos} (h : ∀ env, starEach [e, f] env = [(false, eval e env), (false, eval f env)] := by intro _; rfl) : Few [e, f] pos := fun env => by rw [h]; rfl
theorem bind_imul (pm code doc : Value) (vs : List Value) (h : vs.length = (["a", "b"] : List Str).length) : bindArgs (docDef (recAt 9).name (recAt 9).params (recAt 9).body (recAt 9).scope pm code doc) ⟨vs, []⟩ = pure ((["a", "b"] : List Str).zip vs) := by obtain ⟨v0, v1, rfl⟩ := two_of h; rfl
theorem bind_delitem (pm code doc : Value) (vs : List Value) (h : vs.length = (["a", "b"] : List Str).length) : bindArgs (docDef (recAt 7).name (recAt 7).params (recAt 7).body (recAt 7).scope pm code doc) ⟨vs, []⟩ = pure ((["a", "b"] : List Str).zip vs) := by obtain ⟨v0, v1, rfl⟩ := two_of h; rfl
end Mine
end
section
open PySem PySem.W PyProof.Rows PySem.Calls
set_option Elab.async false
set_option linter.unusedVariables false
set_option linter.unusedSimpArgs false
namespace Mine
theorem sw_any {C : Scope} {elt : Expr} {gens : List Comprehension} {scope : Scope} {pos tp : Pos} {t : Str} {line : Nat} {env : Env} {b : Bool} (h : env.scope = C)
    (hb : ((if C.kind.isAnnotationScope then ScopeKind.function else C.kind) == .function && C.names.lookup t == some .local && tp.line == pos.line && !(scope.names.any fun (n, k) => n == t && (k == .local || k == .cell))) = b) :
    swapsWith (.ListComp elt gens scope pos) (some (.Name t tp)) line env = pure b := by
  subst h; subst hb; rfl
theorem ws_shadow {P : AP} {h : Heap} {raw count b n nt} {v : Value} {name : Str} (x : WsAt wsC P h raw count b n nt v) (hk : (["raw", "n", "nt", "norm", "is_simple"] : List Str).all (fun x => !(x == name)) = true) :
    ∃ a dx es ne, v = .ref a ∧ InstAt h a (instObj wsC dx) wsC (some (dictOf es ne)) ∧ shadowIn (some (dictOf es ne)) name = some false := by
  obtain ⟨a, dx, es, ne, e, _, _, g1, g2, t1, t2, t3, tu, cu, vs, us, t4, h1, h2, h3, h4, h5, k1, k2, k3, k4, k5, _, _, rfl, _⟩ := x
  refine ⟨a, dx, _, ne, e, ⟨g1, rfl, rfl, g2⟩, ?_⟩
  simp only [List.all_cons, List.all_nil, Bool.and_true, Bool.and_eq_true, Bool.not_eq_true'] at hk
  obtain ⟨k1', k2', k3', k4', k5'⟩ := hk
  unfold shadowIn lookIn dictOf
  simp [List.find?, Value.isStr, k1', k2', k3', k4', k5', DictEntry.refKey]
section
variable {W : Wd} {n : Nat} {C : Scope} {sl : List Str} {K : Frag}
noncomputable abbrev methF (f : MF) (g : List LV → Option (List LV)) (F : List LV → Option MV) : MF := fun ℓ => match f ℓ with
  | some (.ws r c b m t) => (match g ℓ with | some a => F (.val (.ws r c b m t) :: a) | none => none)
  | _ => none
theorem den_meth0 (O : W.Ok) (KC : ClsAt W K) {name : Str} {fa : Addr} (M : MethAt W K name fa) {o : Expr} {apos pos : Pos} {f : MF} {F} (he : ∀ env, ∃ pl, eval (.Call (.Attribute o name apos) [] [] pos) env = (do
      let ov ← eval o env
      standAt apos.atName
      let (f, first) ← holding [ov] (getMethod ov name pl)
      callWith pos f first (backTo pos (starEach [] env)) (backToKw pos (keywordEach [] env)))) (D : DenE W n C sl o f) (hF : CallOK W n (.ref fa) F) :
    DenE W n C sl (.Call (.Attribute o name apos) [] [] pos) (methF f nilF F) := by
  intro A env P ℓ s m E Q X R hm q
  unfold methF at hm
  split at hm
  case h_2 => cases hm
  rename_i r c b k t hf
  dsimp only [nilF] at hm
  obtain ⟨pl, he⟩ := he env
  refine methodCall_KW (he := he) (D X R hf fun v h₁ tk₁ g₁ t₁ rv => ?_)
  obtain ⟨a, dx, es, ne, rfl, I, hsh⟩ := ws_shadow (v := v) rv M.key
  have X1 : K.In h₁ := fun b o e => X.base.trans g₁ b o (KC.inB b o e)
  have X' := X.grow (h' := h₁) g₁ t₁
  refine method_fn X1 I KC.ga M.nga M.find M.typ hsh ?_
  rcases M.form with ⟨id, e⟩ | ⟨T, e⟩ | ⟨a', o', fd, e, ho, hd⟩
  · cases e
  · cases e
  · cases e
    refine callWith_function (o := o') (fd := fd) (PyProof.Rows.evalArgs_none ⟨⟨X'.base _ _ ho, hd⟩, ?_⟩)
    refine hF (s := { s with heap := h₁, toks := tk₁ }) (P := PF P s.heap) X'.cs (Paired.cons (show LR _ _ _ (.val (.ws r c b k t)) _ from rv) .nil) hm fun v' h' tk' g' t' r' => ?_
    exact q v' h' tk' (g₁.trans g') (Nat.le_trans t₁ t') (r'.sub fun a p => PF.sub2 g₁ p)
theorem den_meth (O : W.Ok) (KC : ClsAt W K) {name : Str} {fa : Addr} (M : MethAt W K name fa) {o : Expr} {apos pos : Pos} {args : List Expr} {f : MF} {g} {F} (he : ∀ env, ∃ pl, eval (.Call (.Attribute o name apos) args [] pos) env = (do
      let ov ← eval o env
      standAt apos.atName
      let (f, first) ← holding [ov] (getMethod ov name pl)
      callWith pos f first (backTo pos (starEach args env)) (backToKw pos (keywordEach [] env)))) (h1 : OneArg args) (D : DenE W n C sl o f) (Da : DenLA W n C sl args g) (hF : CallOK W n (.ref fa) F) :
    DenE W n C sl (.Call (.Attribute o name apos) args [] pos) (methF f g F) := by
  intro A env P ℓ s m E Q X R hm q
  unfold methF at hm
  split at hm
  case h_2 => cases hm
  rename_i r c b k t hf
  split at hm
  case h_2 => cases hm
  rename_i lvs hl
  obtain ⟨pl, he⟩ := he env
  refine methodCall_KW (he := he) (D X R hf fun v h₁ tk₁ g₁ t₁ rv => ?_)
  obtain ⟨a, dx, es, ne, rfl, I, hsh⟩ := ws_shadow (v := v) rv M.key
  have X1 : K.In h₁ := fun b o e => X.base.trans g₁ b o (KC.inB b o e)
  have X' := X.grow (h' := h₁) g₁ t₁
  refine method_fn X1 I KC.ga M.nga M.find M.typ hsh ?_
  obtain ⟨x, rest, e, hr⟩ := h1 env pos
  have Dx := Da (P := PF P s.heap) (A := A) (pos := pos) (s := { s with heap := h₁, toks := tk₁ }) (E := E) (env := env) (Q := fun vs s₁ => ∃ h' tk, s₁ = { s with heap := h', toks := tk } ∧ Grow h₁ h' ∧ tk₁ ≤ tk ∧ Paired (LR (PF (PF P s.heap) h₁) h' tk) lvs vs) X' (R.grow (fun a p => PF.sub p) g₁ t₁) hl fun vs h' tk g t p => ⟨h', tk, rfl, g, t, p⟩
  rw [e] at Dx
  rcases M.form with ⟨id, e'⟩ | ⟨T, e'⟩ | ⟨a', o', fd, e', ho, hd⟩
  · cases e'
  · cases e'
  · cases e'
    show wpAny _ _ (callWith pos (.ref fa) [.ref a] (backTo pos (starEach args env)) []) _ _ _
    rw [e]
    refine callWith_function (o := o') (fd := fd) (evalArgs_plain (wpAny_mono Dx (fun vs s₁ y => ?_) fun _ _ y => y))
    obtain ⟨h', tk, rfl, g, tt, p⟩ := y
    have X2 := X'.grow (h' := h') g tt
    refine ⟨⟨X2.base _ _ ho, hd⟩, ?_⟩
    have rv' : LR (PF (PF P s.heap) h₁) h' tk (.val (.ws r c b k t)) (.ref a) := (show LR (PF P s.heap) h₁ tk₁ (.val (.ws r c b k t)) (.ref a) from rv).grow (fun a p => .inl p) g tt
    refine hF (s := { s with heap := h', toks := tk }) (P := PF (PF P s.heap) h₁) X2.cs (Paired.cons rv' p) hm fun v' h'' tk' g' t' r' => ?_
    exact q v' h'' tk' (g₁.trans (g.trans g')) (Nat.le_trans t₁ (Nat.le_trans tt t')) (r'.sub fun a p => PF.sub2 g₁ (PF.sub2 g p))
end
end Mine
end
section
open PySem PySem.W PyProof.Rows PySem.Calls
set_option Elab.async false
set_option linter.unusedVariables false
set_option linter.unusedSimpArgs false
set_option maxRecDepth 100000
namespace Mine

noncomputable def G_mul : SF :=
  (seqS (retF (bind2 mulAll (nameA 0) (nameA 1))) nextF)
theorem d_mul {W : Wd} {n : Nat} (L : Law W) : DenS W n (recAt 3).scope ["a", "b"] (recAt 3).body G_mul := 
  (den_seq (den_return (den_bin (den_nameA 0 rfl rfl rfl) (den_nameA 1 rfl rfl rfl) (ok_mulAll W))) den_done)
noncomputable def F_mul : List LV → Option MV := defF 2 G_mul 0
theorem c_mul {W : Wd} {n : Nat} (L : Law W) : CallOK W (n + 1) (.ref L.aMul) F_mul :=
  fn_ok (ps := ["a", "b"]) (sl := ["a", "b"]) L.O L.fMul (by kernel_rfl) rfl (fun _ _ _ vs h => by obtain ⟨v0, v1, rfl⟩ := two_of h; rfl) (d_mul L.w0)

noncomputable def G_sub : SF :=
  (seqS (retF (bind2 subIF (nameA 0) (nameA 1))) nextF)
theorem d_sub {W : Wd} {n : Nat} (L : Law W) : DenS W n (recAt 4).scope ["a", "b"] (recAt 4).body G_sub := 
  (den_seq (den_return (den_bin (den_nameA 0 rfl rfl rfl) (den_nameA 1 rfl rfl rfl) (ok_sub W))) den_done)
noncomputable def F_sub : List LV → Option MV := defF 2 G_sub 0
theorem c_sub {W : Wd} {n : Nat} (L : Law W) : CallOK W (n + 1) (.ref L.aSub) F_sub :=
  fn_ok (ps := ["a", "b"]) (sl := ["a", "b"]) L.O L.fSub (by kernel_rfl) rfl (fun _ _ _ vs h => by obtain ⟨v0, v1, rfl⟩ := two_of h; rfl) (d_sub L.w0)

noncomputable def G_concat : SF :=
  (seqS (ifM (fun ℓ => ((truthF (callF (cons2 (nameA 0) (cons2 (toAF (litF (.str "__getitem__"))) nilF)) hasF)) ℓ).map (!·)) (fun _ => none) nextF) (seqS (retF (bind2 addF (nameA 0) (nameA 1))) nextF))
theorem d_concat {W : Wd} {n : Nat} (L : Law W) : DenS W n (recAt 5).scope ["a", "b", "msg"] (recAt 5).body G_concat := 
  (den_seq (den_if (den_notT (den_truth (fun _ _ => rfl) (den_call L.O (by kernel_rfl) rfl L.bHasattr (.inl ⟨_, rfl⟩) (fun _ _ => ⟨_, _, rfl, rfl⟩) (den_consA (den_nameA 0 rfl rfl rfl) (den_consA (DenE.toA den_str) den_nilA (fun _ => rfl)) (fun _ => rfl)) (ok_hasattr W _)))) den_never den_done) (den_seq (den_return (den_bin (den_nameA 0 rfl rfl rfl) (den_nameA 1 rfl rfl rfl) (ok_add W))) den_done))
noncomputable def F_concat : List LV → Option MV := defF 2 G_concat 1
theorem c_concat {W : Wd} {n : Nat} (L : Law W) : CallOK W (n + 1) (.ref L.aConcat) F_concat :=
  fn_ok (ps := ["a", "b"]) (sl := ["a", "b", "msg"]) L.O L.fConcat (by kernel_rfl) rfl (fun _ _ _ vs h => by obtain ⟨v0, v1, rfl⟩ := two_of h; rfl) (d_concat L.w0)

noncomputable def G_contains : SF :=
  (seqS (retF (toBF (bind2 inF (nameA 1) (nameA 0)))) nextF)
theorem d_contains {W : Wd} {n : Nat} (L : Law W) : DenS W n (recAt 6).scope ["a", "b"] (recAt 6).body G_contains := 
  (den_seq (den_return (den_cmp (den_nameA 1 rfl rfl rfl) (den_nameA 0 rfl rfl rfl) (ok_in W) rfl)) den_done)
noncomputable def F_contains : List LV → Option MV := defF 2 G_contains 0
theorem c_contains {W : Wd} {n : Nat} (L : Law W) : CallOK W (n + 1) (.ref L.aContains) F_contains :=
  fn_ok (ps := ["a", "b"]) (sl := ["a", "b"]) L.O L.fContains (by kernel_rfl) rfl (fun _ _ _ vs h => by obtain ⟨v0, v1, rfl⟩ := two_of h; rfl) (d_contains L.w0)

noncomputable def G_quotedata : SF :=
  (seqS (retF (subFF ⟨#[46, 46]⟩ quoteS (cons2 (litF (.str "..")) (cons2 (subFF ⟨#[13, 10]⟩ fixS (cons2 (litF (.str ⟨#[13, 10]⟩)) (cons2 (nameE 0) nilF))) nilF)))) nextF)
theorem d_quotedata {W : Wd} {n : Nat} (L : Law W) : DenS W n (recAt 14).scope ["data"] (recAt 14).body G_quotedata := by
  obtain ⟨tcr, hcr⟩ := L.nCRLF
  exact 
  (den_seq (den_return (den_sub L.O L.p1 (by kernel_rfl) rfl (fun a b c d => sub_dots a b c d) few2 rfl (fun _ _ => ⟨_, _, rfl, rfl⟩) (den_cons den_str (den_cons (den_sub L.O L.p2 (by kernel_rfl) rfl (fun a b c d => sub_ends a b c d) few2 rfl (fun _ _ => ⟨_, _, rfl, rfl⟩) (den_cons (den_gstr L.O (by kernel_rfl) rfl hcr) (den_cons (den_nameE 0 rfl rfl rfl) den_nil (fun _ => rfl)) (fun _ => rfl))) den_nil (fun _ => rfl)) (fun _ => rfl)))) den_done)
noncomputable def F_quotedata : List LV → Option MV := defF 1 G_quotedata 0
theorem c_quotedata {W : Wd} {n : Nat} (L : Law W) : CallOK W (n + 1) (.ref L.aQuote) F_quotedata :=
  fn_ok (ps := ["data"]) (sl := ["data"]) L.O L.fQuote (by kernel_rfl) rfl (fun _ _ _ vs h => by obtain ⟨v0, rfl⟩ := one_of h; rfl) (d_quotedata L.w0)

noncomputable def G__fix_eols : SF :=
  (seqS (retF (subFF ⟨#[13, 10]⟩ fixS (cons2 (litF (.str ⟨#[13, 10]⟩)) (cons2 (nameE 0) nilF)))) nextF)
theorem d__fix_eols {W : Wd} {n : Nat} (L : Law W) : DenS W n (recAt 15).scope ["data"] (recAt 15).body G__fix_eols := by
  obtain ⟨tcr, hcr⟩ := L.nCRLF
  exact 
  (den_seq (den_return (den_sub L.O L.p2 (by kernel_rfl) rfl (fun a b c d => sub_ends a b c d) few2 rfl (fun _ _ => ⟨_, _, rfl, rfl⟩) (den_cons (den_gstr L.O (by kernel_rfl) rfl hcr) (den_cons (den_nameE 0 rfl rfl rfl) den_nil (fun _ => rfl)) (fun _ => rfl)))) den_done)
noncomputable def F__fix_eols : List LV → Option MV := defF 1 G__fix_eols 0
theorem c__fix_eols {W : Wd} {n : Nat} (L : Law W) : CallOK W (n + 1) (.ref L.aFix) F__fix_eols :=
  fn_ok (ps := ["data"]) (sl := ["data"]) L.O L.fFix (by kernel_rfl) rfl (fun _ _ _ vs h => by obtain ⟨v0, rfl⟩ := one_of h; rfl) (d__fix_eols L.w0)

noncomputable def B__law_heaps_1 : SF :=
  (seqS (setItF 1 (toAF (bind2 modIF (nameA 2) (toAF (litF (.fint 5))))) (bind2 addF (toAF (bind2 itemS (nameA 1) (toAF (bind2 modIF (nameA 2) (toAF (litF (.fint 5))))))) (toAF (bind2 modIF (toAF (bind2 itemS (nameA 0) (nameA 2))) (toAF (litF (.fint 1000000))))))) nextF)
noncomputable def G__law_heaps : SF :=
  (seqS (setO 1 (fitF (cons2 (litF (.fint 3)) (cons2 (litF (.fint 4)) (cons2 (litF (.fint 1)) (cons2 (litF (.fint 46)) (cons2 (litF (.fint 9)) nilF))))))) (seqS (forF 2 (rangF (cons2 (toAF (callF (cons2 (toAF (toIF (lenFF (nameA 0)))) (cons2 (toAF (litF (.fint 20))) nilF)) min2)) nilF)) B__law_heaps_1) (freezeF 1 (seqS (retF (nameE 1)) nextF))))
theorem d__law_heaps {W : Wd} {n : Nat} (L : Law W) : DenS W n (recAt 19).scope ["script", "heaps", "i"] (recAt 19).body G__law_heaps := 
  (den_seq (den_assignO 1 rfl (by kernel_rfl) (fun _ _ => rfl) (den_listN (den_cons den_int (den_cons den_int (den_cons den_int (den_cons den_int (den_cons den_int den_nil (fun _ => rfl)) (fun _ => rfl)) (fun _ => rfl)) (fun _ => rfl)) (fun _ => rfl)))) (den_seq (den_for (g := B__law_heaps_1) 2 rfl (by kernel_rfl) (fun _ _ => rfl) (den_range L.O (by kernel_rfl) L.bRange (fun _ _ => ⟨_, _, rfl, rfl⟩) (den_consA (DenE.toA (den_call L.O (by kernel_rfl) rfl L.bMin (.inl ⟨_, rfl⟩) (fun _ _ => ⟨_, _, rfl, rfl⟩) (den_consA (DenE.toA (DenF.toE (den_lenF L.O (by kernel_rfl) L.bLen (fun _ _ => ⟨_, _, rfl, rfl⟩) (fun _ => rfl) (den_nameA 0 rfl rfl rfl)))) (den_consA (DenE.toA den_int) den_nilA (fun _ => rfl)) (fun _ => rfl)) (ok_min2 W _))) den_nilA (fun _ => rfl))) (den_seq (den_setitem 1 rfl rfl rfl (fun _ _ => rfl) (den_bin (DenE.toA (den_item (den_nameA 1 rfl rfl rfl) (DenE.toA (den_bin (den_nameA 2 rfl rfl rfl) (DenE.toA den_int) (ok_mod W))) rfl)) (DenE.toA (den_bin (DenE.toA (den_item (den_nameA 0 rfl rfl rfl) (den_nameA 2 rfl rfl rfl) rfl)) (DenE.toA den_int) (ok_mod W))) (ok_add W)) (DenE.toA (den_bin (den_nameA 2 rfl rfl rfl) (DenE.toA den_int) (ok_mod W)))) den_done)) (den_freeze 1 (den_seq (den_return (den_nameE 1 rfl rfl rfl)) den_done))))
noncomputable def F__law_heaps : List LV → Option MV := defF 1 G__law_heaps 2
theorem c__law_heaps {W : Wd} {n : Nat} (L : Law W) : CallOK W (n + 1) (.ref L.aHeaps) F__law_heaps :=
  fn_ok (ps := ["script"]) (sl := ["script", "heaps", "i"]) L.O L.fHeaps (by kernel_rfl) rfl (fun _ _ _ vs h => by obtain ⟨v0, rfl⟩ := one_of h; rfl) (d__law_heaps L.w0)

noncomputable def G__law_hands : SF :=
  (seqS (setV 1 (bind2 addF (toAF (toIF (lenFF (nameA 0)))) (toAF (litF (.fint 1))))) (seqS (retF (toLF (compV (rangF (cons2 (nameA 1) nilF)) trueTF (toLF (compV (rangF (cons2 (nameA 2) nilF)) trueTF (ifM (bind2 neF (nameA 2) (nameA 0)) (bind2 itemS (nameA 1) (toAF (bind2 subIF (toAF (callF (cons2 (nameA 2) (cons2 (nameA 0) nilF)) maxF)) (toAF (litF (.fint 1)))))) (litF (.fint 0))) [1, 0])) [0, 1]))) nextF))
theorem d__law_hands {W : Wd} {n : Nat} (L : Law W) : DenS W n (recAt 20).scope ["figures", "many"] (recAt 20).body G__law_hands := 
  (den_seq (den_assign 1 rfl (by kernel_rfl) (fun _ _ => rfl) (den_bin (DenE.toA (DenF.toE (den_lenF L.O (by kernel_rfl) L.bLen (fun _ _ => ⟨_, _, rfl, rfl⟩) (fun _ => rfl) (den_nameA 0 rfl rfl rfl)))) (DenE.toA den_int) (ok_add W))) (den_seq (den_return (DenN.toE (den_comp ["figures", "many"] [0, 1] (fun _ _ => rfl) (by kernel_rfl) (DenI.weak (den_range L.O (by kernel_rfl) L.bRange (fun _ _ => ⟨_, _, rfl, rfl⟩) (den_consA (den_nameA 1 rfl rfl rfl) den_nilA (fun _ => rfl)))) den_noTest (DenN.toE (den_comp ["figures", "i"] [1, 0] (fun _ _ => rfl) (by kernel_rfl) (DenI.weak (den_range L.O (by kernel_rfl) L.bRange (fun _ _ => ⟨_, _, rfl, rfl⟩) (den_consA (den_nameA 2 rfl rfl rfl) den_nilA (fun _ => rfl)))) den_noTest (den_ifexp (den_cmpT (den_nameA 2 rfl rfl rfl) (den_nameA 0 rfl rfl rfl) (ok_ne W) rfl) (den_item (den_nameA 1 rfl rfl rfl) (DenE.toA (den_bin (DenE.toA (den_call L.O (by kernel_rfl) rfl L.bMax (.inl ⟨_, rfl⟩) (fun _ _ => ⟨_, _, rfl, rfl⟩) (den_consA (den_nameA 2 rfl rfl rfl) (den_consA (den_nameA 0 rfl rfl rfl) den_nilA (fun _ => rfl)) (fun _ => rfl)) (ok_max W _))) (DenE.toA den_int) (ok_sub W))) rfl) den_int)))))) den_done))
noncomputable def F__law_hands : List LV → Option MV := defF 1 G__law_hands 1
theorem c__law_hands {W : Wd} {n : Nat} (L : Law W) : CallOK W (n + 1) (.ref L.aHands) F__law_hands :=
  fn_ok (ps := ["figures"]) (sl := ["figures", "many"]) L.O L.fHands (by kernel_rfl) rfl (fun _ _ _ vs h => by obtain ⟨v0, rfl⟩ := one_of h; rfl) (d__law_hands L.w0)

noncomputable def B__law_order_1 : SF :=
  (seqS (setV 1 (ifM (bind2 eqF (toAF (bind2 itemS (nameA 0) (toAF (bind2 subIF (nameA 2) (toAF (litF (.fint 1))))))) (toAF (litF (.fint 1)))) (bind2 addF (toAF (toLF (fitF (cons2 (nameE 2) nilF)))) (nameA 1)) (bind2 addF (nameA 1) (toAF (toLF (fitF (cons2 (nameE 2) nilF))))))) nextF)
noncomputable def G__law_order : SF :=
  (seqS (setV 1 (toLF (fitF (cons2 (litF (.fint 0)) nilF)))) (seqS (forF 2 (rangF (cons2 (toAF (litF (.fint 1))) (cons2 (toAF (bind2 addF (toAF (toIF (lenFF (nameA 0)))) (toAF (litF (.fint 1))))) nilF))) B__law_order_1) (seqS (retF (nameE 1)) nextF)))
theorem d__law_order {W : Wd} {n : Nat} (L : Law W) : DenS W n (recAt 21).scope ["places", "order", "guest"] (recAt 21).body G__law_order := 
  (den_seq (den_assign 1 rfl (by kernel_rfl) (fun _ _ => rfl) (DenN.toE (den_listN (den_cons den_int den_nil (fun _ => rfl))))) (den_seq (den_for (g := B__law_order_1) 2 rfl (by kernel_rfl) (fun _ _ => rfl) (den_range L.O (by kernel_rfl) L.bRange (fun _ _ => ⟨_, _, rfl, rfl⟩) (den_consA (DenE.toA den_int) (den_consA (DenE.toA (den_bin (DenE.toA (DenF.toE (den_lenF L.O (by kernel_rfl) L.bLen (fun _ _ => ⟨_, _, rfl, rfl⟩) (fun _ => rfl) (den_nameA 0 rfl rfl rfl)))) (DenE.toA den_int) (ok_add W))) den_nilA (fun _ => rfl)) (fun _ => rfl))) (den_seq (den_assign 1 rfl (by kernel_rfl) (fun _ _ => rfl) (den_ifexp (den_cmpT (DenE.toA (den_item (den_nameA 0 rfl rfl rfl) (DenE.toA (den_bin (den_nameA 2 rfl rfl rfl) (DenE.toA den_int) (ok_sub W))) rfl)) (DenE.toA den_int) (ok_eq W) rfl) (den_bin (DenE.toA (DenN.toE (den_listN (den_cons (den_nameE 2 rfl rfl rfl) den_nil (fun _ => rfl))))) (den_nameA 1 rfl rfl rfl) (ok_add W)) (den_bin (den_nameA 1 rfl rfl rfl) (DenE.toA (DenN.toE (den_listN (den_cons (den_nameE 2 rfl rfl rfl) den_nil (fun _ => rfl))))) (ok_add W)))) den_done)) (den_seq (den_return (den_nameE 1 rfl rfl rfl)) den_done)))
noncomputable def F__law_order : List LV → Option MV := defF 1 G__law_order 2
theorem c__law_order {W : Wd} {n : Nat} (L : Law W) : CallOK W (n + 1) (.ref L.aOrder) F__law_order :=
  fn_ok (ps := ["places"]) (sl := ["places", "order", "guest"]) L.O L.fOrder (by kernel_rfl) rfl (fun _ _ _ vs h => by obtain ⟨v0, rfl⟩ := one_of h; rfl) (d__law_order L.w0)

end Mine
end
section
open PySem PySem.W PyProof.Rows PySem.Calls
set_option Elab.async false
set_option linter.unusedVariables false
set_option linter.unusedSimpArgs false
set_option maxRecDepth 100000
namespace Mine

noncomputable def F_concatN : List LV → Option (List MV) := defNF 2 (ifM (fun ℓ => ((truthF (callF (cons2 (nameA 0) (cons2 (toAF (litF (.str "__getitem__"))) nilF)) hasF)) ℓ).map (!·)) (fun _ => none) nextF) (bind2 addLF (nameA 0) (nameA 1)) 1
theorem c_concatN {W : Wd} {n : Nat} (L : Law W) : CallOKN W (n + 1) (.ref L.aConcat) F_concatN :=
  fn_okN2 (ps := ["a", "b"]) (sl := ["a", "b", "msg"]) L.O L.fConcat (by kernel_rfl) rfl (fun _ _ _ vs h => by obtain ⟨v0, v1, rfl⟩ := two_of h; rfl) rfl
    (den_if (W := W.w0) (den_notT (den_truth (fun _ _ => rfl) (den_call L.w0.O (by kernel_rfl) rfl L.bHasattr (.inl ⟨_, rfl⟩) (fun _ _ => ⟨_, _, rfl, rfl⟩) (den_consA (den_nameA 0 rfl rfl rfl) (den_consA (DenE.toA den_str) den_nilA (fun _ => rfl)) (fun _ => rfl)) (ok_hasattr W.w0 _)))) den_never den_done)
    (den_binN (W := W.w0) (den_nameA 0 rfl rfl rfl) (den_nameA 1 rfl rfl rfl) (ok_addN W.w0))


noncomputable def G_longest_run_of_spaces : SF :=
  (seqS (unpF 1 2 (attrFF "norm" (nameE 0))) (seqS (retF (callF (cons2 (toAF (bind2 subIF (toAF (toIF (lenFF (nameA 1)))) (toAF (litF (.fint 1))))) (cons2 (nameA 2) nilF)) maxF)) nextF))
theorem d_longest_run_of_spaces {W : Wd} {n : Nat} (L : Law W) : DenS W n (methAt 2).scope ["self", "count", "trailing"] (methAt 2).body G_longest_run_of_spaces := 
  (den_seq (den_unpack2 1 2 rfl rfl (by kernel_rfl) (by kernel_rfl) (fun _ _ => rfl) (fun _ _ => rfl) (den_wsattr L.KC (fun _ => rfl) (den_nameE 0 rfl rfl rfl))) (den_seq (den_return (den_call L.O (by kernel_rfl) rfl L.bMax (.inl ⟨_, rfl⟩) (fun _ _ => ⟨_, _, rfl, rfl⟩) (den_consA (DenE.toA (den_bin (DenE.toA (DenF.toE (den_lenF L.O (by kernel_rfl) L.bLen (fun _ _ => ⟨_, _, rfl, rfl⟩) (fun _ => rfl) (den_nameA 1 rfl rfl rfl)))) (DenE.toA den_int) (ok_sub W))) (den_consA (den_nameA 2 rfl rfl rfl) den_nilA (fun _ => rfl)) (fun _ => rfl)) (ok_max W _))) den_done))
noncomputable def F_longest_run_of_spaces : List LV → Option MV := defF 1 G_longest_run_of_spaces 2
theorem c_longest_run_of_spaces {W : Wd} {n : Nat} (L : Law W) : CallOK W (n + 1) (.ref L.aLongest) F_longest_run_of_spaces :=
  fn_okQ (ps := ["self"]) (sl := ["self", "count", "trailing"]) L.O L.fLongest (by kernel_rfl) rfl (fun _ _ _ vs h => by obtain ⟨v0, rfl⟩ := one_of h; rfl) (d_longest_run_of_spaces L.w0)

noncomputable def B_indent_level_1 : SF :=
  (seqS (setV 4 (bind2 addF (nameA 4) (toAF (bind2 mulAll (toAF (bind2 divIF (nameA 5) (nameA 1))) (toAF (bind2 itemS (nameA 2) (nameA 5))))))) nextF)
noncomputable def G_indent_level : SF :=
  (seqS (unpF 2 3 (attrFF "norm" (nameE 0))) (seqS (setV 4 (litF (.fint 0))) (seqS (forF 5 (rangF (cons2 (nameA 1) (cons2 (toAF (toIF (lenFF (nameA 2)))) nilF))) B_indent_level_1) (seqS (retF (bind2 addF (nameA 3) (toAF (bind2 mulAll (nameA 1) (toAF (bind2 addF (nameA 4) (toAF (attrFF "nt" (nameE 0))))))))) nextF))))
theorem d_indent_level {W : Wd} {n : Nat} (L : Law W) : DenS W n (methAt 3).scope ["self", "tabsize", "count", "trailing", "il", "i"] (methAt 3).body G_indent_level := 
  (den_seq (den_unpack2 2 3 rfl rfl (by kernel_rfl) (by kernel_rfl) (fun _ _ => rfl) (fun _ _ => rfl) (den_wsattr L.KC (fun _ => rfl) (den_nameE 0 rfl rfl rfl))) (den_seq (den_assign 4 rfl (by kernel_rfl) (fun _ _ => rfl) den_int) (den_seq (den_for (g := B_indent_level_1) 5 rfl (by kernel_rfl) (fun _ _ => rfl) (den_range L.O (by kernel_rfl) L.bRange (fun _ _ => ⟨_, _, rfl, rfl⟩) (den_consA (den_nameA 1 rfl rfl rfl) (den_consA (DenE.toA (DenF.toE (den_lenF L.O (by kernel_rfl) L.bLen (fun _ _ => ⟨_, _, rfl, rfl⟩) (fun _ => rfl) (den_nameA 2 rfl rfl rfl)))) den_nilA (fun _ => rfl)) (fun _ => rfl))) (den_seq (den_assign 4 rfl (by kernel_rfl) (fun _ _ => rfl) (den_bin (den_nameA 4 rfl rfl rfl) (DenE.toA (den_bin (DenE.toA (den_bin (den_nameA 5 rfl rfl rfl) (den_nameA 1 rfl rfl rfl) (ok_div W))) (DenE.toA (den_item (den_nameA 2 rfl rfl rfl) (den_nameA 5 rfl rfl rfl) rfl)) (ok_mulAll W))) (ok_add W))) den_done)) (den_seq (den_return (den_bin (den_nameA 3 rfl rfl rfl) (DenE.toA (den_bin (den_nameA 1 rfl rfl rfl) (DenE.toA (den_bin (den_nameA 4 rfl rfl rfl) (DenE.toA (den_wsattr L.KC (fun _ => rfl) (den_nameE 0 rfl rfl rfl))) (ok_add W))) (ok_mulAll W))) (ok_add W))) den_done))))
noncomputable def F_indent_level : List LV → Option MV := defF 2 G_indent_level 4
theorem c_indent_level {W : Wd} {n : Nat} (L : Law W) : CallOK W (n + 1) (.ref L.aIndent) F_indent_level :=
  fn_okQ (ps := ["self", "tabsize"]) (sl := ["self", "tabsize", "count", "trailing", "il", "i"]) L.O L.fIndent (by kernel_rfl) rfl (fun _ _ _ vs h => by obtain ⟨v0, v1, rfl⟩ := two_of h; rfl) (d_indent_level L.w0)

noncomputable def G_equal : SF :=
  (seqS (retF (toBF (bind2 eqF (toAF (attrFF "norm" (nameE 0))) (toAF (attrFF "norm" (nameE 1)))))) nextF)
theorem d_equal {W : Wd} {n : Nat} (L : Law W) : DenS W n (methAt 4).scope ["self", "other"] (methAt 4).body G_equal := 
  (den_seq (den_return (den_cmp (DenE.toA (den_wsattr L.KC (fun _ => rfl) (den_nameE 0 rfl rfl rfl))) (DenE.toA (den_wsattr L.KC (fun _ => rfl) (den_nameE 1 rfl rfl rfl))) (ok_eq W) rfl)) den_done)
noncomputable def F_equal : List LV → Option MV := defF 2 G_equal 0
theorem c_equal {W : Wd} {n : Nat} (L : Law W) : CallOK W (n + 1) (.ref L.aEqual) F_equal :=
  fn_okQ (ps := ["self", "other"]) (sl := ["self", "other"]) L.O L.fEqual (by kernel_rfl) rfl (fun _ _ _ vs h => by obtain ⟨v0, v1, rfl⟩ := two_of h; rfl) (d_equal L.w0)

noncomputable def B_not_equal_witness_1 : SF :=
  (seqS (ifM (bind2 neF (toAF (methF (nameE 0) (cons2 (nameA 4) nilF) F_indent_level)) (toAF (methF (nameE 1) (cons2 (nameA 4) nilF) F_indent_level))) (seqS (appF 3 (tupF (cons2 (nameE 4) (cons2 (methF (nameE 0) (cons2 (nameA 4) nilF) F_indent_level) (cons2 (methF (nameE 1) (cons2 (nameA 4) nilF) F_indent_level) nilF))))) nextF) nextF) nextF)
noncomputable def G_not_equal_witness : SF :=
  (seqS (setV 2 (bind2 addF (toAF (callF (cons2 (toAF (methF (nameE 0) nilF F_longest_run_of_spaces)) (cons2 (toAF (methF (nameE 1) nilF F_longest_run_of_spaces)) nilF)) maxF)) (toAF (litF (.fint 1))))) (seqS (setO 3 (fitF nilF)) (seqS (forF 4 (rangF (cons2 (toAF (litF (.fint 1))) (cons2 (toAF (bind2 addF (nameA 2) (toAF (litF (.fint 1))))) nilF))) B_not_equal_witness_1) (freezeF 3 (seqS (retF (nameE 3)) nextF)))))
theorem d_not_equal_witness {W : Wd} {n : Nat} (L : Law W) : DenS W (n + 1) (methAt 5).scope ["self", "other", "n", "a", "ts"] (methAt 5).body G_not_equal_witness := 
  (den_seq (den_assign 2 rfl (by kernel_rfl) (fun _ _ => rfl) (den_bin (DenE.toA (den_call L.O (by kernel_rfl) rfl L.bMax (.inl ⟨_, rfl⟩) (fun _ _ => ⟨_, _, rfl, rfl⟩) (den_consA (DenE.toA (den_meth0 L.O L.KC L.mLongest (fun _ => ⟨_, rfl⟩) (den_nameE 0 rfl rfl rfl) (c_longest_run_of_spaces L))) (den_consA (DenE.toA (den_meth0 L.O L.KC L.mLongest (fun _ => ⟨_, rfl⟩) (den_nameE 1 rfl rfl rfl) (c_longest_run_of_spaces L))) den_nilA (fun _ => rfl)) (fun _ => rfl)) (ok_max W _))) (DenE.toA den_int) (ok_add W))) (den_seq (den_assignO 3 rfl (by kernel_rfl) (fun _ _ => rfl) (den_listN den_nil)) (den_seq (den_for (g := B_not_equal_witness_1) 4 rfl (by kernel_rfl) (fun _ _ => rfl) (den_range L.O (by kernel_rfl) L.bRange (fun _ _ => ⟨_, _, rfl, rfl⟩) (den_consA (DenE.toA den_int) (den_consA (DenE.toA (den_bin (den_nameA 2 rfl rfl rfl) (DenE.toA den_int) (ok_add W))) den_nilA (fun _ => rfl)) (fun _ => rfl))) (den_seq (den_if (den_cmpT (DenE.toA (den_meth L.O L.KC L.mIndent (fun _ => ⟨_, rfl⟩) (fun _ _ => ⟨_, _, rfl, rfl⟩) (den_nameE 0 rfl rfl rfl) (den_consA (den_nameA 4 rfl rfl rfl) den_nilA (fun _ => rfl)) (c_indent_level L))) (DenE.toA (den_meth L.O L.KC L.mIndent (fun _ => ⟨_, rfl⟩) (fun _ _ => ⟨_, _, rfl, rfl⟩) (den_nameE 1 rfl rfl rfl) (den_consA (den_nameA 4 rfl rfl rfl) den_nilA (fun _ => rfl)) (c_indent_level L))) (ok_ne W) rfl) (den_seq (den_append 3 rfl rfl rfl (fun _ => rfl) rfl (den_tuple (den_cons (den_nameE 4 rfl rfl rfl) (den_cons (den_meth L.O L.KC L.mIndent (fun _ => ⟨_, rfl⟩) (fun _ _ => ⟨_, _, rfl, rfl⟩) (den_nameE 0 rfl rfl rfl) (den_consA (den_nameA 4 rfl rfl rfl) den_nilA (fun _ => rfl)) (c_indent_level L)) (den_cons (den_meth L.O L.KC L.mIndent (fun _ => ⟨_, rfl⟩) (fun _ _ => ⟨_, _, rfl, rfl⟩) (den_nameE 1 rfl rfl rfl) (den_consA (den_nameA 4 rfl rfl rfl) den_nilA (fun _ => rfl)) (c_indent_level L)) den_nil (fun _ => rfl)) (fun _ => rfl)) (fun _ => rfl)))) den_done) den_done) den_done)) (den_freeze 3 (den_seq (den_return (den_nameE 3 rfl rfl rfl)) den_done)))))
noncomputable def F_not_equal_witness : List LV → Option MV := defF 2 G_not_equal_witness 3
theorem c_not_equal_witness {W : Wd} {n : Nat} (L : Law W) : CallOK W (n + 2) (.ref L.aWitness) F_not_equal_witness :=
  fn_okQ (ps := ["self", "other"]) (sl := ["self", "other", "n", "a", "ts"]) L.O L.fWitness (by kernel_rfl) rfl (fun _ _ _ vs h => by obtain ⟨v0, v1, rfl⟩ := two_of h; rfl) (d_not_equal_witness L.w0)

noncomputable def B__law_mail_1 : SF :=
  (seqS (setV 5 (callF (cons2 (toAF (litF (.str "."))) (cons2 (toAF (bind2 itemS (nameA 2) (toAF (bind2 subIF (nameA 4) (toAF (litF (.fint 1))))))) nilF)) F_concat)) (seqS (ifM (bind2 eqF (toAF (bind2 itemS (nameA 0) (toAF (bind2 subIF (nameA 4) (toAF (litF (.fint 1))))))) (toAF (litF (.fint 1)))) (seqS (setV 3 (callF (cons2 (nameA 3) nilF) F_quotedata)) (seqS (setV 5 (callF (cons2 (toAF (callF (cons2 (toAF (litF (.str "."))) (cons2 (nameA 4) nilF)) F_mul)) (cons2 (nameA 5) nilF)) F_concat)) nextF)) nextF) (seqS (setV 3 (ifM (bind2 eqF (toAF (bind2 itemS (nameA 1) (toAF (bind2 subIF (nameA 4) (toAF (litF (.fint 1))))))) (toAF (litF (.fint 1)))) (callF (cons2 (nameA 5) (cons2 (nameA 3) nilF)) F_concat) (callF (cons2 (nameA 3) (cons2 (nameA 5) nilF)) F_concat))) nextF)))
noncomputable def G__law_mail : SF :=
  (seqS (setV 3 (litF (.str ".\n"))) (seqS (forF 4 (rangF (cons2 (toAF (litF (.fint 1))) (cons2 (toAF (bind2 addF (toAF (toIF (lenFF (nameA 0)))) (toAF (litF (.fint 1))))) nilF))) B__law_mail_1) (seqS (retF (nameE 3)) nextF)))
theorem d__law_mail {W : Wd} {n : Nat} (L : Law W) : DenS W (n + 1) (recAt 22).scope ["figures", "places", "ends", "mail", "guest", "row"] (recAt 22).body G__law_mail := 
  (den_seq (den_assign 3 rfl (by kernel_rfl) (fun _ _ => rfl) den_str) (den_seq (den_for (g := B__law_mail_1) 4 rfl (by kernel_rfl) (fun _ _ => rfl) (den_range L.O (by kernel_rfl) L.bRange (fun _ _ => ⟨_, _, rfl, rfl⟩) (den_consA (DenE.toA den_int) (den_consA (DenE.toA (den_bin (DenE.toA (DenF.toE (den_lenF L.O (by kernel_rfl) L.bLen (fun _ _ => ⟨_, _, rfl, rfl⟩) (fun _ => rfl) (den_nameA 0 rfl rfl rfl)))) (DenE.toA den_int) (ok_add W))) den_nilA (fun _ => rfl)) (fun _ => rfl))) (den_seq (den_assign 5 rfl (by kernel_rfl) (fun _ _ => rfl) (den_call L.O (by kernel_rfl) rfl L.nConcat L.fConcat.form (fun _ _ => ⟨_, _, rfl, rfl⟩) (den_consA (DenE.toA den_str) (den_consA (DenE.toA (den_item (den_nameA 2 rfl rfl rfl) (DenE.toA (den_bin (den_nameA 4 rfl rfl rfl) (DenE.toA den_int) (ok_sub W))) rfl)) den_nilA (fun _ => rfl)) (fun _ => rfl)) (c_concat L))) (den_seq (den_if (den_cmpT (DenE.toA (den_item (den_nameA 0 rfl rfl rfl) (DenE.toA (den_bin (den_nameA 4 rfl rfl rfl) (DenE.toA den_int) (ok_sub W))) rfl)) (DenE.toA den_int) (ok_eq W) rfl) (den_seq (den_assign 3 rfl (by kernel_rfl) (fun _ _ => rfl) (den_call L.O (by kernel_rfl) rfl L.nQuote L.fQuote.form (fun _ _ => ⟨_, _, rfl, rfl⟩) (den_consA (den_nameA 3 rfl rfl rfl) den_nilA (fun _ => rfl)) (c_quotedata L))) (den_seq (den_assign 5 rfl (by kernel_rfl) (fun _ _ => rfl) (den_call L.O (by kernel_rfl) rfl L.nConcat L.fConcat.form (fun _ _ => ⟨_, _, rfl, rfl⟩) (den_consA (DenE.toA (den_call L.O (by kernel_rfl) rfl L.nMul L.fMul.form (fun _ _ => ⟨_, _, rfl, rfl⟩) (den_consA (DenE.toA den_str) (den_consA (den_nameA 4 rfl rfl rfl) den_nilA (fun _ => rfl)) (fun _ => rfl)) (c_mul L))) (den_consA (den_nameA 5 rfl rfl rfl) den_nilA (fun _ => rfl)) (fun _ => rfl)) (c_concat L))) den_done)) den_done) (den_seq (den_assign 3 rfl (by kernel_rfl) (fun _ _ => rfl) (den_ifexp (den_cmpT (DenE.toA (den_item (den_nameA 1 rfl rfl rfl) (DenE.toA (den_bin (den_nameA 4 rfl rfl rfl) (DenE.toA den_int) (ok_sub W))) rfl)) (DenE.toA den_int) (ok_eq W) rfl) (den_call L.O (by kernel_rfl) rfl L.nConcat L.fConcat.form (fun _ _ => ⟨_, _, rfl, rfl⟩) (den_consA (den_nameA 5 rfl rfl rfl) (den_consA (den_nameA 3 rfl rfl rfl) den_nilA (fun _ => rfl)) (fun _ => rfl)) (c_concat L)) (den_call L.O (by kernel_rfl) rfl L.nConcat L.fConcat.form (fun _ _ => ⟨_, _, rfl, rfl⟩) (den_consA (den_nameA 3 rfl rfl rfl) (den_consA (den_nameA 5 rfl rfl rfl) den_nilA (fun _ => rfl)) (fun _ => rfl)) (c_concat L)))) den_done)))) (den_seq (den_return (den_nameE 3 rfl rfl rfl)) den_done)))
noncomputable def F__law_mail : List LV → Option MV := defF 3 G__law_mail 3
theorem c__law_mail {W : Wd} {n : Nat} (L : Law W) : CallOK W (n + 2) (.ref L.aMail) F__law_mail :=
  fn_ok (ps := ["figures", "places", "ends"]) (sl := ["figures", "places", "ends", "mail", "guest", "row"]) L.O L.fMail (by kernel_rfl) rfl (fun _ _ _ vs h => by obtain ⟨v0, v1, v2, rfl⟩ := three_of h; rfl) (d__law_mail L.w0)

noncomputable def B__law_ahead_1 : SF :=
  (seqS (setO 4 (compV (iterF (toAF (toLF (sliceF (nameA 0) part0F (partF (toAF (bind2 addF (nameA 3) (toAF (litF (.fint 1)))))) part0F)))) trueTF (callF (cons2 (toAF (toLF (sliceF (nameA 0) part0F (partF (toAF (bind2 addF (nameA 1) (toAF (litF (.fint 1)))))) part0F))) nilF) sumF) [3])) (freezeF 4 (seqS (appF 2 (toIF (lenFF (toAF (toLF (compV (iterF (nameA 4)) (bind2 ltF (nameA 0) (toAF (bind2 itemS (nameA 2) (nameA 1)))) (nameE 0) [3, 4])))))) nextF)))
noncomputable def G__law_ahead : SF :=
  (seqS (setO 2 (fitF nilF)) (seqS (forF 3 (rangF (cons2 (toAF (toIF (lenFF (nameA 1)))) (cons2 (toAF (litF (.fint 0))) (cons2 (toAF (negF (litF (.fint 1)))) nilF)))) B__law_ahead_1) (freezeF 2 (seqS (retF (nameE 2)) nextF))))
theorem d__law_ahead {W : Wd} {n : Nat} (L : Law W) : DenS W n (recAt 26).scope ["hands", "figures", "told", "guest", "there"] (recAt 26).body G__law_ahead := 
  (den_seq (den_assignO 2 rfl (by kernel_rfl) (fun _ _ => rfl) (den_listN den_nil)) (den_seq (den_for (g := B__law_ahead_1) 3 rfl (by kernel_rfl) (fun _ _ => rfl) (den_range L.O (by kernel_rfl) L.bRange (fun _ _ => ⟨_, _, rfl, rfl⟩) (den_consA (DenE.toA (DenF.toE (den_lenF L.O (by kernel_rfl) L.bLen (fun _ _ => ⟨_, _, rfl, rfl⟩) (fun _ => rfl) (den_nameA 1 rfl rfl rfl)))) (den_consA (DenE.toA den_int) (den_consA (DenE.toA (den_neg den_int)) den_nilA (fun _ => rfl)) (fun _ => rfl)) (fun _ => rfl))) (den_seq (den_assignO 4 rfl (by kernel_rfl) (fun _ h => sw_any h (by kernel_rfl)) (den_comp ["guest"] [3] (fun _ _ => rfl) (by kernel_rfl) (den_iterA (DenE.toA (DenN.toE (den_slice (den_nameA 0 rfl rfl rfl) den_part0 (den_part (DenE.toA (den_bin (den_nameA 3 rfl rfl rfl) (DenE.toA den_int) (ok_add W)))) den_part0)))) den_noTest (den_call L.O (by kernel_rfl) rfl L.bSum (.inl ⟨_, rfl⟩) (fun _ _ => ⟨_, _, rfl, rfl⟩) (den_consA (DenE.toA (DenN.toE (den_slice (den_nameA 0 rfl rfl rfl) den_part0 (den_part (DenE.toA (den_bin (den_nameA 1 rfl rfl rfl) (DenE.toA den_int) (ok_add W)))) den_part0))) den_nilA (fun _ => rfl)) (ok_sum W _)))) (den_freeze 4 (den_seq (den_append 2 rfl rfl rfl (fun _ => rfl) rfl (DenF.toE (den_lenF L.O (by kernel_rfl) L.bLen (fun _ _ => ⟨_, _, rfl, rfl⟩) (fun _ => rfl) (DenE.toA (DenN.toE (den_comp ["guest", "there"] [3, 4] (fun _ _ => rfl) (by kernel_rfl) (den_iterA (den_nameA 4 rfl rfl rfl)) (den_oneTest (den_cmpT (den_nameA 0 rfl rfl rfl) (DenE.toA (den_item (den_nameA 2 rfl rfl rfl) (den_nameA 1 rfl rfl rfl) rfl)) (ok_lt W) rfl)) (den_nameE 0 rfl rfl rfl))))))) den_done)))) (den_freeze 2 (den_seq (den_return (den_nameE 2 rfl rfl rfl)) den_done))))
noncomputable def F__law_ahead : List LV → Option MV := defF 2 G__law_ahead 3
theorem c__law_ahead {W : Wd} {n : Nat} (L : Law W) : CallOK W (n + 1) (.ref L.aAhead) F__law_ahead :=
  fn_ok (ps := ["hands", "figures"]) (sl := ["hands", "figures", "told", "guest", "there"]) L.O L.fAhead (by kernel_rfl) rfl (fun _ _ _ vs h => by obtain ⟨v0, v1, rfl⟩ := two_of h; rfl) (d__law_ahead L.w0)

noncomputable def B__law_given_back_1 : SF :=
  (seqS (setV 4 (callF (cons2 (nameA 4) (cons2 (toAF (callF (cons2 (toAF (bind2 itemS (toAF (bind2 itemS (nameA 0) (nameA 3))) (nameA 5))) (cons2 (toAF (bind2 itemS (nameA 1) (nameA 5))) nilF)) F_mul)) nilF)) F_sub)) nextF)
noncomputable def B__law_given_back_2 : SF :=
  (seqS (setV 4 (callF (cons2 (toAF (callF (cons2 (toAF (bind2 itemS (nameA 0) (nameA 3))) nilF) sumF)) (cons2 (toAF (bind2 itemS (nameA 1) (nameA 3))) nilF)) F_mul)) (seqS (forF 5 (rangF (cons2 (toAF (toIF (lenFF (nameA 1)))) nilF)) B__law_given_back_1) (seqS (appF 2 (nameE 4)) nextF)))
noncomputable def G__law_given_back : SF :=
  (seqS (setO 2 (fitF nilF)) (seqS (forF 3 (rangF (cons2 (toAF (toIF (lenFF (nameA 1)))) nilF)) B__law_given_back_2) (freezeF 2 (seqS (retF (nameE 2)) nextF))))
theorem d__law_given_back {W : Wd} {n : Nat} (L : Law W) : DenS W (n + 1) (recAt 27).scope ["hands", "held", "told", "i", "share", "k"] (recAt 27).body G__law_given_back := 
  (den_seq (den_assignO 2 rfl (by kernel_rfl) (fun _ _ => rfl) (den_listN den_nil)) (den_seq (den_for (g := B__law_given_back_2) 3 rfl (by kernel_rfl) (fun _ _ => rfl) (den_range L.O (by kernel_rfl) L.bRange (fun _ _ => ⟨_, _, rfl, rfl⟩) (den_consA (DenE.toA (DenF.toE (den_lenF L.O (by kernel_rfl) L.bLen (fun _ _ => ⟨_, _, rfl, rfl⟩) (fun _ => rfl) (den_nameA 1 rfl rfl rfl)))) den_nilA (fun _ => rfl))) (den_seq (den_assign 4 rfl (by kernel_rfl) (fun _ _ => rfl) (den_call L.O (by kernel_rfl) rfl L.nMul L.fMul.form (fun _ _ => ⟨_, _, rfl, rfl⟩) (den_consA (DenE.toA (den_call L.O (by kernel_rfl) rfl L.bSum (.inl ⟨_, rfl⟩) (fun _ _ => ⟨_, _, rfl, rfl⟩) (den_consA (DenE.toA (den_item (den_nameA 0 rfl rfl rfl) (den_nameA 3 rfl rfl rfl) rfl)) den_nilA (fun _ => rfl)) (ok_sum W _))) (den_consA (DenE.toA (den_item (den_nameA 1 rfl rfl rfl) (den_nameA 3 rfl rfl rfl) rfl)) den_nilA (fun _ => rfl)) (fun _ => rfl)) (c_mul L))) (den_seq (den_for (g := B__law_given_back_1) 5 rfl (by kernel_rfl) (fun _ _ => rfl) (den_range L.O (by kernel_rfl) L.bRange (fun _ _ => ⟨_, _, rfl, rfl⟩) (den_consA (DenE.toA (DenF.toE (den_lenF L.O (by kernel_rfl) L.bLen (fun _ _ => ⟨_, _, rfl, rfl⟩) (fun _ => rfl) (den_nameA 1 rfl rfl rfl)))) den_nilA (fun _ => rfl))) (den_seq (den_assign 4 rfl (by kernel_rfl) (fun _ _ => rfl) (den_call L.O (by kernel_rfl) rfl L.nSub L.fSub.form (fun _ _ => ⟨_, _, rfl, rfl⟩) (den_consA (den_nameA 4 rfl rfl rfl) (den_consA (DenE.toA (den_call L.O (by kernel_rfl) rfl L.nMul L.fMul.form (fun _ _ => ⟨_, _, rfl, rfl⟩) (den_consA (DenE.toA (den_item (DenE.toA (den_item (den_nameA 0 rfl rfl rfl) (den_nameA 3 rfl rfl rfl) rfl)) (den_nameA 5 rfl rfl rfl) rfl)) (den_consA (DenE.toA (den_item (den_nameA 1 rfl rfl rfl) (den_nameA 5 rfl rfl rfl) rfl)) den_nilA (fun _ => rfl)) (fun _ => rfl)) (c_mul L))) den_nilA (fun _ => rfl)) (fun _ => rfl)) (c_sub L))) den_done)) (den_seq (den_append 2 rfl rfl rfl (fun _ => rfl) rfl (den_nameE 4 rfl rfl rfl)) den_done)))) (den_freeze 2 (den_seq (den_return (den_nameE 2 rfl rfl rfl)) den_done))))
noncomputable def F__law_given_back : List LV → Option MV := defF 2 G__law_given_back 4
theorem c__law_given_back {W : Wd} {n : Nat} (L : Law W) : CallOK W (n + 2) (.ref L.aGiven) F__law_given_back :=
  fn_ok (ps := ["hands", "held"]) (sl := ["hands", "held", "told", "i", "share", "k"]) L.O L.fGiven (by kernel_rfl) rfl (fun _ _ _ vs h => by obtain ⟨v0, v1, rfl⟩ := two_of h; rfl) (d__law_given_back L.w0)

end Mine
end
section
open PySem PySem.W PyProof.Rows PySem.Calls
set_option Elab.async false
set_option linter.unusedVariables false
set_option linter.unusedSimpArgs false
set_option maxRecDepth 100000
namespace Mine

noncomputable def B__law_read_back_1 : SF :=
  (seqS (setO 1 (callF (cons2 (nameA 1) (cons2 (toAF (toLF (imulF (fitF (cons2 (nameE 2) nilF)) (bind2 itemS (nameA 0) (nameA 2))))) nilF)) F_concatN)) nextF)
noncomputable def B__law_read_back_2 : SF :=
  (seqS (foundF 1 5) (seqS (ifM (bind2 isNotF (toAF (callF (cons2 (nameA 1) (cons2 (toAF (toIF (lenFF (nameA 1)))) nilF)) F_contains)) (toAF (toBF (bind2 neF (nameA 5) (toAF (toLF (fitF nilF))))))) (fun _ => none) nextF) (seqS (appF 3 (toIF (lenFF (nameA 5)))) (seqS (ifM (bind2 eqF (nameA 5) (toAF (toLF (fitF nilF)))) (seqS (setO 5 (fitF (cons2 (indexFF (nameA 1) (litIF 1)) nilF))) nextF) nextF) (seqS (appF 4 (bind2 itemS (nameA 5) (toAF (litF (.fint 0))))) (seqS (delF 1 (bind2 itemS (nameA 5) (toAF (litF (.fint 0))))) (seqS (ifM (bind2 eqF (toAF (bind2 itemS (nameA 3) (toAF (negF (litF (.fint 1)))))) (toAF (litF (.fint 1)))) (seqS (setO 1 (compV (iterF (nameA 1)) trueTF (callF (cons2 (nameA 0) (cons2 (toAF (litF (.fint 1))) nilF)) F_sub) [])) nextF) nextF) nextF)))))))
noncomputable def G__law_read_back : SF :=
  (seqS (setO 1 (fitF nilF)) (seqS (forF 2 (rangF (cons2 (toAF (toIF (lenFF (nameA 0)))) nilF)) B__law_read_back_1) (seqS (setO 3 (fitF nilF)) (seqS (setO 4 (fitF nilF)) (seqS (whileF (bind2 gtF (toAF (toIF (lenFF (nameA 1)))) (toAF (litF (.fint 1)))) B__law_read_back_2 7) (freezeF 3 (freezeF 1 (freezeF 4 (seqS (retF (tupF (cons2 (toLF (sliceF (nameA 3) part0F part0F (partF (toAF (negF (litF (.fint 1))))))) (cons2 (nameE 4) (cons2 (nameE 1) nilF))))) nextF)))))))))
theorem d__law_read_back {W : Wd} {n : Nat} (L : Law W) (hfull : W.full = true) : DenS W (n + 2) (recAt 25).scope ["counts", "dots", "size", "figures", "taken", "found"] (recAt 25).body G__law_read_back := 
  (den_seq (den_assignO 1 rfl (by kernel_rfl) (fun _ _ => rfl) (den_listN den_nil)) (den_seq (den_for (g := B__law_read_back_1) 2 rfl (by kernel_rfl) (fun _ _ => rfl) (den_range L.O (by kernel_rfl) L.bRange (fun _ _ => ⟨_, _, rfl, rfl⟩) (den_consA (DenE.toA (DenF.toE (den_lenF L.O (by kernel_rfl) L.bLen (fun _ _ => ⟨_, _, rfl, rfl⟩) (fun _ => rfl) (den_nameA 0 rfl rfl rfl)))) den_nilA (fun _ => rfl))) (den_seq (den_assignO 1 rfl (by kernel_rfl) (fun _ _ => rfl) (den_callN L.O (by kernel_rfl) rfl L.nConcat L.fConcat.form (fun _ _ => ⟨_, _, rfl, rfl⟩) (den_consA (den_nameA 1 rfl rfl rfl) (den_consA (DenE.toA (DenN.toE (den_imul L.O L.fImul L.nImul (by kernel_rfl) bind_imul rfl (by kernel_rfl) (by kernel_rfl) (by kernel_rfl) (fun _ _ => ⟨_, _, rfl, rfl⟩) (fun _ => rfl) (den_listN (den_cons (den_nameE 2 rfl rfl rfl) den_nil (fun _ => rfl))) (den_item (den_nameA 0 rfl rfl rfl) (den_nameA 2 rfl rfl rfl) rfl)))) den_nilA (fun _ => rfl)) (fun _ => rfl)) (c_concatN L))) den_done)) (den_seq (den_assignO 3 rfl (by kernel_rfl) (fun _ _ => rfl) (den_listN den_nil)) (den_seq (den_assignO 4 rfl (by kernel_rfl) (fun _ _ => rfl) (den_listN den_nil)) (den_seq (den_while (g := B__law_read_back_2) 7 (den_cmpT (DenE.toA (DenF.toE (den_lenF L.O (by kernel_rfl) L.bLen (fun _ _ => ⟨_, _, rfl, rfl⟩) (fun _ => rfl) (den_nameA 1 rfl rfl rfl)))) (DenE.toA den_int) (ok_gt W) rfl) (den_seq (den_found L.O L.found hfull L.bLen 1 5 rfl rfl (by kernel_rfl) rfl rfl (by kernel_rfl) (by kernel_rfl) (fun _ _ => ⟨_, _, rfl, rfl⟩) (fun _ => rfl) (fun _ _ => ⟨_, _, rfl, rfl⟩) (fun _ => rfl) (fun _ _ => rfl)) (den_seq (den_if (den_cmpT (DenE.toA (den_call L.O (by kernel_rfl) rfl L.nContains L.fContains.form (fun _ _ => ⟨_, _, rfl, rfl⟩) (den_consA (den_nameA 1 rfl rfl rfl) (den_consA (DenE.toA (DenF.toE (den_lenF L.O (by kernel_rfl) L.bLen (fun _ _ => ⟨_, _, rfl, rfl⟩) (fun _ => rfl) (den_nameA 1 rfl rfl rfl)))) den_nilA (fun _ => rfl)) (fun _ => rfl)) (c_contains L))) (DenE.toA (den_cmp (den_nameA 5 rfl rfl rfl) (DenE.toA (DenN.toE (den_listN den_nil))) (ok_ne W) rfl)) (ok_isNot W) rfl) den_never den_done) (den_seq (den_append 3 rfl rfl rfl (fun _ => rfl) rfl (DenF.toE (den_lenF L.O (by kernel_rfl) L.bLen (fun _ _ => ⟨_, _, rfl, rfl⟩) (fun _ => rfl) (den_nameA 5 rfl rfl rfl)))) (den_seq (den_if (den_cmpT (den_nameA 5 rfl rfl rfl) (DenE.toA (DenN.toE (den_listN den_nil))) (ok_eq W) rfl) (den_seq (den_assignO 5 rfl (by kernel_rfl) (fun _ _ => rfl) (den_listN (den_cons (den_indexOf L.O L.found (by kernel_rfl) (fun _ _ => ⟨_, _, rfl, rfl⟩) (fun _ => rfl) (den_nameA 1 rfl rfl rfl) den_intF) den_nil (fun _ => rfl)))) den_done) den_done) (den_seq (den_append 4 rfl rfl rfl (fun _ => rfl) rfl (den_item (den_nameA 5 rfl rfl rfl) (DenE.toA den_int) rfl)) (den_seq (den_delitem L.O L.fDelitem L.nDelitem (by kernel_rfl) bind_delitem rfl (by kernel_rfl) (by kernel_rfl) 1 rfl rfl rfl (by kernel_rfl) (fun _ _ => ⟨_, _, rfl, rfl⟩) (fun _ => rfl) (den_item (den_nameA 5 rfl rfl rfl) (DenE.toA den_int) rfl)) (den_seq (den_if (den_cmpT (DenE.toA (den_item (den_nameA 3 rfl rfl rfl) (DenE.toA (den_neg den_int)) rfl)) (DenE.toA den_int) (ok_eq W) rfl) (den_seq (den_assignC 1 [] [] rfl (by kernel_rfl) (fun _ h => sw_any h (by kernel_rfl)) (fun _ _ => rfl) (by kernel_rfl) (den_iterA (den_nameA 1 rfl rfl rfl)) den_noTest (den_call L.O (by kernel_rfl) rfl L.nSub L.fSub.form (fun _ _ => ⟨_, _, rfl, rfl⟩) (den_consA (den_nameA 0 rfl rfl rfl) (den_consA (DenE.toA den_int) den_nilA (fun _ => rfl)) (fun _ => rfl)) (c_sub L))) den_done) den_done) den_done)))))))) (den_freeze 3 (den_freeze 1 (den_freeze 4 (den_seq (den_return (den_tuple (den_cons (DenN.toE (den_slice (den_nameA 3 rfl rfl rfl) den_part0 den_part0 (den_part (DenE.toA (den_neg den_int))))) (den_cons (den_nameE 4 rfl rfl rfl) (den_cons (den_nameE 1 rfl rfl rfl) den_nil (fun _ => rfl)) (fun _ => rfl)) (fun _ => rfl)))) den_done)))))))))

end Mine
end
section
open PySem PySem.W PyProof.Rows PySem.Calls
set_option Elab.async false
set_option linter.unusedVariables false
set_option linter.unusedSimpArgs false
namespace Mine
section
variable {W : Wd} {n : Nat} {C : Scope} {sl : List Str}
theorem ok_le (W : Wd) : CmpOK W .LtE (intCmp fun a b => decide (a ≤ b)) := by
  intro A P s x y va vb b E Q hh hu rx ry e q
  obtain ⟨i, j, hi, hj, rfl⟩ := intCmp_some e
  obtain ⟨t, rfl⟩ := rx.num hi
  obtain ⟨u, rfl⟩ := ry.num hj
  exact le_int q
noncomputable abbrev leF : LV → LV → Option Bool := intCmp fun a b => decide (a ≤ b)
noncomputable def tupleF : List LV → Option MV := fun lvs => match lvs with
  | [.pla l] => if szOK l then some (.tup l) else none
  | _ => none
theorem ok_tuple (W : Wd) (n : Nat) : CallOK W n (.type "tuple") tupleF := by
  intro A P s lvs vs m E Q X pr hm q
  unfold tupleF at hm
  split at hm
  case h_2 => cases hm
  rename_i l
  split at hm
  case isFalse => cases hm
  rename_i hz
  cases hm
  cases pr with
  | cons rx r =>
    cases r
    obtain ⟨a, us, rfl, hL, rs⟩ := rx
    have hsz : us.size = l.length := by rw [← rs.length, Array.length_toList]
    refine call_tuple_list hL.isList (fun h' g => ?_) (by rw [hsz, sizeLine_eq]; have : l.length ≤ 65536 := by simpa [szOK] using hz
                                                          omega)
    have g' : Grow s.heap h' := g
    exact q _ _ s.toks (g'.trans (Grow.push _ _)) (Nat.le_refl _) ⟨_, us, rfl, .inr (none_of_size g'), ⟨_, Heap.get?_push_size _ rfl, rfl, _, rfl⟩, (rs.sub fun a p => PF.sub p).grow (g'.trans (Grow.push _ _)) (Nat.le_refl _)⟩

/-- a text that stands in the class -/
theorem den_clsattr (L : Law W) {np pos : Pos} {name v : Str} (hx : C.names.lookup ("Whitespace" : Str) = some .globalImplicit) (hbase : ∀ env, attributeBase (.Name "Whitespace" np) name env (eval (.Name "Whitespace" np) env) = eval (.Name "Whitespace" np) env)
    (hc : ∃ t, findCls L.K (.ref wsC) L.mcls name = some (.val (.str v t))) : DenE W n C sl (.Attribute (.Name "Whitespace" np) name pos) (fun _ => some (.str v)) := by
  intro A env P ℓ s m E Q X R hm q
  cases hm
  obtain ⟨t, hc⟩ := hc
  rw [arm_eval_Attribute, hbase]
  refine wpAny_bind (load_g L.O X hx (by decide) L.nWs ?_)
  refine wpAny_bind (wpAny_standAt (wpAny_bind (wpAny_holding ?_)))
  refine cls_value (fun b o e => X.base b o (L.KC.inB b o e)) L.reads hc rfl ?_
  exact wpAny_bind (wpAny_letTemporaryGo (wpAny_pure (q _ s.heap (s.toks + 1) (Grow.refl _) (Nat.le_succ _) ⟨t, rfl⟩)))

/-- a pair taken apart, its stores swapped -/
noncomputable def swapF (i j : Nat) (f : MF) : SF := fun ℓ => match f ℓ with
  | some (.tup [a, b]) => some (.next ((ℓ.set j (.val b)).set i (.val a)))
  | _ => none
theorem den_swap2 {x y : Str} {px py tp pos : Pos} {k : Nat} {e : Expr} {f : MF} (i j : Nat) (hi : sl[i]? = some x) (hj : sl[j]? = some y) (hx : isVar C x = true) (hy : isVar C y = true)
    (hsw : ∀ env, env.scope = C → swapsWithSole [.Tuple [.Name x px, .Name y py] k tp] e pos.line env = pure false) (hss : ∀ env, env.scope = C → swappedStores [.Tuple [.Name x px, .Name y py] k tp] e env = pure (some [x, y])) (D : DenE W n C sl e f) :
    DenX W n C sl (.Assign [.Tuple [.Name x px, .Name y py] k tp] e pos) (swapF i j f) := by
  intro A env hE P0 P X μ ℓ s out E Q Y S ht hg q
  unfold swapF at hg
  split at hg
  case h_2 => cases hg
  rename_i a b hm
  cases hg
  refine Assign_Tuple_swapped (names := [x, y]) ?_ (hsw env Y.scope) (hss env Y.scope)
  refine D (S.cx Y ht) S.toL hm fun v h1 tk1 g t r => ?_
  obtain ⟨ad, vs, rfl, pa, htup, rs⟩ := r
  obtain ⟨va, r1, e1, ra, vb, r2, e2, rb, e3⟩ := rs
  have e3' : r2 = [] := e3
  have hvs : vs = #[va, vb] := by
    have : vs.toList = [va, vb] := by rw [e1, e2, e3']
    apply Array.ext'; rw [this]
  subst hvs
  have g' : Grow s.heap h1 := g
  have t' : s.toks ≤ tk1 := t
  have S1 := S.pf g' t'
  have hh : A.handled = none := Y.handled
  have hn : [x, y].length = (#[va, vb] : Array Value).size := rfl
  rw [hn]
  have hT : IsTup h1 ad #[va, vb] := htup
  refine unpackItems_tuple (items := #[va, vb]) (s := { s with heap := h1, toks := tk1 }) hh hT (fun h2 hx2 => ?_)
  have hx2' : Heap.ExtBut h1.objs.size h1 h2 := hx2
  have g2 : Grow h1 h2 := fun b o e => hx2' b o (Nat.ne_of_lt (Heap.lt_size e)) e
  have S2 := S1.step g2 (Nat.le_refl tk1)
  show wpAny _ A (do holding [va] (bindName env y vb); do holding [] (bindName env x va); pure ()) _ _ _
  refine wpAny_bind (wpAny_holding (wpAny_bindName ?_))
  refine SRel.store (s := { s with heap := h2, toks := tk1 }) (lv := .val b) (μ' := μ) S2 (by rw [Y.scope]; exact Y.kind) (isVar_kind hy Y.scope) hj (VR.grow g2 (Nat.le_refl _) rb) trivial (fun _ _ => rfl) (fun l e => by cases e) fun h3 tk3 S3 t3 k3 => ?_
  have t3' : tk1 ≤ tk3 := t3
  have k3' : ∀ b o, ¬ X b → h2.get? b = some o → h3.get? b = some o := k3
  refine wpAny_bind (wpAny_holding (wpAny_bindName ?_))
  have ra3 : VR (PF P s.heap) h3 tk3 a va := VR.mono (fun _ p => p) (fun b o p e => k3' b o (S1.PX b p) (g2 b o e)) t3' ra
  refine SRel.store (s := { s with heap := h3, toks := tk3 }) (lv := .val a) (μ' := μ) S3 (by rw [Y.scope]; exact Y.kind) (isVar_kind hx Y.scope) hi ra3 trivial (fun _ _ => rfl) (fun l e => by cases e) fun h4 tk4 S4 t4 k4 => ?_
  have t4' : tk3 ≤ tk4 := t4
  refine wpAny_pure ?_
  exact q _ X μ h4 tk4 S4 (by omega) (fun b o nb _ e => k4 b o nb (k3' b o nb (g2 b o (g' b o e)))) (fun a x => .inl x)

/-- three names for one value -/
noncomputable def chainF (i j k : Nat) (f : MF) : SF := fun ℓ => match f ℓ with
  | some m => some (.next (((ℓ.set i (.val m)).set j (.val m)).set k (.val m)))
  | none => none
theorem den_chain3 {x y z : Str} {px py pz pos : Pos} {e : Expr} {f : MF} (i j k : Nat) (hi : sl[i]? = some x) (hj : sl[j]? = some y) (hk : sl[k]? = some z) (hx : isVar C x = true) (hy : isVar C y = true) (hz : isVar C z = true)
    (hss : ∀ env, env.scope = C → swappedStores [.Name x px, .Name y py, .Name z pz] e env = pure none) (D : DenE W n C sl e f) :
    DenX W n C sl (.Assign [.Name x px, .Name y py, .Name z pz] e pos) (chainF i j k f) := by
  intro A env hE P0 P X μ ℓ s out E Q Y S ht hg q
  unfold chainF at hg
  split at hg
  case h_2 => cases hg
  rename_i m hm
  cases hg
  refine wpAny_Assign_three (D (S.cx Y ht) S.toL hm fun v h1 tk1 g t r => ?_) rfl (hss env Y.scope)
  have g' : Grow s.heap h1 := g
  have t' : s.toks ≤ tk1 := t
  have S1 := S.pf g' t'
  refine wpAny_assign_Name ?_
  refine SRel.store (s := { s with heap := h1, toks := tk1 }) (lv := .val m) (μ' := μ) S1 (by rw [Y.scope]; exact Y.kind) (isVar_kind hx Y.scope) hi r trivial (fun _ _ => rfl) (fun l e => by cases e) fun h2 tk2 S2 t2 k2 => ?_
  have t2' : tk1 ≤ tk2 := t2
  have k2' : ∀ b o, ¬ X b → h1.get? b = some o → h2.get? b = some o := k2
  refine wpAny_assign_Name ?_
  have r2 : VR (PF P s.heap) h2 tk2 m v := VR.mono (fun _ p => p) (fun b o p e => k2' b o (S1.PX b p) e) t2' r
  refine SRel.store (s := { s with heap := h2, toks := tk2 }) (lv := .val m) (μ' := μ) S2 (by rw [Y.scope]; exact Y.kind) (isVar_kind hy Y.scope) hj r2 trivial (fun _ _ => rfl) (fun l e => by cases e) fun h3 tk3 S3 t3 k3 => ?_
  have t3' : tk2 ≤ tk3 := t3
  have k3' : ∀ b o, ¬ X b → h2.get? b = some o → h3.get? b = some o := k3
  refine wpAny_assign_Name ?_
  have r3 : VR (PF P s.heap) h3 tk3 m v := VR.mono (fun _ p => p) (fun b o p e => k3' b o (S1.PX b p) e) t3' r2
  refine SRel.store (s := { s with heap := h3, toks := tk3 }) (lv := .val m) (μ' := μ) S3 (by rw [Y.scope]; exact Y.kind) (isVar_kind hz Y.scope) hk r3 trivial (fun _ _ => rfl) (fun l e => by cases e) fun h4 tk4 S4 t4 k4 => ?_
  have t4' : tk3 ≤ tk4 := t4
  exact q _ X μ h4 tk4 S4 (by omega) (fun b o nb _ e => k4 b o nb (k3' b o nb (k2' b o nb (g' b o e)))) (fun a x => .inl x)
end

/-! an object hidden: the base of a frame taken anew -/
noncomputable def hideP (h : Heap) (Y : AP) : Heap := hideAll h ((List.range h.objs.size).filter fun a => @decide (Y a) (Classical.propDecidable _))
theorem hideP_get {h : Heap} {Y : AP} {b : Addr} {o : Obj} (e : h.get? b = some o) (n : ¬ Y b) : (hideP h Y).get? b = some o :=
  hideAll_get _ e fun q => n (by simpa using (List.mem_filter.mp q).2)
theorem hideP_of {h : Heap} {Y : AP} {b : Addr} {o : Obj} (e : (hideP h Y).get? b = some o) : h.get? b = some o := of_hideAll _ e
theorem hideP_none {h : Heap} {Y : AP} {b : Addr} (y : Y b) : (hideP h Y).get? b = none := by
  cases e : (hideP h Y).get? b with
  | none => rfl
  | some o =>
    have e1 := hideP_of e
    have hl : b < h.objs.size := Heap.lt_size e1
    have : (hideP h Y).get? b = none := hideAll_none _ (List.mem_filter.mpr ⟨List.mem_range.mpr hl, by simpa using y⟩)
    rw [e] at this; cases this
noncomputable def noAl (ℓ : List LV) : Bool := ℓ.all fun l => match l with | .ali _ => false | .pla _ => false | _ => true
section
variable {W : Wd} {hE : Heap} {P0 P X : AP} {μ : Nat → Addr} {env : Env} {sl : List Str} {ℓ : List LV} {h : Heap} {T : Nat}
theorem SRel.rebase (S : SRel W.w0 hE P0 P X μ env sl ℓ h T) (Y : AP) (hXY : ∀ a, X a → Y a) (hn : noAl ℓ = true) : SRel W.w0 (hideP h Y) P P X μ env sl ℓ h T :=
  { slot := fun i x lv e q => by
      rcases S.slot i x lv e q with u | ⟨v, a, b, c⟩
      · exact .inl u
      · refine .inr ⟨v, a, b, ?_⟩
        have := List.all_eq_true.mp hn lv (List.mem_of_getElem? q)
        cases lv with
        | undef => exact c
        | val => exact c
        | own => exact c
        | ali => cases this
        | pla => cases this
    apart := S.apart
    frm := S.frm
    cel := S.cel
    capart := S.capart
    PX := S.PX
    XE := fun a x => hideP_none (hXY a x)
    PE := fun a p => .inl p
    grow := .of fun b o e => hideP_of e
    PN := fun _ _ f => f
    NE := fun _ f => f.elim
    NB := fun _ f => f.elim
    live := S.live
    nd := S.nd
    len := S.len }
theorem Sx.up {n C A} {hE hE' : Heap} (Y : Sx W.w0 n C A env hE) (g : Grow hE hE') : Sx W.w0 n C A env hE' :=
  { Y with baseE := Y.baseE.trans g, frames := let ⟨o, a, b⟩ := Y.frames; ⟨o, a, funFrames_grow g b⟩, outer := fun q => (nomatch q) }
end
end Mine
end
section
open PySem PySem.W PyProof.Rows PySem.Calls
set_option Elab.async false
set_option linter.unusedVariables false
set_option linter.unusedSimpArgs false
namespace Mine
/-! an object that is being made: its dict changes, all else as in any frame -/
theorem set_raw {prog : Program} {w : World} {A : Around} {E : Value → Shared → Prop} {s : Shared} {K : Frag} {x C dx : Addr} {es : List DictEntry} {n : Nat} {name : Str} {v : Value} {Q : Unit → Shared → Prop} (X : K.In s.heap)
    (hx : s.heap.get? x = some (instObj C dx)) (hD : s.heap.get? dx = some (dictOf es n)) (hs : findIn K (.ref C) "__setattr__" = some (some (.builtin "object.__setattr__"))) (hp : plainOver K C = true) (ht : takerIn K C name = some none) (hh : hasDictIn K C = true)
    (hf : es.any (·.key.isStr name) = false) (hr : es.any (·.refKey) = false) (hz : es.length ≤ 20)
    (h : ∀ h' t, h'.get? dx = some (dictOf (es ++ [⟨PyData.keyHash w.params name, .str name t, v⟩]) (n + 1)) → (∀ b o, b ≠ dx → s.heap.get? b = some o → h'.get? b = some o) → Q () { s with heap := h', toks := s.toks + 2 }) :
    wpAny (model prog w) A (setAttr (.ref x) name v) Q E s := by
  have I : InstAt s.heap x (instObj C dx) C (some (dictOf es n)) := ⟨hx, rfl, rfl, hD⟩
  refine set_plain X I hs (osa_open (s := { s with toks := s.toks + 1 }) X I hp ht fun b => ?_)
  have X' : K.In ({ s with toks := s.toks + 1 } : Shared).heap := X
  obtain ⟨cd, hc, hd'⟩ := any_some hh
  refine wpAny_bind (wpAny_pure (wpAny_bind (wpAny_bind (wpAny_loadPart hx (wpAny_bind ((looks_clsIn X' hc).here (s := { s with toks := s.toks + 1 }) ?_))))))
  rw [hd']
  refine wpAny_pure (a := some dx) (wpAny_bind (wpAny_pure (wpAny_bind ?_)))
  unfold nsSet
  refine wpAny_bind (wpAny_bind (wpAny_askSetting (wpAny_pure (wpAny_bind (wpAny_mkText (wpAny_bind (wpAny_loadPart hD ?_)))))))
  have c : (!es.toArray.any (·.key.isStr name) && es.toArray.any (·.refKey)) = false := by
    rw [← Array.any_toList, ← Array.any_toList, hr, Bool.and_false]
  dsimp only
  rw [aRefKeyMayBeTheName_at, c]
  have e1 : Obj.putName name (PyData.keyHash w.params name) (.str name (s.toks + 1)) v (dictOf es n) = dictOf (es ++ [⟨PyData.keyHash w.params name, .str name (s.toks + 1), v⟩]) (n + 1) := by
    rw [putName_dict]
    have p1 : ∀ l : List DictEntry, l.any (·.key.isStr name) = false → putL name (PyData.keyHash w.params name) (.str name (s.toks + 1)) v l = l ++ [⟨PyData.keyHash w.params name, .str name (s.toks + 1), v⟩] := by
      intro l
      induction l with
      | nil => intro _; rfl
      | cons d r ih =>
        intro hl
        rw [List.any_cons, Bool.or_eq_false_iff] at hl
        unfold putL
        rw [hl.1, ih hl.2]; rfl
    rw [p1 es hf]
    unfold putN
    rw [hf]; rfl
  have D' : (s.heap.update dx (Obj.putName name (PyData.keyHash w.params name) (.str name (s.toks + 1)) v)).get? dx = some (dictOf (es ++ [⟨PyData.keyHash w.params name, .str name (s.toks + 1), v⟩]) (n + 1)) := by
    rw [← e1]; exact Heap.get?_update_self _ hD (by rw [e1]; rfl)
  refine wpAny_updatePart hD ?_
  refine wpAny_bind (wpAny_lookBehind D' (pastItsLine_dict (by rw [List.size_toArray, sizeLine_eq, List.length_append]; simp; omega)) ?_)
  exact wpAny_pure (h _ _ D' fun b o hb e => (Heap.get?_update_ne _ _ _ _ hb).trans e)

structure IR (W : Wd) (h0 : Heap) (x dx : Addr) (env : Env) (sl : List Str) (ℓ : List LV) (es : List DictEntry) (ne : Nat) (h : Heap) (T : Nat) : Prop where
  rel : ∃ hE P0 P X μ, SRel W.w0 hE P0 P X μ env sl ℓ h T ∧ ¬ X dx ∧ ¬ X x ∧ ¬ P dx ∧ (∀ a, X a → h0.get? a = none) ∧ (∀ a, P a → h0.get? a = none)
  inst : h.get? x = some (instObj wsC dx)
  dict : h.get? dx = some (dictOf es ne)
  grow : Grow h0 h
  nodx : h0.get? dx = none

section
variable {W : Wd} {h0 : Heap} {x dx : Addr} {env : Env} {sl : List Str} {ℓ ℓ' : List LV} {es : List DictEntry} {ne : Nat} {n : Nat} {C : Scope} {A : Around} {s : Shared} {E : Value → Shared → Prop} {Q : Flow → Shared → Prop}
theorem IR.run {st : Stmt} {g : SF} (I : IR W h0 x dx env sl ℓ es ne s.heap s.toks) (Y0 : Sx W.w0 n C A env h0) (hn : noAl ℓ = true) (D : DenX W.w0 n C sl st g) (ht : 0 < s.toks) (hg : g ℓ = some (.next ℓ'))
    (q : ∀ h' tk, IR W h0 x dx env sl ℓ' es ne h' tk → s.toks ≤ tk → Q .next { s with heap := h', toks := tk }) : wpAny (model W.prog W.w) A (exec st env) Q E s := by
  obtain ⟨⟨hE, P0, P, X, μ, S, nd, nx, npd, xf, pf⟩, hi, hd, hg0, hdx0⟩ := I
  have g0 : Grow h0 (hideP s.heap X) := fun b o e => hideP_get (hg0 b o e) (fun xb => by rw [xf b xb] at e; cases e)
  have S1 := S.rebase X (fun _ x => x) hn
  refine D (Y0.up g0) S1 ht hg fun P' X' μ' h' tk S' t k x' => ?_
  have keep : Grow (hideP s.heap X) h' := fun b o e => (S'.grow b o e).1 (fun f => f)
  have hn0 : ∀ a, (hideP s.heap X).get? a = none → h0.get? a = none := fun a e => Grow.none g0 e
  refine q h' tk ⟨⟨_, _, _, _, _, S', fun q => ?_, fun q => ?_, fun q => ?_, fun a q => hn0 a (S'.XE a q), fun a q => ?_⟩, keep _ _ (hideP_get hi nx), keep _ _ (hideP_get hd nd), g0.trans keep, hdx0⟩ t
  · have := S'.XE _ q; rw [hideP_get hd nd] at this; cases this
  · have := S'.XE _ q; rw [hideP_get hi nx] at this; cases this
  · rcases S'.PE _ q with p | p
    · exact npd p
    · rw [hideP_get hd nd] at p; cases p
  · rcases S'.PE _ q with p | p
    · exact pf a p
    · exact hn0 a p

theorem IR.self (I : IR W h0 x dx env sl ℓ es ne s.heap s.toks) (hself : sl[0]? = some ("self" : Str)) (hl : ℓ[0]? = some (.val (.opq (.ref x)))) {h1 : Heap} (g : Grow s.heap h1) : Has env h1 "self" (.ref x) := by
  obtain ⟨⟨hE, P0, P, X, μ, S, _⟩, _⟩ := I
  rcases S.slot 0 "self" _ hself hl with u | ⟨v, a, b, _⟩
  · cases u
  · have e : v = .ref x := b
    rw [← e]; exact a.grow g

theorem IR.set {name : Str} {e : Expr} {f : MF} {m : MV} {np ap pos : Pos} (L : Law W) (I : IR W h0 x dx env sl ℓ es ne s.heap s.toks) (Y0 : Sx W.w0 n C A env h0) (hn : noAl ℓ = true) (ht : 0 < s.toks) (hself : sl[0]? = some ("self" : Str)) (hl : ℓ[0]? = some (.val (.opq (.ref x))))
    (D : DenE W.w0 n C sl e f) (hf : f ℓ = some m) (hname : name ∈ (["raw", "n", "nt", "norm", "is_simple"] : List Str)) (hfr : es.any (·.key.isStr name) = false) (hr : es.any (·.refKey) = false) (hz : es.length ≤ 20)
    (hsw : swapsWith e (some (.Attribute (.Name "self" np) name ap)) pos.line env = pure false)
    (q : ∀ v t h' tk, VR (fun a => h0.get? a = none ∧ a ≠ dx) h' tk m v → IR W h0 x dx env sl ℓ (es ++ [⟨PyData.keyHash W.w.params name, .str name t, v⟩]) (ne + 1) h' tk → (∀ b o, b ≠ dx → s.heap.get? b = some o → h'.get? b = some o) → s.toks ≤ tk → Q .next { s with heap := h', toks := tk }) :
    wpAny (model W.prog W.w) A (exec (.Assign [.Attribute (.Name "self" np) name ap] e pos) env) Q E s := by
  have I' := I
  obtain ⟨⟨hE, P0, P, X, μ, S, nd, nx, npd, xf, pf⟩, hi, hd, hg0, hdx0⟩ := I
  have g0 : Grow h0 (hideP s.heap X) := fun b o e => hideP_get (hg0 b o e) (fun xb => by rw [xf b xb] at e; cases e)
  have S1 := S.rebase X (fun _ x => x) hn
  have X1 := S1.cx (Y0.up g0) ht
  refine plainObj_wpAny_Assign_Attribute (D X1 S1.toL hf fun v h1 tk1 g t r => ?_) hsw
  have g' : Grow s.heap h1 := g
  have t' : s.toks ≤ tk1 := t
  refine wpAny_Name ((I'.self hself hl g').load X1.kindE (by decide) ?_) (by decide)
  have hB : L.K.In h1 := fun b o e => X1.base.trans g' b o (L.KC.inB b o e)
  refine set_raw (s := { s with heap := h1, toks := tk1 }) hB (g' _ _ hi) (g' _ _ hd) L.setA L.over (L.taker name hname) L.hasD hfr hr hz fun h2 tk2 hd2 k2 => ?_
  have k2' : ∀ b o, b ≠ dx → h1.get? b = some o → h2.get? b = some o := k2
  have S2 := (S1.pf g' t').rebase (fun a => X a ∨ a = dx) (fun a p => .inl p) hn
  have ndP : ∀ b, PF P s.heap b → b ≠ dx := fun b p q => by
    subst q
    rcases p with p | p
    · exact npd p
    · rw [hd] at p; cases p
  have p0 : ∀ b, PF P s.heap b → h0.get? b = none := fun b p => by
    rcases p with p | p
    · exact pf b p
    · exact Grow.none hg0 p
  have S3 := S2.keepOn (h' := h2) (T' := tk1 + 2) (fun b o hb e => k2' b o (fun q => by
    subst q
    rcases hb with hb | hb | ⟨_, o', hb⟩
    · exact nd hb
    · exact ndP _ hb rfl
    · rw [hideP_none (.inr rfl)] at hb; cases hb) e) (fun _ _ f => f.elim) (Nat.le_add_right _ _)
  refine q v tk2 h2 (tk1 + 2) (VR.mono (fun b p => ⟨p0 b p, ndP b p⟩) (fun b o p e => k2' b o (ndP b p) e) (Nat.le_add_right _ _) r) ⟨⟨_, _, _, _, _, S3, nd, nx, fun p => ndP _ p rfl, xf, p0⟩, k2' _ _ (fun q => ?_) (g' _ _ hi), hd2, fun b o e => ?_, hdx0⟩ (fun b o nb e => k2' b o nb (g' b o e)) (Nat.le_trans t' (Nat.le_add_right _ _))
  · subst q; rw [hi] at hd; cases hd
  · have e1 := hg0 b o e
    by_cases q : b = dx
    · subst q; rw [hdx0] at e; cases e
    · exact k2' b o q (g' b o e1)

theorem IR.loop {g : SF} {body : List Stmt} {px np ap pos : Pos} {raw : Str} {t0 : Tok} (i : Nat) (L : Law W) (I : IR W h0 x dx env sl ℓ es ne s.heap s.toks) (Y0 : Sx W.w0 n C A env h0) (hn : noAl ℓ = true) (ht : 0 < s.toks) (hself : sl[0]? = some ("self" : Str)) (hl : ℓ[0]? = some (.val (.opq (.ref x))))
    (hi' : sl[i]? = some ("ch" : Str)) (hx' : isVar C "ch" = true) (hs : ∀ env x, foldedSetIterable (.Attribute (.Name "self" np) "raw" ap) env x = pure x) (hbase : attributeBase (.Name "self" np) "raw" env (eval (.Name "self" np) env) = eval (.Name "self" np) env)
    (hraw : getL "raw" es = some (some (.str raw t0))) (hasc : raw.cps.all (· < 128) = true) (hz : raw.cps.size ≤ 65536)
    (Db : DenS W.w0 n C sl body g) (hg : forL i g (raw.cps.toList.map fun c => .str ⟨#[c]⟩) ℓ = some (.next ℓ'))
    (q : ∀ h' tk, IR W h0 x dx env sl ℓ' es ne h' tk → s.toks ≤ tk → Q .next { s with heap := h', toks := tk }) : wpAny (model W.prog W.w) A (exec (.For (.Name "ch" px) (.Attribute (.Name "self" np) "raw" ap) body [] pos) env) Q E s := by
  have I' := I
  obtain ⟨⟨hE, P0, P, X, μ, S, nd, nx, npd, xf, pf⟩, hi, hd, hg0, hdx0⟩ := I
  have g0 : Grow h0 (hideP s.heap X) := fun b o e => hideP_get (hg0 b o e) (fun xb => by rw [xf b xb] at e; cases e)
  have S1 := S.rebase X (fun _ x => x) hn
  have X1 := S1.cx (Y0.up g0) ht
  have hlen : (raw.cps.toList.map fun c => MV.str ⟨#[c]⟩).length = raw.cps.size := by simp
  refine for_at i hi' hx' hs Db (Y0.up g0) S1 ht hg (fun P' X' μ' h' tk S' t k x' => ?_) (fun {E'} {K'} k => ?_)
  · have keep : Grow (hideP s.heap X) h' := fun b o e => (S'.grow b o e).1 (fun f => f)
    have hn0 : ∀ a, (hideP s.heap X).get? a = none → h0.get? a = none := fun a e => Grow.none g0 e
    refine q h' tk ⟨⟨_, _, _, _, _, S', fun q => ?_, fun q => ?_, fun q => ?_, fun a q => hn0 a (S'.XE a q), fun a q => ?_⟩, keep _ _ (hideP_get hi nx), keep _ _ (hideP_get hd nd), g0.trans keep, hdx0⟩ t
    · have := S'.XE _ q; rw [hideP_get hd nd] at this; cases this
    · have := S'.XE _ q; rw [hideP_get hi nx] at this; cases this
    · rcases S'.PE _ q with p | p
      · exact npd p
      · rw [hideP_get hd nd] at p; cases p
    · rcases S'.PE _ q with p | p
      · exact pf a p
      · exact hn0 a p
  · rw [arm_eval_Attribute, hbase]
    refine wpAny_bind (wpAny_Name ((I'.self hself hl (Grow.refl _)).load X1.kindE (by decide) ?_) (by decide))
    refine wpAny_bind (wpAny_standAt (wpAny_bind (wpAny_holding ?_)))
    have hB : L.K.In s.heap := fun b o e => X1.base b o (L.KC.inB b o e)
    refine get_value (s := s) hB ⟨hi, rfl, rfl, hd⟩ L.KC.ga (findObj_own L.KC.cls L.KC.own L.KC.noRaw (o := dictOf es ne) (v := .str raw t0) hraw) rfl ?_
    refine wpAny_bind (wpAny_letTemporaryGo (wpAny_pure ?_))
    refine wpAny_pyIter_ascii hasc ?_
    have hh : A.handled = none := Y0.handled
    have hI : (s.heap.push { cls := .type "str_ascii_iterator", data := .fields #[.str raw t0, .int 0 0] }).IsStrIter s.heap.objs.size "str_ascii_iterator" raw t0 0 := ⟨_, Heap.get?_push_size _ rfl, rfl, rfl⟩
    refine k s.heap.objs.size [s.heap.objs.size] [s.heap.objs.size] (fun i _ v => SignAt raw i v) (fun i h => h.IsStrIter s.heap.objs.size "str_ascii_iterator" raw t0 i) _ (s.toks + 1) (Grow.push _ _) (Nat.le_succ _) (by
      rw [hlen]
      exact MW.of (Walks.strAscii hh s.heap.objs.size raw t0) (fun i h st b hb => by rw [List.mem_singleton.mp hb]; obtain ⟨o, ho, hc, hd⟩ := st; exact ⟨o, ho, by unfold nodeObj; rw [hd]⟩)) hI ?_ ?_ ?_ ?_ (by rw [hlen, sizeLine_eq]; omega)
    · intro b hb; rw [List.mem_singleton.mp hb]; exact ⟨_, Heap.get?_push_size _ rfl⟩
    · intro b hb; rw [List.mem_singleton.mp hb]; exact Heap.get?_none_of_le (Nat.le_refl _)
    · intro _ b hb; rw [List.mem_singleton.mp hb]; exact .inr (Heap.get?_none_of_le (Nat.le_refl _))
    · rintro i T v hT ⟨c, u, hc, rfl⟩
      refine ⟨.str ⟨#[c]⟩, ?_, ⟨u, rfl⟩⟩
      rw [List.getElem?_map, Array.getElem?_toList, hc]; rfl
end
end Mine
end
section
open PySem PySem.W PyProof.Rows PySem.Calls
set_option Elab.async false
set_option linter.unusedVariables false
set_option linter.unusedSimpArgs false
set_option maxRecDepth 100000
namespace Mine

noncomputable def forBody : Option Stmt → List Stmt
  | some (.For _ _ body _ _) => body
  | _ => []
noncomputable def B_init : SF :=
  (seqS (ifM (bind2 eqF (nameA 8) (nameA 2)) (seqS (setV 6 (bind2 addF (nameA 6) (toAF (litF (.fint 1))))) (seqS (setV 5 (bind2 addF (nameA 5) (toAF (litF (.fint 1))))) nextF)) (seqS (ifM (bind2 eqF (nameA 8) (nameA 3)) (seqS (setV 6 (bind2 addF (nameA 6) (toAF (litF (.fint 1))))) (seqS (setV 7 (bind2 addF (nameA 7) (toAF (litF (.fint 1))))) (seqS (ifM (bind2 geF (nameA 5) (toAF (toIF (lenFF (nameA 4))))) (seqS (setO 4 (bind2 addLF (nameA 4) (toAF (bind2 mulAll (toAF (toLF (fitF (cons2 (litF (.fint 0)) nilF)))) (toAF (bind2 addF (toAF (bind2 subIF (nameA 5) (toAF (toIF (lenFF (nameA 4)))))) (toAF (litF (.fint 1))))))))) nextF) nextF) (seqS (setItF 4 (nameA 5) (bind2 addF (toAF (bind2 itemS (nameA 4) (nameA 5))) (toAF (litF (.fint 1))))) (seqS (setV 5 (litF (.fint 0))) nextF))))) (fun _ => none)) nextF)) nextF)
theorem d_initbody {W : Wd} {n : Nat} (L : Law W) : DenS W n (methAt 1).scope ["self", "ws", "S", "T", "count", "b", "n", "nt", "ch"] (forBody (methAt 1).body[4]?) B_init :=
  (den_seq (den_if (den_cmpT (den_nameA 8 rfl rfl rfl) (den_nameA 2 rfl rfl rfl) (ok_eq W) rfl) (den_seq (den_assign 6 rfl (by kernel_rfl) (fun _ _ => rfl) (den_bin (den_nameA 6 rfl rfl rfl) (DenE.toA den_int) (ok_add W))) (den_seq (den_assign 5 rfl (by kernel_rfl) (fun _ _ => rfl) (den_bin (den_nameA 5 rfl rfl rfl) (DenE.toA den_int) (ok_add W))) den_done)) (den_seq (den_if (den_cmpT (den_nameA 8 rfl rfl rfl) (den_nameA 3 rfl rfl rfl) (ok_eq W) rfl) (den_seq (den_assign 6 rfl (by kernel_rfl) (fun _ _ => rfl) (den_bin (den_nameA 6 rfl rfl rfl) (DenE.toA den_int) (ok_add W))) (den_seq (den_assign 7 rfl (by kernel_rfl) (fun _ _ => rfl) (den_bin (den_nameA 7 rfl rfl rfl) (DenE.toA den_int) (ok_add W))) (den_seq (den_if (den_cmpT (den_nameA 5 rfl rfl rfl) (DenE.toA (DenF.toE (den_lenF L.O (by kernel_rfl) L.bLen (fun _ _ => ⟨_, _, rfl, rfl⟩) (fun _ => rfl) (den_nameA 4 rfl rfl rfl)))) (ok_ge W) rfl) (den_seq (den_assignO 4 rfl (by kernel_rfl) (fun _ _ => rfl) (den_binN (den_nameA 4 rfl rfl rfl) (DenE.toA (den_bin (DenE.toA (DenN.toE (den_listN (den_cons den_int den_nil (fun _ => rfl))))) (DenE.toA (den_bin (DenE.toA (den_bin (den_nameA 5 rfl rfl rfl) (DenE.toA (DenF.toE (den_lenF L.O (by kernel_rfl) L.bLen (fun _ _ => ⟨_, _, rfl, rfl⟩) (fun _ => rfl) (den_nameA 4 rfl rfl rfl)))) (ok_sub W))) (DenE.toA den_int) (ok_add W))) (ok_mulAll W))) (ok_addN W))) den_done) den_done) (den_seq (den_setitem 4 rfl rfl rfl (fun _ _ => rfl) (den_bin (DenE.toA (den_item (den_nameA 4 rfl rfl rfl) (den_nameA 5 rfl rfl rfl) rfl)) (DenE.toA den_int) (ok_add W)) (den_nameA 5 rfl rfl rfl)) (den_seq (den_assign 5 rfl (by kernel_rfl) (fun _ _ => rfl) den_int) den_done))))) den_never) den_done)) den_done)

end Mine
end
section
set_option genInjectivity false
set_option genSizeOf false
set_option genSizeOfSpec false
open PySem PySem.W PyProof.Rows PySem.Calls
set_option Elab.async false
set_option linter.unusedVariables false
set_option linter.unusedSimpArgs false
set_option maxRecDepth 100000
namespace Mine
noncomputable def fi (k : Nat) : MV := .fint (k : Int)
noncomputable def bump (l : List Nat) (b : Nat) : List Nat :=
  (if l.length ≤ b then l ++ List.replicate (b - l.length + 1) 0 else l).set b ((if l.length ≤ b then l ++ List.replicate (b - l.length + 1) 0 else l).getD b 0 + 1)
/-- the counts that the loop of __init__ keeps -/
structure Wc where
  (count : List Nat)
  (b n nt : Nat)
noncomputable def Wc.step (w : Wc) (c : Nat) : Wc := if c = 32 then ⟨w.count, w.b + 1, w.n + 1, w.nt⟩ else ⟨bump w.count w.b, 0, w.n + 1, w.nt + 1⟩
noncomputable def wsL (u : Value) (raw : Str) (w : Wc) (ch : LV) : List LV :=
  [.val (.opq u), .val (.str raw), .val (.str ⟨#[32]⟩), .val (.str ⟨#[9]⟩), .own (w.count.map fi), .val (fi w.b), .val (fi w.n), .val (fi w.nt), ch]
theorem step_blank (u : Value) (raw : Str) (w : Wc) : B_init (wsL u raw w (.val (.str ⟨#[32]⟩))) = some (.next (wsL u raw (w.step 32) (.val (.str ⟨#[32]⟩)))) := by
  kernel_rfl
theorem bump_len (l : List Nat) (b : Nat) : (bump l b).length = max l.length (b + 1) := by
  unfold bump
  rw [List.length_set]
  split
  · rw [List.length_append, List.length_replicate]; omega
  · omega
noncomputable def extP : SF := ifM (bind2 geF (nameA 5) (toAF (toIF (lenFF (nameA 4))))) (seqS (setO 4 (bind2 addLF (nameA 4) (toAF (bind2 mulAll (toAF (toLF (fitF (cons2 (litF (.fint 0)) nilF)))) (toAF (bind2 addF (toAF (bind2 subIF (nameA 5) (toAF (toIF (lenFF (nameA 4)))))) (toAF (litF (.fint 1))))))))) nextF) nextF
noncomputable def putP : SF := setItF 4 (nameA 5) (bind2 addF (toAF (bind2 itemS (nameA 4) (nameA 5))) (toAF (litF (.fint 1))))
noncomputable def tabP : SF := seqS extP (seqS putP (seqS (setV 5 (litF (.fint 0))) nextF))
theorem bind2_eq {α : Type} {F : LV → LV → Option α} {fa fb : LF} {ℓ : List LV} {x y : LV} (ha : fa ℓ = some x) (hb : fb ℓ = some y) : bind2 F fa fb ℓ = F x y := by
  unfold bind2; rw [ha, hb]
theorem toAF_eq {f : MF} {ℓ : List LV} {m : MV} (h : f ℓ = some m) : toAF f ℓ = some (.val m) := by show (f ℓ).map LV.val = _; rw [h]; rfl
theorem toIF_eq {f : List LV → Option Int} {ℓ : List LV} {m : Int} (h : f ℓ = some m) : toIF f ℓ = some (.fint m) := by show (f ℓ).map MV.fint = _; rw [h]; rfl
theorem szOK_map {l : List Nat} (h : l.length ≤ 2000) : szOK (l.map fi) = true := by unfold szOK; simp; omega
theorem ext_at (u : Value) (raw : Str) (l : List Nat) (b n nt : Nat) (ch : LV) (h1 : l.length ≤ 900) (h2 : b ≤ 900) :
    extP (wsL u raw ⟨l, b, n, nt⟩ ch) = some (.next (wsL u raw ⟨if l.length ≤ b then l ++ List.replicate (b - l.length + 1) 0 else l, b, n, nt⟩ ch)) := by
  have hl : lenFF (nameA 4) (wsL u raw ⟨l, b, n, nt⟩ ch) = some (l.length : Int) := by
    show (if szOK (l.map fi) then some (((l.map fi).length : Nat) : Int) else none) = _
    rw [if_pos (szOK_map (by omega)), List.length_map]
  have hb : nameA 5 (wsL u raw ⟨l, b, n, nt⟩ ch) = some (.val (fi b)) := rfl
  have hc : nameA 4 (wsL u raw ⟨l, b, n, nt⟩ ch) = some (.pla (l.map fi)) := rfl
  have hg : bind2 geF (nameA 5) (toAF (toIF (lenFF (nameA 4)))) (wsL u raw ⟨l, b, n, nt⟩ ch) = some (decide ((l.length : Int) ≤ (b : Int))) := by
    exact bind2_eq hb (toAF_eq (toIF_eq hl))
  unfold extP ifM
  rw [hg]
  by_cases hlb : l.length ≤ b
  · rw [decide_eq_true (by omega : (l.length : Int) ≤ (b : Int)), if_pos hlb]
    have e1 : bind2 subIF (nameA 5) (toAF (toIF (lenFF (nameA 4)))) (wsL u raw ⟨l, b, n, nt⟩ ch) = some (.fint ((b : Int) - l.length)) := bind2_eq hb (toAF_eq (toIF_eq hl))
    have e2 : bind2 addF (toAF (bind2 subIF (nameA 5) (toAF (toIF (lenFF (nameA 4)))))) (toAF (litF (.fint 1))) (wsL u raw ⟨l, b, n, nt⟩ ch) = some (.fint ((b : Int) - l.length + 1)) := (bind2_eq (y := .val (.fint 1)) (toAF_eq e1) rfl).trans rfl
    have hm : bind2 mulAll (toAF (toLF (fitF (cons2 (litF (.fint 0)) nilF)))) (toAF (bind2 addF (toAF (bind2 subIF (nameA 5) (toAF (toIF (lenFF (nameA 4)))))) (toAF (litF (.fint 1))))) (wsL u raw ⟨l, b, n, nt⟩ ch)
        = some (.list ((List.replicate (b - l.length + 1) 0).map fi)) := by
      refine (bind2_eq (x := .val (.list [.fint 0])) rfl (toAF_eq e2)).trans ?_
      have ek : (b : Int) - l.length + 1 = ((b - l.length + 1 : Nat) : Int) := by omega
      rw [ek]
      show (if (1 : Nat) ≤ 1000 ∧ (-1000 : Int) ≤ ((b - l.length + 1 : Nat) : Int) ∧ ((b - l.length + 1 : Nat) : Int) ≤ 1000 then some (MV.list (List.replicate (((b - l.length + 1 : Nat) : Int).toNat) [MV.fint 0]).flatten) else none) = _
      rw [if_pos (by omega), Int.toNat_natCast]
      have : ∀ k : Nat, (List.replicate k [MV.fint 0]).flatten = (List.replicate k 0).map fi := fun k => by
        induction k with
        | zero => rfl
        | succ k ih => rw [List.replicate_succ, List.flatten_cons, ih]; rfl
      rw [this]
    have ha : bind2 addLF (nameA 4) (toAF (bind2 mulAll (toAF (toLF (fitF (cons2 (litF (.fint 0)) nilF)))) (toAF (bind2 addF (toAF (bind2 subIF (nameA 5) (toAF (toIF (lenFF (nameA 4)))))) (toAF (litF (.fint 1))))))) (wsL u raw ⟨l, b, n, nt⟩ ch)
        = some ((l ++ List.replicate (b - l.length + 1) 0).map fi) := by
      refine (bind2_eq hc (toAF_eq hm)).trans ?_
      show (if szOK (l.map fi) && szOK ((List.replicate (b - l.length + 1) 0).map fi) then some (l.map fi ++ (List.replicate (b - l.length + 1) 0).map fi) else none) = _
      rw [szOK_map (by omega), szOK_map (by rw [List.length_replicate]; omega), List.map_append]
      rfl
    show seqS (setO 4 _) nextF _ = _
    unfold seqS setO
    rw [ha]
    rfl
  · rw [decide_eq_false (by omega : ¬ (l.length : Int) ≤ (b : Int)), if_neg hlb]
theorem put_at (u : Value) (raw : Str) (l : List Nat) (b n nt : Nat) (ch : LV) (h1 : l.length ≤ 2000) (h2 : b < l.length) :
    putP (wsL u raw ⟨l, b, n, nt⟩ ch) = some (.next (wsL u raw ⟨l.set b (l.getD b 0 + 1), b, n, nt⟩ ch)) := by
  have e1 : bind2 itemS (nameA 4) (nameA 5) (wsL u raw ⟨l, b, n, nt⟩ ch) = some (fi (l.getD b 0)) := by
    show (if szOK (l.map fi) then (if (0 : Int) ≤ (b : Int) then (l.map fi)[(b : Int).toNat]? else _) else none) = _
    rw [if_pos (szOK_map h1), if_pos (by omega), Int.toNat_natCast, List.getElem?_map, List.getElem?_eq_getElem h2]
    simp [List.getD, h2]
  have e2 : bind2 addF (toAF (bind2 itemS (nameA 4) (nameA 5))) (toAF (litF (.fint 1))) (wsL u raw ⟨l, b, n, nt⟩ ch) = some (fi (l.getD b 0 + 1)) := by
    exact (bind2_eq (y := .val (.fint 1)) (toAF_eq e1) rfl).trans rfl
  unfold putP setItF
  rw [e2]
  show (if szOK (l.map fi) = true ∧ (0 : Int) ≤ (b : Int) ∧ (b : Int) < ((l.map fi).length : Nat) then some (Out.next ((wsL u raw ⟨l, b, n, nt⟩ ch).set 4 (.own ((l.map fi).set (b : Int).toNat (fi (l.getD b 0 + 1)))))) else none) = _
  rw [if_pos ⟨szOK_map h1, by omega, by rw [List.length_map]; omega⟩, Int.toNat_natCast, ← List.map_set]
  rfl
theorem step_tab (u : Value) (raw : Str) (w : Wc) (h1 : w.count.length ≤ 900) (h2 : w.b ≤ 900) : B_init (wsL u raw w (.val (.str ⟨#[9]⟩))) = some (.next (wsL u raw (w.step 9) (.val (.str ⟨#[9]⟩)))) := by
  obtain ⟨l, b, n, nt⟩ := w
  have a1 : B_init (wsL u raw ⟨l, b, n, nt⟩ (.val (.str ⟨#[9]⟩))) = seqS (seqS tabP nextF) nextF (wsL u raw ⟨l, b, n + 1, nt + 1⟩ (.val (.str ⟨#[9]⟩))) := by kernel_rfl
  rw [a1]
  have a2 : tabP (wsL u raw ⟨l, b, n + 1, nt + 1⟩ (.val (.str ⟨#[9]⟩))) = some (.next (wsL u raw ⟨bump l b, 0, n + 1, nt + 1⟩ (.val (.str ⟨#[9]⟩)))) := by
    unfold tabP seqS
    rw [ext_at _ _ _ _ _ _ _ h1 h2]
    dsimp only
    simp only at h1 h2
    rw [put_at _ _ _ _ _ _ _ (by split
                                 · rw [List.length_append, List.length_replicate]; omega
                                 · omega) (by split
                                              · rw [List.length_append, List.length_replicate]; omega
                                              · omega)]
    rfl
  unfold seqS
  rw [a2]
  rfl
theorem set_ch (u : Value) (raw : Str) (w : Wc) (ch c : LV) : (wsL u raw w ch).set 8 c = wsL u raw w c := rfl
noncomputable def Wc.run (w : Wc) (cs : List Nat) : Wc := cs.foldl Wc.step w
theorem loop_at (u : Value) (raw : Str) : ∀ (cs : List Nat) (w : Wc) (ch : LV), (∀ c ∈ cs, c = 32 ∨ c = 9) → w.count.length + cs.length ≤ 900 → w.b + cs.length ≤ 900 → w.b + 1 + cs.length ≤ 901 →
    ∃ ch', (ch' = ch ∨ ∃ m, ch' = .val m) ∧ forL 8 B_init (cs.map fun c => .str ⟨#[c]⟩) (wsL u raw w ch) = some (.next (wsL u raw (w.run cs) ch'))
  | [], w, ch, _, _, _, _ => ⟨ch, .inl rfl, rfl⟩
  | c :: cs, w, ch, hc, h1, h2, h3 => by
    simp only [List.length_cons] at h1 h2 h3
    have hstep : B_init (wsL u raw w (.val (.str ⟨#[c]⟩))) = some (.next (wsL u raw (w.step c) (.val (.str ⟨#[c]⟩)))) := by
      rcases hc c (.head _) with rfl | rfl
      · exact step_blank u raw w
      · exact step_tab u raw w (by omega) (by omega)
    have hb : (w.step c).b + cs.length ≤ 900 ∧ (w.step c).count.length + cs.length ≤ 900 := by
      unfold Wc.step
      split
      · exact ⟨by show w.b + 1 + cs.length ≤ 900; omega, by show w.count.length + cs.length ≤ 900; omega⟩
      · refine ⟨by show 0 + cs.length ≤ 900; omega, ?_⟩
        show (bump w.count w.b).length + cs.length ≤ 900
        rw [bump_len]; omega
    obtain ⟨ch', ec, e⟩ := loop_at u raw cs (w.step c) (.val (.str ⟨#[c]⟩)) (fun c' h => hc c' (.tail _ h)) hb.2 hb.1 (by omega)
    refine ⟨ch', .inr ?_, ?_⟩
    · rcases ec with rfl | ec
      · exact ⟨_, rfl⟩
      · exact ec
    rw [List.map_cons]
    unfold forL
    rw [set_ch, hstep]
    exact e
end Mine
end
section
open PySem PySem.W PyProof.Rows PySem.Calls
set_option Elab.async false
set_option linter.unusedVariables false
set_option linter.unusedSimpArgs false
set_option maxRecDepth 100000
namespace Mine
noncomputable def wsOf (raw : Str) : Wc := (⟨[], 0, 0, 0⟩ : Wc).run raw.cps.toList
noncomputable def wsV (raw : Str) : MV := .ws raw ((wsOf raw).count.map fun (k : Nat) => (k : Int)) (wsOf raw).b (wsOf raw).n (wsOf raw).nt
noncomputable def wsF (raw : Str) : Option MV := if raw.cps.size ≤ 400 ∧ raw.cps.toList.all (fun c => c == 32 || c == 9) = true then some (wsV raw) else none
theorem ints_fi {P : AP} {h : Heap} {T : Nat} : ∀ {l : List Nat} {vs : List Value}, VRs P h T (l.map fi) vs → IntsAre vs (l.map fun (k : Nat) => (k : Int))
  | [], _, x => by cases x; exact .nil
  | k :: l, _, ⟨v, r, e, ⟨t, hv, _⟩, y⟩ => by subst e; subst hv; exact .cons _ _ (ints_fi y)
section
variable {W : Wd} {n : Nat}
theorem run_bound (N : Nat) : ∀ (cs : List Nat) (w : Wc), w.count.length + cs.length ≤ N → w.b + cs.length ≤ N → (w.run cs).count.length ≤ N ∧ (w.run cs).b ≤ N
  | [], w, h1, h2 => ⟨h1, h2⟩
  | c :: cs, w, h1, h2 => by
    simp only [List.length_cons] at h1 h2
    show ((w.step c).run cs).count.length ≤ N ∧ ((w.step c).run cs).b ≤ N
    refine run_bound N cs _ ?_ ?_
    · unfold Wc.step; split
      · show w.count.length + _ ≤ _; omega
      · show (bump w.count w.b).length + _ ≤ _; rw [bump_len]; omega
    · unfold Wc.step; split
      · show w.b + 1 + _ ≤ _; omega
      · show 0 + _ ≤ _; omega
theorem cons2_eq {α : Type} {f : List LV → Option α} {g : List LV → Option (List α)} {ℓ : List LV} {x : α} {y : List α} (ha : f ℓ = some x) (hb : g ℓ = some y) : cons2 f g ℓ = some (x :: y) := by
  unfold cons2; rw [ha, hb]
theorem callF_eq {α : Type} {g : List LV → Option (List LV)} {F : List LV → Option α} {ℓ a r} (ha : g ℓ = some a) (hb : F a = some r) : callF g F ℓ = some r := by
  show (match g ℓ with | some a => F a | none => none) = _
  rw [ha]; exact hb
theorem env_at {env : Env} {C : Scope} (h : env.scope = C) : env = { env with scope := C } := by rw [← h]
theorem init_run (L : Law W) {A : Around} {s : Shared} {x dx : Addr} {raw : Str} {t : Tok} {R : Result → Shared → Prop} {h0 : Heap} {out : List Env}
    (g0 : Grow h0 s.heap) (hx : s.heap.get? x = some (instObj wsC dx)) (hdx : s.heap.get? dx = some emptyDict) (h0x : h0.get? x = none) (h0d : h0.get? dx = none)
    (X : Cs W (n + 1) A s.heap s.toks) (hB : Grow W.hB h0) (hfr : A.frames = some out) (hff : h0.FunFrames W.hB out)
    (hz : raw.cps.size ≤ 400) (hc : ∀ c ∈ raw.cps.toList, c = 32 ∨ c = 9)
    (q : ∀ h' tk, VR (fun a => h0.get? a = none) h' tk (wsV raw) (.ref x) → Grow h0 h' → s.toks ≤ tk → R (.ok (.ret .none)) { s with heap := h', toks := tk }) :
    codeAny (model W.prog W.w) A (.call (.ref L.aInit) ⟨[.ref x, .str raw t], []⟩) R s := by
  refine fn_enterQ (q := "Whitespace.__init__") (d := methAt 1) (n := n) (k := 7) (ps := ["self", "ws"]) (sl := ["self", "ws", "S", "T", "count", "b", "n", "nt", "ch"]) (P := fun _ => False) (lvs := [.val (.opq (.ref x)), .val (.str raw)]) L.O L.fInit (by kernel_rfl) rfl
    (fun _ _ _ vs h => by obtain ⟨v0, v1, rfl⟩ := two_of h; rfl) X (.cons (show LR _ _ _ (.val (.opq (.ref x))) _ from rfl) (.cons (show LR _ _ _ (.val (.str raw)) _ from ⟨t, rfl⟩) .nil)) rfl fun env h₁ tk₁ X' Y S t₁ => ?_
  have t₁' : s.toks ≤ tk₁ := t₁
  have ht0 : 0 < s.toks := X.tok
  have Y0 : Sx W.w0 n (methAt 1).scope (A.deeper env) env h0 := { Y with baseE := hB, frames := ⟨out, by show A.frames.map _ = _; rw [hfr]; rfl, hff⟩, outer := fun q => (nomatch q) }
  have gs : Grow s.heap h₁ := fun b o e => (S.grow b o e).1 fun f => f
  have I0 : IR W h0 x dx env ["self", "ws", "S", "T", "count", "b", "n", "nt", "ch"] (initL [.val (.opq (.ref x)), .val (.str raw)] 7) [] 0 h₁ tk₁ :=
    ⟨⟨_, _, _, X', _, S, (fun q => by have := S.XE _ q; rw [hdx] at this; cases this), (fun q => by have := S.XE _ q; rw [hx] at this; cases this), (fun f => f.1), (fun a q => Grow.none g0 (S.XE a q)), fun _ f => f.1.elim⟩, gs _ _ hx, gs _ _ hdx, g0.trans gs, h0d⟩
  refine wpAny_execs_cons (I0.set (s := { s with heap := h₁, toks := tk₁ }) L Y0 rfl (Nat.lt_of_lt_of_le ht0 t₁') rfl rfl (den_nameE 1 rfl rfl rfl) rfl (.head _) rfl rfl (Nat.zero_le _) rfl fun v1 k1 h₂ tk₂ r1 I1 _ t₂ => ?_)
  obtain ⟨tr, rfl⟩ := r1
  have t₂' : tk₁ ≤ tk₂ := t₂
  refine wpAny_execs_cons (I1.run (s := { s with heap := h₂, toks := tk₂ }) (ℓ' := [.val (.opq (.ref x)), .val (.str raw), .val (.str ⟨#[32]⟩), .val (.str ⟨#[9]⟩), .undef, .undef, .undef, .undef, .undef]) Y0 rfl
    (den_swap2 2 3 rfl rfl (by kernel_rfl) (by kernel_rfl) (fun _ _ => rfl) (fun env h => (congrArg (swappedStores _ _) (env_at h)).trans (by kernel_rfl)) (den_tuple (den_cons (den_clsattr L.w0 (by kernel_rfl) (fun _ => rfl) L.clsS) (den_cons (den_clsattr L.w0 (by kernel_rfl) (fun _ => rfl) L.clsT) den_nil (fun _ => rfl)) (fun _ => rfl))))
    (by show 0 < tk₂; omega) (by kernel_rfl) fun h₃ tk₃ I2 t₃ => ?_)
  have t₃' : tk₂ ≤ tk₃ := t₃
  refine wpAny_execs_cons (I2.run (s := { s with heap := h₃, toks := tk₃ }) (ℓ' := [.val (.opq (.ref x)), .val (.str raw), .val (.str ⟨#[32]⟩), .val (.str ⟨#[9]⟩), .own [], .undef, .undef, .undef, .undef]) Y0 rfl
    (den_assignO 4 rfl (by kernel_rfl) (fun _ _ => rfl) (den_listN den_nil)) (by show 0 < tk₃; omega) rfl fun h₄ tk₄ I3 t₄ => ?_)
  have t₄' : tk₃ ≤ tk₄ := t₄
  refine wpAny_execs_cons (I3.run (s := { s with heap := h₄, toks := tk₄ }) (ℓ' := wsL (.ref x) raw ⟨[], 0, 0, 0⟩ .undef) Y0 rfl
    (den_chain3 5 6 7 rfl rfl rfl (by kernel_rfl) (by kernel_rfl) (by kernel_rfl) (fun _ _ => rfl) den_int) (by show 0 < tk₄; omega) (by kernel_rfl) fun h₅ tk₅ I4 t₅ => ?_)
  have t₅' : tk₄ ≤ tk₅ := t₅
  have hlen : raw.cps.toList.length ≤ 400 := by rw [Array.length_toList]; exact hz
  obtain ⟨ch', hch, hloop⟩ := loop_at (.ref x) raw raw.cps.toList ⟨[], 0, 0, 0⟩ .undef hc (by show 0 + _ ≤ 900; omega) (by show 0 + _ ≤ 900; omega) (by show 0 + 1 + _ ≤ 901; omega)
  refine wpAny_execs_cons (I4.loop (s := { s with heap := h₅, toks := tk₅ }) 8 L Y0 rfl (by show 0 < tk₅; omega) rfl rfl rfl (by kernel_rfl) (fun _ _ => rfl) rfl rfl (by
      rw [← Array.all_toList, List.all_eq_true]; intro c h; rcases hc c h with rfl | rfl <;> rfl) (by omega) (d_initbody L.w0) hloop fun h₆ tk₆ I5 t₆ => ?_)
  have t₆' : tk₅ ≤ tk₆ := t₆
  generalize hw : (⟨[], 0, 0, 0⟩ : Wc).run raw.cps.toList = w at I5
  have hcn : noAl (wsL (.ref x) raw w ch') = true := by
    rcases hch with rfl | ⟨m, rfl⟩ <;> rfl
  refine wpAny_execs_cons (I5.set (s := { s with heap := h₆, toks := tk₆ }) L Y0 hcn (by show 0 < tk₆; omega) rfl rfl (den_nameE 6 rfl rfl rfl) (m := fi w.n) rfl (.tail _ (.head _)) rfl rfl (Nat.le_of_ble_eq_true rfl) rfl fun v2 k2 h₇ tk₇ r2 I6 _ t₇ => ?_)
  have t₇' : tk₆ ≤ tk₇ := t₇
  obtain ⟨t2, hv2, _⟩ := r2
  subst hv2
  refine wpAny_execs_cons (I6.set (s := { s with heap := h₇, toks := tk₇ }) L Y0 hcn (by show 0 < tk₇; omega) rfl rfl (den_nameE 7 rfl rfl rfl) (m := fi w.nt) rfl (.tail _ (.tail _ (.head _))) rfl rfl (Nat.le_of_ble_eq_true rfl) rfl fun v3 k3 h₈ tk₈ r3 I7 _ t₈ => ?_)
  have t₈' : tk₇ ≤ tk₈ := t₈
  obtain ⟨t3, hv3, _⟩ := r3
  subst hv3
  have hcl : w.count.length ≤ 400 := by
    rw [← hw]; exact (run_bound 400 raw.cps.toList ⟨[], 0, 0, 0⟩ (by show 0 + _ ≤ 400; omega) (by show 0 + _ ≤ 400; omega)).1
  have hl : lenFF (nameA 4) (wsL (.ref x) raw w ch') = some (w.count.length : Int) := by
    show (if szOK (w.count.map fi) then some (((w.count.map fi).length : Nat) : Int) else none) = _
    rw [if_pos (szOK_map (by omega)), List.length_map]
  have htup : tupleF [.pla (w.count.map fi)] = some (.tup (w.count.map fi)) := by
    unfold tupleF; dsimp only; rw [if_pos (szOK_map (by omega))]
  refine wpAny_execs_cons (I7.set (s := { s with heap := h₈, toks := tk₈ }) L Y0 hcn (by show 0 < tk₈; omega) rfl rfl
    (den_tuple (den_cons (den_call L.w0.O (by kernel_rfl) rfl L.bTuple (.inr (.inl ⟨_, rfl⟩)) (fun _ _ => ⟨_, _, rfl, rfl⟩) (den_consA (den_nameA 4 rfl rfl rfl) den_nilA (fun _ => rfl)) (ok_tuple W.w0 _)) (den_cons (den_nameE 5 rfl rfl rfl) den_nil (fun _ => rfl)) (fun _ => rfl)))
    (m := .tup [.tup (w.count.map fi), fi w.b]) ?_ (.tail _ (.tail _ (.tail _ (.head _)))) rfl rfl (Nat.le_of_ble_eq_true rfl) rfl fun v4 k4 h₉ tk₉ r4 I8 _ t₉ => ?_)
  · have e : cons2 (callF (cons2 (nameA 4) nilF) tupleF) (cons2 (nameE 5) nilF) (wsL (.ref x) raw w ch') = some [.tup (w.count.map fi), fi w.b] := cons2_eq (callF_eq rfl htup) rfl
    exact (congrArg (fun z => (z.bind fits).map MV.tup) e).trans rfl
  have t₉' : tk₈ ≤ tk₉ := t₉
  refine wpAny_execs_cons (I8.set (s := { s with heap := h₉, toks := tk₉ }) L Y0 hcn (by show 0 < tk₉; omega) rfl rfl
    (den_cmp (DenE.toA (DenF.toE (den_lenF L.w0.O (by kernel_rfl) L.bLen (fun _ _ => ⟨_, _, rfl, rfl⟩) (fun _ => rfl) (den_nameA 4 rfl rfl rfl)))) (DenE.toA den_int) (ok_le W.w0) rfl)
    (m := .bool (decide ((w.count.length : Int) ≤ 1))) ?_ (.tail _ (.tail _ (.tail _ (.tail _ (.head _))))) rfl rfl (Nat.le_of_ble_eq_true rfl) rfl fun v5 k5 h' tk' r5 I9 kk t' => ?_)
  · show (bind2 _ _ _ _).map MV.bool = _
    rw [bind2_eq (x := .val (.fint w.count.length)) (y := .val (.fint 1)) (toAF_eq (toIF_eq hl)) rfl]; rfl
  have t'' : tk₉ ≤ tk' := t'
  have kk' : ∀ b o, b ≠ dx → h₉.get? b = some o → h'.get? b = some o := kk
  refine wpAny_execs_nil ?_
  refine q h' tk' ?_ I9.grow (by omega)
  have ew : wsV raw = .ws raw (w.count.map fun (k : Nat) => (k : Int)) w.b w.n w.nt := by unfold wsV wsOf; rw [hw]
  have r4' : VR (fun a => h0.get? a = none) h' tk' (.tup [.tup (w.count.map fi), fi w.b]) v4 := VR.mono (P := fun a => h0.get? a = none ∧ a ≠ dx) (fun a p => p.1) (fun b o p e => kk' b o p.2 e) t'' r4
  obtain ⟨tu, vs, hv4, ptu, htu, vc, r', e1, ⟨cu, us, hcu, pcu, hus, rints⟩, vb, r'', e2, ⟨t4, hvb, _⟩, e3⟩ := r4'
  have e3' : r'' = [] := e3
  subst hv4 hcu hvb
  have hv5 : v5 = .bool (decide ((w.count.length : Int) ≤ 1)) := r5
  subst hv5
  rw [ew]
  show WsAt wsC _ h' raw _ _ _ _ (.ref x)

  refine ⟨x, dx, _, _, rfl, h0x, h0d, I9.inst, I9.dict, tr, t2, t3, tu, cu, vs, us, t4, PyData.keyHash W.w.params "raw", PyData.keyHash W.w.params "n", PyData.keyHash W.w.params "nt", PyData.keyHash W.w.params "norm", PyData.keyHash W.w.params "is_simple", k1, k2, k3, k4, k5, ptu, pcu, ?_, htu, by rw [e1, e2, e3'], hus, ints_fi rints⟩
  have eb : decide ((w.count.length : Int) ≤ 1) = decide ((w.count.map fun (k : Nat) => (k : Int)).length ≤ 1) := by
    rw [List.length_map]; exact decide_eq_decide.mpr (by omega)
  rw [← eb]
  rfl
end
end Mine
end
section
open PySem PySem.W PyProof.Rows PySem.Calls
set_option Elab.async false
set_option linter.unusedVariables false
set_option linter.unusedSimpArgs false
set_option maxRecDepth 100000
namespace Mine
section
variable {W : Wd} {n : Nat} {C : Scope} {sl : List Str}
theorem tc_w (C : Addr) (rest : List Value) (kw) : (Code.builtin "type.__call__" ⟨.ref C :: rest, kw⟩).weight = 1 := by
  unfold Code.weight
  have h1 : (Code.builtin "type.__call__" ⟨.ref C :: rest, kw⟩).isGuard = false := by
    show PySem.guardIds.contains "type.__call__" = false
    decide +kernel
  rw [h1]; rfl
theorem tc_u (C : Addr) (rest : List Value) (kw) : (Code.builtin "type.__call__" ⟨.ref C :: rest, kw⟩).cUnits = 1 := rfl
theorem under_tc (A : Around) (C : Addr) (rest : List Value) (kw) : (A.under (.builtin "type.__call__" ⟨.ref C :: rest, kw⟩)).handled = A.handled ∧ (A.under (.builtin "type.__call__" ⟨.ref C :: rest, kw⟩)).depth = A.depth + 1 ∧
    (A.under (.builtin "type.__call__" ⟨.ref C :: rest, kw⟩)).units = A.units + 1 ∧ (A.under (.builtin "type.__call__" ⟨.ref C :: rest, kw⟩)).frames = A.frames := by
  refine ⟨rfl, ?_, ?_, rfl⟩
  · show A.depth + _ = _
    rw [tc_w]
  · show A.units + _ = _
    rw [tc_u]
noncomputable abbrev wsFF (f : MF) : MF := fun ℓ => match f ℓ with
  | some (.str raw) => wsF raw
  | _ => none
theorem den_ws (L : Law W) {np pos : Pos} {e : Expr} {f : MF} (hx : C.names.lookup ("Whitespace" : Str) = some .globalImplicit) (h1 : OneArg [e]) (hs : ∀ env, starEach [e] env = (false, eval e env) :: starEach [] env) (D : DenE W (n + 2) C sl e f) :
    DenE W (n + 2) C sl (.Call (.Name "Whitespace" np) [e] [] pos) (wsFF f) := by
  intro A env P ℓ s m E Q X R hm q
  unfold wsFF at hm
  split at hm
  case h_2 => cases hm
  rename_i raw hf
  unfold wsF at hm
  split at hm
  case isFalse => cases hm
  rename_i hok
  cases hm
  refine Call_Name (trees := backTo pos (starEach [e] env)) rfl (load_g L.O X hx (by decide) L.nWs ?_)
  show wpAny _ _ (callWith pos (.ref wsC) [] (backTo pos (starEach [e] env)) (backToKw pos (keywordEach [] env))) _ _ _
  refine callWith_KW (h₀ := W.hB) L.KC.inB L.keepW rfl ?_ (by rw [hs]; rfl) (hs env)
  have htr : backTo pos (starEach [e] env) = [(false, eval e env)] := by rw [hs]; rfl
  rw [htr]
  refine spliced_cons (D X R hf fun v h₁ tk₁ g t r => spliced_nil (kwAll_nil ⟨fun b o e => X.base.trans g b o (L.KC.inB b o e), ?_⟩))
  obtain ⟨tr, rfl⟩ := r
  have g' : Grow s.heap h₁ := g
  have t' : s.toks ≤ tk₁ := t
  have X1 := X.grow g' t'
  have hK : L.K.In h₁ := fun b o e => X1.base b o (L.KC.inB b o e)
  obtain ⟨out, hfr, hff⟩ := X1.frames
  refine wpAny_call ?_
  refine make_core (C := wsC) (init := .ref L.aInit) (rest := [.str raw tr]) (kw := []) (h := h₁) (g := s.gens) (d := s.drawn) (t := tk₁) (os := s.os) (makes_of hK L.makes) (looks_findIn hK L.init) (fun self => bind_fn hK self L.initT) (.inl rfl) ?_
  obtain ⟨u1, u2, u3, u4⟩ := under_tc A wsC [.str raw tr] []
  generalize A.under (.builtin "type.__call__" ⟨.ref wsC :: [.str raw tr], []⟩) = A1 at u1 u2 u3 u4 ⊢
  have gg : Grow h₁ ((h₁.push emptyDict).push (instObj wsC h₁.objs.size)) := (Grow.push _ _).trans (Grow.push _ _)
  have Xc : Cs W (n + 1) A1 ((h₁.push emptyDict).push (instObj wsC h₁.objs.size)) tk₁ :=
    ⟨X1.base.trans gg, X1.tok, u1.trans X1.handled, by have := X1.depth; rw [u2]; omega, by have := X1.units; rw [u3]; omega, out, u4.trans hfr, funFrames_grow gg hff⟩
  refine init_run (n := n) (s := ⟨(h₁.push emptyDict).push (instObj wsC h₁.objs.size), s.gens, s.drawn, tk₁, s.os⟩) (x := h₁.objs.size + 1) (dx := h₁.objs.size) (h0 := h₁) (out := out) L gg ?_ ?_ (Heap.get?_none_of_le (Nat.le_succ _)) (Heap.get?_none_of_le (Nat.le_refl _)) Xc X1.base (u4.trans hfr) hff hok.1 (fun c hc => ?_) fun h' tk' r2 g2 t2 => ?_
  · exact (by heap_get : ((h₁.push emptyDict).push (instObj wsC h₁.objs.size)).get? (h₁.objs.size + 1) = some (instObj wsC h₁.objs.size))
  · exact Heap.get?_push_of_some _ (Heap.get?_push_size _ rfl)
  · have := List.all_eq_true.mp hok.2 c hc
    simpa using this
  · refine ⟨rfl, ?_⟩
    have t2' : tk₁ ≤ tk' := t2
    exact q _ h' tk' (g'.trans g2) (Nat.le_trans t' t2') (r2.sub fun a p => .inr (Grow.none g' p))
end
end Mine
end
section
open PySem PySem.W PyProof.Rows PySem.Calls
set_option Elab.async false
set_option linter.unusedVariables false
set_option linter.unusedSimpArgs false
set_option maxRecDepth 100000
namespace Mine

noncomputable def G__law_lead : SF :=
  (seqS (retF (wsFF (replFF "." " " (replFF "\r\n" "\t" (callF (cons2 (nameA 0) nilF) F__fix_eols))))) nextF)
theorem d__law_lead {W : Wd} {n : Nat} (L : Law W) : DenS W (n + 2) (recAt 23).scope ["mail"] (recAt 23).body G__law_lead := 
  (den_seq (den_return (den_ws L (by kernel_rfl) (fun _ _ => ⟨_, _, rfl, rfl⟩) (fun _ => rfl) (den_replace (fun _ => rfl) few2 rfl (by kernel_rfl) (den_replace (fun _ => rfl) few2 rfl (by kernel_rfl) (den_call L.O (by kernel_rfl) rfl L.nFix L.fFix.form (fun _ _ => ⟨_, _, rfl, rfl⟩) (den_consA (den_nameA 0 rfl rfl rfl) den_nilA (fun _ => rfl)) (c__fix_eols L)))))) den_done)
noncomputable def F__law_lead : List LV → Option MV := defF 1 G__law_lead 0
theorem c__law_lead {W : Wd} {n : Nat} (L : Law W) : CallOK W (n + 3) (.ref L.aLead) F__law_lead :=
  fn_ok (ps := ["mail"]) (sl := ["mail"]) L.O L.fLead (by kernel_rfl) rfl (fun _ _ _ vs h => by obtain ⟨v0, rfl⟩ := one_of h; rfl) (d__law_lead L.w0)

end Mine
end
section
open PySem PySem.W PyProof.Rows PySem.Calls
set_option Elab.async false
set_option linter.unusedVariables false
set_option linter.unusedSimpArgs false
set_option maxRecDepth 100000
namespace Mine
noncomputable def Wd.at (W : Wd) (N : AP) : Wd := { W with N := N, full := true }
section
variable {W : Wd} {n : Nat} {C : Scope} {sl : List Str}
theorem SRel.toN {hE : Heap} {P0 P X : AP} {μ : Nat → Addr} {env : Env} {ℓ : List LV} {h : Heap} {T : Nat} {N : AP} (S : SRel W.w0 hE P0 P X μ env sl ℓ h T) (hn : noAl ℓ = true) (hPN : ∀ a, P a → ¬ N a) (hNE : ∀ a, N a → ∃ o, hE.get? a = some o) (hNB : ∀ a, N a → W.hB.get? a = none) :
    SRel (W.at N) hE P0 P X μ env sl ℓ h T :=
  { slot := fun i x lv e q => by
      rcases S.slot i x lv e q with u | ⟨v, a, b, c⟩
      · exact .inl u
      · refine .inr ⟨v, a, b, ?_⟩
        have := List.all_eq_true.mp hn lv (List.mem_of_getElem? q)
        cases lv with
        | undef => exact c
        | val => exact c
        | own => exact c
        | ali => cases this
        | pla => cases this
    apart := S.apart
    frm := S.frm
    cel := S.cel
    capart := S.capart
    PX := S.PX
    XE := S.XE
    PE := S.PE
    grow := fun b o e => ⟨fun _ => (S.grow b o e).1 fun f => f, (S.grow b o e).2⟩
    PN := hPN
    NE := hNE
    NB := hNB
    live := S.live
    nd := S.nd
    len := S.len }
/-- what _law_read_back gives back -/
noncomputable def F_back (m : MV) : Option MV := match G__law_read_back (initL [.val m] 5) with
  | some (.ret r) => some r
  | _ => none
noncomputable def ifBack (fa fb : MF) (g1 g2 : SF) : SF := fun ℓ => match fa ℓ with
  | some m => (match F_back m with
    | some r => (match fb ℓ with
      | some r2 => (match eqF (.val r) (.val r2) with
        | some true => g2 ℓ
        | some false => g1 ℓ
        | none => none)
      | none => none)
    | none => none)
  | none => none
theorem den_ifback (L : Law W) (hfull : W.full = true) {np cp pp pos : Pos} {e rhs : Expr} {body orelse : List Stmt} {fa fb : MF} {g1 g2 : SF} (hx : C.names.lookup ("_law_read_back" : Str) = some .globalImplicit) (h1 : OneArg [e]) (hs : ∀ env, starEach [e] env = (false, eval e env) :: starEach [] env)
    (hm : behindInMarks .NotEq rhs = false) (D1 : DenE W (n + 3) C sl e fa) (D2 : DenE W (n + 3) C sl rhs fb) (B1 : DenS W (n + 3) C sl body g1) (B2 : DenS W (n + 3) C sl orelse g2) :
    DenX W (n + 3) C sl (.If (.Compare (.Call (.Name "_law_read_back" np) [e] [] cp) [.NotEq] [rhs] pp) body orelse pos) (ifBack fa fb g1 g2) := by
  intro A env hE P0 P X μ ℓ s out E Q Y S ht hg q
  unfold ifBack at hg
  split at hg
  case h_2 => cases hg
  rename_i m hfa
  split at hg
  case h_2 => cases hg
  rename_i r hr
  split at hg
  case h_2 => cases hg
  rename_i r2 hfb
  unfold F_back at hr
  split at hr
  case h_2 => cases hr
  rename_i r' hG
  cases hr
  have X0 := S.cx Y ht
  refine wpAny_If (wpAny_isTrue_Compare1 ?_ hm)
  refine Call_Name (trees := backTo cp (starEach [e] env)) rfl (load_g L.O X0 hx (by decide) L.nBack (call_form X0 L.fBack.form h1 ?_))
  have htr : backTo cp (starEach [e] env) = [(false, eval e env)] := by rw [hs]; rfl
  rw [htr]
  refine spliced_cons (D1 X0 S.toL hfa fun v h₁ tk₁ g₁ t₁ rv => spliced_nil ⟨g₁, ?_⟩)
  have g₁' : Grow s.heap h₁ := g₁
  have t₁' : s.toks ≤ tk₁ := t₁
  have S1 := S.pf g₁' t₁'
  have X1 := X0.grow g₁' t₁'
  obtain ⟨out', hfr, hffE⟩ := Y.frames
  have hN : ∀ b, onStack (env :: out') b → b = env.locals ∨ W.N b := fun b hb => by
    unfold onStack at hb
    rw [List.filterMap_cons, Y.frame] at hb
    rcases List.mem_cons.mp hb with e | e
    · exact .inl e
    · exact .inr (Y.outer hfull out' hfr b e)
  refine fn_enter (d := recAt 25) (n := n + 2) (k := 5) (ps := ["counts"]) (sl := ["counts", "dots", "size", "figures", "taken", "found"]) (lvs := [.val m]) (s := { s with heap := h₁, toks := tk₁ }) L.O L.fBack (by kernel_rfl) rfl (fun _ _ _ vs h => by obtain ⟨v0, rfl⟩ := one_of h; rfl)
    X1.cs (.cons (show LR (PF P s.heap) _ _ (.val m) _ from rv) .nil) rfl fun env' h₂ tk₂ X' Y' S' t₂ => ?_
  have t₂' : tk₁ ≤ tk₂ := t₂
  have hNE : ∀ a, onStack (env :: out') a → ∃ o, h₁.get? a = some o := fun a ha => by
    rcases hN a ha with rfl | ha
    · exact S1.live _ S1.frm.1
    · obtain ⟨o, e⟩ := S.NE a ha
      obtain ⟨s2, e2⟩ := (S1.grow a o e).2
      exact ⟨_, e2⟩
  have hNB : ∀ a, onStack (env :: out') a → W.hB.get? a = none := fun a ha => by
    rcases hN a ha with rfl | ha
    · cases e : W.hB.get? env.locals with
      | none => rfl
      | some o => have := Y.baseE _ _ e; rw [S.XE _ S.frm.1] at this; cases this
    · exact S.NB a ha
  have hPN : ∀ a, (PF P s.heap) a → ¬ onStack (env :: out') a := fun a p ha => by
    rcases hN a ha with rfl | ha
    · exact S1.PX _ p S.frm.1
    · exact S1.PN _ p ha
  have SN := S'.toN (N := onStack (env :: out')) rfl (fun a p => hPN a p.1) hNE hNB
  have outer' : (W.at (onStack (env :: out'))).full = true → ∀ out2, (A.deeper env').frames = some (env' :: out2) → ∀ b ∈ out2.filterMap (·.frame), (W.at (onStack (env :: out'))).N b := by
    intro _ out2 e2 b hb
    have e3 : (A.deeper env').frames = some (env' :: env :: out') := by show A.frames.map _ = _; rw [hfr]; rfl
    rw [e3] at e2
    cases e2
    exact hb
  have YN : Sx (W.at (onStack (env :: out'))) (n + 2) (recAt 25).scope (A.deeper env') env' h₁ := { Y' with outer := outer' }
  refine d__law_read_back (L.at (onStack (env :: out')) true) rfl (s := { s with heap := h₂, toks := tk₂ }) YN SN (Nat.lt_of_lt_of_le X1.tok t₂') hG fun v' h₃ tk₃ r3 g3 t₃ => ?_
  have t₃' : tk₂ ≤ tk₃ := t₃
  have g3' : GrowN (onStack (env :: out')) h₁ h₃ := g3
  have S2 : SRel W hE P0 (PF P s.heap) X μ env sl ℓ h₃ tk₃ := S1.noted (fun b o n1 n2 e => (g3' b o e).1 fun hb => by
    rcases hN b hb with q | q
    · exact n1 q
    · exact n2 q) (fun b o e => (g3' b o e).2) (Nat.le_trans t₂' t₃')
  have ht3 : 0 < tk₃ := by omega
  have X2 := S2.cx Y ht3
  refine D2 (s := { s with heap := h₃, toks := tk₃ }) X2 S2.toL hfb fun vb h₄ tk₄ g₄ t₄ rb => ?_
  have t₄' : tk₃ ≤ tk₄ := t₄
  have g₄' : Grow h₃ h₄ := g₄
  have ra : LR (fun _ => True) h₄ tk₄ (.val r) v' := (VR.sub (fun _ _ => trivial) r3 : VR (fun _ => True) h₃ tk₃ r v').grow g₄' t₄'
  have rb' : LR (fun _ => True) h₄ tk₄ (.val r2) vb := VR.sub (P' := fun _ => True) (fun _ _ => trivial) rb
  have S3 := S2.step g₄' t₄'
  have k14 : ∀ b o, ¬ X b → ¬ W.N b → s.heap.get? b = some o → h₄.get? b = some o := fun b o nb nn e => g₄' b o ((g3' b o (g₁' b o e)).1 fun hb => by
    rcases hN b hb with q | q
    · exact nb (q ▸ S.frm.1)
    · exact nn q)
  have nl : ∀ b, W.N b → ∃ o, h₄.get? b = some o := fun b nb => by
    obtain ⟨o, e⟩ := S.NE b nb
    obtain ⟨s2, e2⟩ := (S3.grow b o e).2
    exact ⟨_, e2⟩
  cases hc : eqF (.val r) (.val r2) with
  | none => rw [hc] at hg; cases hg
  | some c =>
    rw [hc] at hg
    have hcm : neF (.val r) (.val r2) = some (!c) := by show (eqF _ _).map _ = _; rw [hc]; rfl
    refine ok_ne W (s := { s with heap := h₄, toks := tk₄ }) Y.handled (by have := Y.units; omega) ra rb' hcm (wpAny_truthy_bool ?_)
    have post : Post W hE P0 X env sl { s with heap := h₄, toks := tk₄ } Q out := q.after (by omega) nl k14 (fun a x => .inl x)
    cases c with
    | true =>
      rw [if_neg (by decide)]
      exact B2 (s := { s with heap := h₄, toks := tk₄ }) Y S3 (by show 0 < tk₄; omega) hg post
    | false =>
      rw [if_pos (by decide)]
      exact B1 (s := { s with heap := h₄, toks := tk₄ }) Y S3 (by show 0 < tk₄; omega) hg post
end
end Mine
end
section
open PySem PySem.W PyProof.Rows PySem.Calls
set_option Elab.async false
set_option linter.unusedVariables false
set_option linter.unusedSimpArgs false
set_option maxRecDepth 100000
namespace Mine

noncomputable def B_law_1 : SF :=
  (seqS (setV 13 (bind2 addF (toAF (bind2 mulAll (toAF (bind2 itemS (nameA 2) (toAF (bind2 subIF (nameA 12) (toAF (litF (.fint 1))))))) (toAF (bind2 addF (nameA 12) (toAF (litF (.fint 1))))))) (toAF (callF (cons2 (toAF (toLF (sliceF (nameA 2) (partF (nameA 12)) part0F part0F))) nilF) sumF)))) (seqS (setV 14 (bind2 addF (toAF (bind2 addF (toAF (bind2 mulAll (toAF (toLF (fitF (cons2 (litF (.fint 1)) nilF)))) (nameA 12))) (toAF (toLF (fitF (cons2 (negF (nameE 12)) nilF)))))) (toAF (bind2 mulAll (toAF (toLF (fitF (cons2 (litF (.fint 0)) nilF)))) (toAF (bind2 subIF (toAF (toIF (lenFF (nameA 2)))) (nameA 12))))))) (seqS (ifM (bind2 neF (toAF (callF (cons2 (nameA 6) (cons2 (nameA 14) nilF)) F__law_given_back)) (toAF (toLF (compV (iterF (nameA 14)) trueTF (bind2 mulAll (nameA 1) (nameA 0)) [13])))) (seqS (retF (litF (.bool false))) nextF) nextF) (seqS (appF 11 (nameE 13)) nextF))))
noncomputable def B_law_2 : SF :=
  (seqS (ifM (bind2 neF (toAF (methF (nameE 10) (cons2 (nameA 16) nilF) F_indent_level)) (toAF (bind2 mulAll (nameA 16) (toAF (bind2 addF (toAF (toIF (lenFF (nameA 7)))) (toAF (callF (cons2 (toAF (toLF (sliceF (nameA 15) (partF (toAF (bind2 subIF (nameA 16) (toAF (litF (.fint 1)))))) part0F (partF (nameA 16))))) nilF) sumF))))))) (seqS (retF (litF (.bool false))) nextF) nextF) nextF)
noncomputable def B_law_3 : SF :=
  (seqS (setO 20 (compV (iterF (toAF (toLF (fitF (cons2 (nameE 7) (cons2 (nameE 17) nilF)))))) trueTF (callF (cons2 (toAF (toLF (compV (iterF (nameA 0)) trueTF (bind2 addF (toAF (bind2 mulAll (toAF (bind2 divIF (toAF (bind2 addF (nameA 0) (toAF (litF (.fint 1))))) (nameA 1))) (nameA 1))) (nameA 1)) [1]))) nilF) sumF) [16])) (freezeF 20 (seqS (ifM (bind2 neF (toAF (bind2 itemS (nameA 20) (toAF (litF (.fint 0))))) (toAF (bind2 itemS (nameA 20) (toAF (litF (.fint 1)))))) (seqS (appF 19 (tupF (cons2 (nameE 16) (cons2 (bind2 itemS (nameA 20) (toAF (litF (.fint 0)))) (cons2 (bind2 itemS (nameA 20) (toAF (litF (.fint 1)))) nilF))))) nextF) nextF) nextF)))
noncomputable def Q_law_21 : SF :=
  (forF 16 (rangF (cons2 (toAF (litF (.fint 1))) (cons2 (toAF (bind2 addF (toAF (callF (cons2 (toAF (bind2 addF (nameA 7) (nameA 17))) nilF) maxF)) (toAF (litF (.fint 3))))) nilF))) B_law_3)
noncomputable def T_law_21 : SF :=
  (seqS Q_law_21 (freezeF 19 (seqS (retF (toBF (bind2 eqF (toAF (methF (nameE 10) (cons2 (nameA 18) nilF) F_not_equal_witness)) (nameA 19)))) nextF)))
noncomputable def Q_law_20 : SF :=
  (setO 19 (fitF nilF))
noncomputable def T_law_20 : SF :=
  (seqS Q_law_20 T_law_21)
noncomputable def Q_law_19 : SF :=
  (ifM (bind2 isNotF (toAF (methF (nameE 10) (cons2 (nameA 18) nilF) F_equal)) (toAF (toBF (bind2 eqF (nameA 2) (nameA 5))))) (seqS (retF (litF (.bool false))) nextF) nextF)
noncomputable def T_law_19 : SF :=
  (seqS Q_law_19 T_law_20)
noncomputable def Q_law_18 : SF :=
  (setV 18 (callF (cons2 (toAF (callF (cons2 (nameA 5) (cons2 (toAF (bind2 mulAll (toAF (toLF (fitF (cons2 (litF (.fint 0)) nilF)))) (toAF (toIF (lenFF (nameA 5)))))) (cons2 (nameA 4) nilF))) F__law_mail)) nilF) F__law_lead))
noncomputable def T_law_18 : SF :=
  (seqS Q_law_18 T_law_19)
noncomputable def Q_law_17 : SF :=
  (setO 17 (compV (iterF (toAF (callF (cons2 (nameA 5) nilF) F__law_hands))) trueTF (callF (cons2 (nameA 0) nilF) sumF) []))
noncomputable def T_law_17 : SF :=
  (seqS Q_law_17 (freezeF 17 T_law_18))
noncomputable def Q_law_16 : SF :=
  (forF 16 (rangF (cons2 (toAF (litF (.fint 1))) (cons2 (toAF (bind2 addF (toAF (toIF (lenFF (nameA 7)))) (toAF (litF (.fint 2))))) nilF))) B_law_2)
noncomputable def T_law_16 : SF :=
  (seqS Q_law_16 T_law_17)
noncomputable def Q_law_15 : SF :=
  (setV 15 (bind2 addF (toAF (toLF (fitF (cons2 (toIF (lenFF (nameA 7))) nilF)))) (toAF (toLF (sliceF (toAF (toLF (callF (cons2 (nameA 11) nilF) sortedF))) part0F part0F (partF (toAF (negF (litF (.fint 1))))))))))
noncomputable def T_law_15 : SF :=
  (seqS Q_law_15 T_law_16)
noncomputable def Q_law_14 : SF :=
  (forF 12 (rangF (cons2 (toAF (litF (.fint 1))) (cons2 (toAF (toIF (lenFF (nameA 7)))) nilF))) B_law_1)
noncomputable def T_law_14 : SF :=
  (seqS Q_law_14 T_law_15)
noncomputable def Q_law_13 : SF :=
  (setO 11 (fitF nilF))
noncomputable def T_law_13 : SF :=
  (seqS Q_law_13 T_law_14)
noncomputable def Q_law_12 : SF :=
  (ifBack (bind2 itemS (toAF (attrFF "norm" (nameE 10))) (toAF (litF (.fint 0)))) (tupF (cons2 (nameE 2) (cons2 (callF (cons2 (nameA 6) (cons2 (nameA 2) nilF)) F__law_ahead) (cons2 (toLF (fitF (cons2 (litF (.fint 1)) nilF))) nilF)))) (seqS (retF (litF (.bool false))) nextF) nextF)
noncomputable def T_law_12 : SF :=
  (seqS Q_law_12 T_law_13)
noncomputable def Q_law_11 : SF :=
  (setV 10 (callF (cons2 (nameA 8) nilF) F__law_lead))
noncomputable def T_law_11 : SF :=
  (seqS Q_law_11 T_law_12)
noncomputable def Q_law_10 : SF :=
  (ifM (bind2 neF (toAF (callF (cons2 (nameA 8) nilF) F_quotedata)) (toAF (joinFF "" (toAF (toLF (compV (iterF (nameA 9)) trueTF (bind2 addF (toAF (litF (.str "."))) (nameA 0)) [])))))) (seqS (retF (litF (.bool false))) nextF) nextF)
noncomputable def T_law_10 : SF :=
  (seqS Q_law_10 T_law_11)
noncomputable def Q_law_9 : SF :=
  (ifM (bind2 neF (toAF (callF (cons2 (nameA 8) nilF) F__fix_eols)) (toAF (joinFF "" (nameA 9)))) (seqS (retF (litF (.bool false))) nextF) nextF)
noncomputable def T_law_9 : SF :=
  (seqS Q_law_9 T_law_10)
noncomputable def Q_law_8 : SF :=
  (setO 9 (compV (iterF (toAF (callF (cons2 (nameA 3) nilF) F__law_order))) trueTF (bind2 addF (toAF (bind2 mulAll (toAF (litF (.str "."))) (toAF (bind2 addF (toAF (bind2 itemS (nameA 1) (nameA 0))) (toAF (litF (.fint 1))))))) (toAF (litF (.str "\r\n")))) [7]))
noncomputable def T_law_8 : SF :=
  (seqS Q_law_8 (freezeF 9 T_law_9))
noncomputable def Q_law_7 : SF :=
  (setV 8 (callF (cons2 (nameA 2) (cons2 (nameA 3) (cons2 (nameA 4) nilF))) F__law_mail))
noncomputable def T_law_7 : SF :=
  (seqS Q_law_7 T_law_8)
noncomputable def Q_law_6 : SF :=
  (setO 7 (compV (iterF (nameA 6)) trueTF (callF (cons2 (nameA 0) nilF) sumF) []))
noncomputable def T_law_6 : SF :=
  (seqS Q_law_6 (freezeF 7 T_law_7))
noncomputable def Q_law_5 : SF :=
  (setV 6 (callF (cons2 (nameA 2) nilF) F__law_hands))
noncomputable def T_law_5 : SF :=
  (seqS Q_law_5 T_law_6)
noncomputable def Q_law_4 : SF :=
  (setO 5 (compV (iterF (nameA 1)) trueTF (ifM (bind2 eqF (toAF (bind2 modIF (toAF (bind2 divIF (nameA 0) (toAF (litF (.fint 12))))) (toAF (litF (.fint 4))))) (toAF (litF (.fint 3)))) (bind2 subIF (toAF (litF (.fint 1))) (toAF (bind2 modIF (nameA 0) (toAF (litF (.fint 2)))))) (bind2 modIF (nameA 0) (toAF (litF (.fint 2))))) []))
noncomputable def T_law_4 : SF :=
  (seqS Q_law_4 (freezeF 5 T_law_5))
noncomputable def Q_law_3 : SF :=
  (setO 4 (compV (iterF (nameA 1)) trueTF (bind2 itemS (toAF (toLF (fitF (cons2 (litF (.str "\n")) (cons2 (litF (.str "\r")) (cons2 (litF (.str "\r\n")) nilF)))))) (toAF (bind2 modIF (toAF (bind2 divIF (nameA 0) (toAF (litF (.fint 4))))) (toAF (litF (.fint 3)))))) []))
noncomputable def T_law_3 : SF :=
  (seqS Q_law_3 (freezeF 4 T_law_4))
noncomputable def Q_law_2 : SF :=
  (setO 3 (compV (iterF (nameA 1)) trueTF (bind2 modIF (toAF (bind2 divIF (nameA 0) (toAF (litF (.fint 2))))) (toAF (litF (.fint 2)))) []))
noncomputable def T_law_2 : SF :=
  (seqS Q_law_2 (freezeF 3 T_law_3))
noncomputable def Q_law_1 : SF :=
  (setO 2 (compV (iterF (nameA 1)) trueTF (bind2 modIF (nameA 0) (toAF (litF (.fint 2)))) []))
noncomputable def T_law_1 : SF :=
  (seqS Q_law_1 (freezeF 2 T_law_2))
noncomputable def Q_law_0 : SF :=
  (setV 1 (callF (cons2 (nameA 0) nilF) F__law_heaps))
noncomputable def T_law_0 : SF :=
  (seqS Q_law_0 T_law_1)
noncomputable def G_law : SF :=
  T_law_0
theorem d_law {W : Wd} {n : Nat} (L : Law W) (hfull : W.full = true) : DenS W (n + 4) (recAt 28).scope ["script", "heaps", "figures", "places", "ends", "others", "hands", "shaken", "mail", "rows", "lead", "multipliers", "guest", "multiplier", "held", "spans", "size", "strangers", "other", "told", "columns"] (recAt 28).body G_law := 
  (den_seq (g := Q_law_0) (den_assign 1 rfl (by kernel_rfl) (fun _ _ => rfl) (den_call L.O (by kernel_rfl) rfl L.nHeaps L.fHeaps.form (fun _ _ => ⟨_, _, rfl, rfl⟩) (den_consA (den_nameA 0 rfl rfl rfl) den_nilA (fun _ => rfl)) (c__law_heaps L))) (den_seq (g := Q_law_1) (den_assignC 2 [] [] rfl (by kernel_rfl) (fun _ h => sw_any h (by kernel_rfl)) (fun _ _ => rfl) (by kernel_rfl) (den_iterA (den_nameA 1 rfl rfl rfl)) den_noTest (den_bin (den_nameA 0 rfl rfl rfl) (DenE.toA den_int) (ok_mod W))) (den_freeze 2 (den_seq (g := Q_law_2) (den_assignC 3 [] [] rfl (by kernel_rfl) (fun _ h => sw_any h (by kernel_rfl)) (fun _ _ => rfl) (by kernel_rfl) (den_iterA (den_nameA 1 rfl rfl rfl)) den_noTest (den_bin (DenE.toA (den_bin (den_nameA 0 rfl rfl rfl) (DenE.toA den_int) (ok_div W))) (DenE.toA den_int) (ok_mod W))) (den_freeze 3 (den_seq (g := Q_law_3) (den_assignC 4 [] [] rfl (by kernel_rfl) (fun _ h => sw_any h (by kernel_rfl)) (fun _ _ => rfl) (by kernel_rfl) (den_iterA (den_nameA 1 rfl rfl rfl)) den_noTest (den_item (DenE.toA (DenN.toE (den_listN (den_cons den_str (den_cons den_str (den_cons den_str den_nil (fun _ => rfl)) (fun _ => rfl)) (fun _ => rfl))))) (DenE.toA (den_bin (DenE.toA (den_bin (den_nameA 0 rfl rfl rfl) (DenE.toA den_int) (ok_div W))) (DenE.toA den_int) (ok_mod W))) rfl)) (den_freeze 4 (den_seq (g := Q_law_4) (den_assignC 5 [] [] rfl (by kernel_rfl) (fun _ h => sw_any h (by kernel_rfl)) (fun _ _ => rfl) (by kernel_rfl) (den_iterA (den_nameA 1 rfl rfl rfl)) den_noTest (den_ifexp (den_cmpT (DenE.toA (den_bin (DenE.toA (den_bin (den_nameA 0 rfl rfl rfl) (DenE.toA den_int) (ok_div W))) (DenE.toA den_int) (ok_mod W))) (DenE.toA den_int) (ok_eq W) rfl) (den_bin (DenE.toA den_int) (DenE.toA (den_bin (den_nameA 0 rfl rfl rfl) (DenE.toA den_int) (ok_mod W))) (ok_sub W)) (den_bin (den_nameA 0 rfl rfl rfl) (DenE.toA den_int) (ok_mod W)))) (den_freeze 5 (den_seq (g := Q_law_5) (den_assign 6 rfl (by kernel_rfl) (fun _ _ => rfl) (den_call L.O (by kernel_rfl) rfl L.nHands L.fHands.form (fun _ _ => ⟨_, _, rfl, rfl⟩) (den_consA (den_nameA 2 rfl rfl rfl) den_nilA (fun _ => rfl)) (c__law_hands L))) (den_seq (g := Q_law_6) (den_assignO 7 rfl (by kernel_rfl) (fun _ h => sw_any h (by kernel_rfl)) (den_comp [] [] (fun _ _ => rfl) (by kernel_rfl) (den_iterA (den_nameA 6 rfl rfl rfl)) den_noTest (den_call L.O (by kernel_rfl) rfl L.bSum (.inl ⟨_, rfl⟩) (fun _ _ => ⟨_, _, rfl, rfl⟩) (den_consA (den_nameA 0 rfl rfl rfl) den_nilA (fun _ => rfl)) (ok_sum W _)))) (den_freeze 7 (den_seq (g := Q_law_7) (den_assign 8 rfl (by kernel_rfl) (fun _ _ => rfl) (den_call L.O (by kernel_rfl) rfl L.nMail L.fMail.form (fun _ _ => ⟨_, _, rfl, rfl⟩) (den_consA (den_nameA 2 rfl rfl rfl) (den_consA (den_nameA 3 rfl rfl rfl) (den_consA (den_nameA 4 rfl rfl rfl) den_nilA (fun _ => rfl)) (fun _ => rfl)) (fun _ => rfl)) (c__law_mail L))) (den_seq (g := Q_law_8) (den_assignC 9 ["shaken"] [7] rfl (by kernel_rfl) (fun _ h => sw_any h (by kernel_rfl)) (fun _ _ => rfl) (by kernel_rfl) (den_iterA (DenE.toA (den_call L.O (by kernel_rfl) rfl L.nOrder L.fOrder.form (fun _ _ => ⟨_, _, rfl, rfl⟩) (den_consA (den_nameA 3 rfl rfl rfl) den_nilA (fun _ => rfl)) (c__law_order L)))) den_noTest (den_bin (DenE.toA (den_bin (DenE.toA den_str) (DenE.toA (den_bin (DenE.toA (den_item (den_nameA 1 rfl rfl rfl) (den_nameA 0 rfl rfl rfl) rfl)) (DenE.toA den_int) (ok_add W))) (ok_mulAll W))) (DenE.toA den_str) (ok_add W))) (den_freeze 9 (den_seq (g := Q_law_9) (den_if (den_cmpT (DenE.toA (den_call L.O (by kernel_rfl) rfl L.nFix L.fFix.form (fun _ _ => ⟨_, _, rfl, rfl⟩) (den_consA (den_nameA 8 rfl rfl rfl) den_nilA (fun _ => rfl)) (c__fix_eols L))) (DenE.toA (den_join few1 rfl (fun _ _ => ⟨_, _, rfl, rfl⟩) (fun _ => rfl) (den_nameA 9 rfl rfl rfl))) (ok_ne W) rfl) (den_seq (den_return den_bool) den_done) den_done) (den_seq (g := Q_law_10) (den_if (den_cmpT (DenE.toA (den_call L.O (by kernel_rfl) rfl L.nQuote L.fQuote.form (fun _ _ => ⟨_, _, rfl, rfl⟩) (den_consA (den_nameA 8 rfl rfl rfl) den_nilA (fun _ => rfl)) (c_quotedata L))) (DenE.toA (den_join few1 rfl (fun _ _ => ⟨_, _, rfl, rfl⟩) (fun _ => rfl) (DenE.toA (DenN.toE (den_comp [] [] (fun _ _ => rfl) (by kernel_rfl) (den_iterA (den_nameA 9 rfl rfl rfl)) den_noTest (den_bin (DenE.toA den_str) (den_nameA 0 rfl rfl rfl) (ok_add W))))))) (ok_ne W) rfl) (den_seq (den_return den_bool) den_done) den_done) (den_seq (g := Q_law_11) (den_assign 10 rfl (by kernel_rfl) (fun _ _ => rfl) (den_call L.O (by kernel_rfl) rfl L.nLead L.fLead.form (fun _ _ => ⟨_, _, rfl, rfl⟩) (den_consA (den_nameA 8 rfl rfl rfl) den_nilA (fun _ => rfl)) (c__law_lead L))) (den_seq (g := Q_law_12) (den_ifback L hfull (by kernel_rfl) (fun _ _ => ⟨_, _, rfl, rfl⟩) (fun _ => rfl) rfl (den_item (DenE.toA (den_wsattr L.KC (fun _ => rfl) (den_nameE 10 rfl rfl rfl))) (DenE.toA den_int) rfl) (den_tuple (den_cons (den_nameE 2 rfl rfl rfl) (den_cons (den_call L.O (by kernel_rfl) rfl L.nAhead L.fAhead.form (fun _ _ => ⟨_, _, rfl, rfl⟩) (den_consA (den_nameA 6 rfl rfl rfl) (den_consA (den_nameA 2 rfl rfl rfl) den_nilA (fun _ => rfl)) (fun _ => rfl)) (c__law_ahead L)) (den_cons (DenN.toE (den_listN (den_cons den_int den_nil (fun _ => rfl)))) den_nil (fun _ => rfl)) (fun _ => rfl)) (fun _ => rfl))) (den_seq (den_return den_bool) den_done) den_done) (den_seq (g := Q_law_13) (den_assignO 11 rfl (by kernel_rfl) (fun _ _ => rfl) (den_listN den_nil)) (den_seq (g := Q_law_14) (den_for (g := B_law_1) 12 rfl (by kernel_rfl) (fun _ _ => rfl) (den_range L.O (by kernel_rfl) L.bRange (fun _ _ => ⟨_, _, rfl, rfl⟩) (den_consA (DenE.toA den_int) (den_consA (DenE.toA (DenF.toE (den_lenF L.O (by kernel_rfl) L.bLen (fun _ _ => ⟨_, _, rfl, rfl⟩) (fun _ => rfl) (den_nameA 7 rfl rfl rfl)))) den_nilA (fun _ => rfl)) (fun _ => rfl))) (den_seq (den_assign 13 rfl (by kernel_rfl) (fun _ _ => rfl) (den_bin (DenE.toA (den_bin (DenE.toA (den_item (den_nameA 2 rfl rfl rfl) (DenE.toA (den_bin (den_nameA 12 rfl rfl rfl) (DenE.toA den_int) (ok_sub W))) rfl)) (DenE.toA (den_bin (den_nameA 12 rfl rfl rfl) (DenE.toA den_int) (ok_add W))) (ok_mulAll W))) (DenE.toA (den_call L.O (by kernel_rfl) rfl L.bSum (.inl ⟨_, rfl⟩) (fun _ _ => ⟨_, _, rfl, rfl⟩) (den_consA (DenE.toA (DenN.toE (den_slice (den_nameA 2 rfl rfl rfl) (den_part (den_nameA 12 rfl rfl rfl)) den_part0 den_part0))) den_nilA (fun _ => rfl)) (ok_sum W _))) (ok_add W))) (den_seq (den_assign 14 rfl (by kernel_rfl) (fun _ _ => rfl) (den_bin (DenE.toA (den_bin (DenE.toA (den_bin (DenE.toA (DenN.toE (den_listN (den_cons den_int den_nil (fun _ => rfl))))) (den_nameA 12 rfl rfl rfl) (ok_mulAll W))) (DenE.toA (DenN.toE (den_listN (den_cons (den_neg (den_nameE 12 rfl rfl rfl)) den_nil (fun _ => rfl))))) (ok_add W))) (DenE.toA (den_bin (DenE.toA (DenN.toE (den_listN (den_cons den_int den_nil (fun _ => rfl))))) (DenE.toA (den_bin (DenE.toA (DenF.toE (den_lenF L.O (by kernel_rfl) L.bLen (fun _ _ => ⟨_, _, rfl, rfl⟩) (fun _ => rfl) (den_nameA 2 rfl rfl rfl)))) (den_nameA 12 rfl rfl rfl) (ok_sub W))) (ok_mulAll W))) (ok_add W))) (den_seq (den_if (den_cmpT (DenE.toA (den_call L.O (by kernel_rfl) rfl L.nGiven L.fGiven.form (fun _ _ => ⟨_, _, rfl, rfl⟩) (den_consA (den_nameA 6 rfl rfl rfl) (den_consA (den_nameA 14 rfl rfl rfl) den_nilA (fun _ => rfl)) (fun _ => rfl)) (c__law_given_back L))) (DenE.toA (DenN.toE (den_comp ["multiplier"] [13] (fun _ _ => rfl) (by kernel_rfl) (den_iterA (den_nameA 14 rfl rfl rfl)) den_noTest (den_bin (den_nameA 1 rfl rfl rfl) (den_nameA 0 rfl rfl rfl) (ok_mulAll W))))) (ok_ne W) rfl) (den_seq (den_return den_bool) den_done) den_done) (den_seq (den_append 11 rfl rfl rfl (fun _ => rfl) rfl (den_nameE 13 rfl rfl rfl)) den_done))))) (den_seq (g := Q_law_15) (den_assign 15 rfl (by kernel_rfl) (fun _ _ => rfl) (den_bin (DenE.toA (DenN.toE (den_listN (den_cons (DenF.toE (den_lenF L.O (by kernel_rfl) L.bLen (fun _ _ => ⟨_, _, rfl, rfl⟩) (fun _ => rfl) (den_nameA 7 rfl rfl rfl))) den_nil (fun _ => rfl))))) (DenE.toA (DenN.toE (den_slice (DenE.toA (DenN.toE (den_callN L.O (by kernel_rfl) rfl L.bSorted (.inl ⟨_, rfl⟩) (fun _ _ => ⟨_, _, rfl, rfl⟩) (den_consA (den_nameA 11 rfl rfl rfl) den_nilA (fun _ => rfl)) (ok_sorted W _)))) den_part0 den_part0 (den_part (DenE.toA (den_neg den_int)))))) (ok_add W))) (den_seq (g := Q_law_16) (den_for (g := B_law_2) 16 rfl (by kernel_rfl) (fun _ _ => rfl) (den_range L.O (by kernel_rfl) L.bRange (fun _ _ => ⟨_, _, rfl, rfl⟩) (den_consA (DenE.toA den_int) (den_consA (DenE.toA (den_bin (DenE.toA (DenF.toE (den_lenF L.O (by kernel_rfl) L.bLen (fun _ _ => ⟨_, _, rfl, rfl⟩) (fun _ => rfl) (den_nameA 7 rfl rfl rfl)))) (DenE.toA den_int) (ok_add W))) den_nilA (fun _ => rfl)) (fun _ => rfl))) (den_seq (den_if (den_cmpT (DenE.toA (den_meth L.O L.KC L.mIndent (fun _ => ⟨_, rfl⟩) (fun _ _ => ⟨_, _, rfl, rfl⟩) (den_nameE 10 rfl rfl rfl) (den_consA (den_nameA 16 rfl rfl rfl) den_nilA (fun _ => rfl)) (c_indent_level L))) (DenE.toA (den_bin (den_nameA 16 rfl rfl rfl) (DenE.toA (den_bin (DenE.toA (DenF.toE (den_lenF L.O (by kernel_rfl) L.bLen (fun _ _ => ⟨_, _, rfl, rfl⟩) (fun _ => rfl) (den_nameA 7 rfl rfl rfl)))) (DenE.toA (den_call L.O (by kernel_rfl) rfl L.bSum (.inl ⟨_, rfl⟩) (fun _ _ => ⟨_, _, rfl, rfl⟩) (den_consA (DenE.toA (DenN.toE (den_slice (den_nameA 15 rfl rfl rfl) (den_part (DenE.toA (den_bin (den_nameA 16 rfl rfl rfl) (DenE.toA den_int) (ok_sub W)))) den_part0 (den_part (den_nameA 16 rfl rfl rfl))))) den_nilA (fun _ => rfl)) (ok_sum W _))) (ok_add W))) (ok_mulAll W))) (ok_ne W) rfl) (den_seq (den_return den_bool) den_done) den_done) den_done)) (den_seq (g := Q_law_17) (den_assignC 17 [] [] rfl (by kernel_rfl) (fun _ h => sw_any h (by kernel_rfl)) (fun _ _ => rfl) (by kernel_rfl) (den_iterA (DenE.toA (den_call L.O (by kernel_rfl) rfl L.nHands L.fHands.form (fun _ _ => ⟨_, _, rfl, rfl⟩) (den_consA (den_nameA 5 rfl rfl rfl) den_nilA (fun _ => rfl)) (c__law_hands L)))) den_noTest (den_call L.O (by kernel_rfl) rfl L.bSum (.inl ⟨_, rfl⟩) (fun _ _ => ⟨_, _, rfl, rfl⟩) (den_consA (den_nameA 0 rfl rfl rfl) den_nilA (fun _ => rfl)) (ok_sum W _))) (den_freeze 17 (den_seq (g := Q_law_18) (den_assign 18 rfl (by kernel_rfl) (fun _ _ => rfl) (den_call L.O (by kernel_rfl) rfl L.nLead L.fLead.form (fun _ _ => ⟨_, _, rfl, rfl⟩) (den_consA (DenE.toA (den_call L.O (by kernel_rfl) rfl L.nMail L.fMail.form (fun _ _ => ⟨_, _, rfl, rfl⟩) (den_consA (den_nameA 5 rfl rfl rfl) (den_consA (DenE.toA (den_bin (DenE.toA (DenN.toE (den_listN (den_cons den_int den_nil (fun _ => rfl))))) (DenE.toA (DenF.toE (den_lenF L.O (by kernel_rfl) L.bLen (fun _ _ => ⟨_, _, rfl, rfl⟩) (fun _ => rfl) (den_nameA 5 rfl rfl rfl)))) (ok_mulAll W))) (den_consA (den_nameA 4 rfl rfl rfl) den_nilA (fun _ => rfl)) (fun _ => rfl)) (fun _ => rfl)) (c__law_mail L))) den_nilA (fun _ => rfl)) (c__law_lead L))) (den_seq (g := Q_law_19) (den_if (den_cmpT (DenE.toA (den_meth L.O L.KC L.mEqual (fun _ => ⟨_, rfl⟩) (fun _ _ => ⟨_, _, rfl, rfl⟩) (den_nameE 10 rfl rfl rfl) (den_consA (den_nameA 18 rfl rfl rfl) den_nilA (fun _ => rfl)) (c_equal L))) (DenE.toA (den_cmp (den_nameA 2 rfl rfl rfl) (den_nameA 5 rfl rfl rfl) (ok_eq W) rfl)) (ok_isNot W) rfl) (den_seq (den_return den_bool) den_done) den_done) (den_seq (g := Q_law_20) (den_assignO 19 rfl (by kernel_rfl) (fun _ _ => rfl) (den_listN den_nil)) (den_seq (g := Q_law_21) (den_for (g := B_law_3) 16 rfl (by kernel_rfl) (fun _ _ => rfl) (den_range L.O (by kernel_rfl) L.bRange (fun _ _ => ⟨_, _, rfl, rfl⟩) (den_consA (DenE.toA den_int) (den_consA (DenE.toA (den_bin (DenE.toA (den_call L.O (by kernel_rfl) rfl L.bMax (.inl ⟨_, rfl⟩) (fun _ _ => ⟨_, _, rfl, rfl⟩) (den_consA (DenE.toA (den_bin (den_nameA 7 rfl rfl rfl) (den_nameA 17 rfl rfl rfl) (ok_add W))) den_nilA (fun _ => rfl)) (ok_max W _))) (DenE.toA den_int) (ok_add W))) den_nilA (fun _ => rfl)) (fun _ => rfl))) (den_seq (den_assignC 20 ["size"] [16] rfl (by kernel_rfl) (fun _ h => sw_any h (by kernel_rfl)) (fun _ _ => rfl) (by kernel_rfl) (den_iterA (DenE.toA (DenN.toE (den_listN (den_cons (den_nameE 7 rfl rfl rfl) (den_cons (den_nameE 17 rfl rfl rfl) den_nil (fun _ => rfl)) (fun _ => rfl)))))) den_noTest (den_call L.O (by kernel_rfl) rfl L.bSum (.inl ⟨_, rfl⟩) (fun _ _ => ⟨_, _, rfl, rfl⟩) (den_consA (DenE.toA (DenN.toE (den_comp ["size"] [1] (fun _ _ => rfl) (by kernel_rfl) (den_iterA (den_nameA 0 rfl rfl rfl)) den_noTest (den_bin (DenE.toA (den_bin (DenE.toA (den_bin (DenE.toA (den_bin (den_nameA 0 rfl rfl rfl) (DenE.toA den_int) (ok_add W))) (den_nameA 1 rfl rfl rfl) (ok_div W))) (den_nameA 1 rfl rfl rfl) (ok_mulAll W))) (den_nameA 1 rfl rfl rfl) (ok_add W))))) den_nilA (fun _ => rfl)) (ok_sum W _))) (den_freeze 20 (den_seq (den_if (den_cmpT (DenE.toA (den_item (den_nameA 20 rfl rfl rfl) (DenE.toA den_int) rfl)) (DenE.toA (den_item (den_nameA 20 rfl rfl rfl) (DenE.toA den_int) rfl)) (ok_ne W) rfl) (den_seq (den_append 19 rfl rfl rfl (fun _ => rfl) rfl (den_tuple (den_cons (den_nameE 16 rfl rfl rfl) (den_cons (den_item (den_nameA 20 rfl rfl rfl) (DenE.toA den_int) rfl) (den_cons (den_item (den_nameA 20 rfl rfl rfl) (DenE.toA den_int) rfl) den_nil (fun _ => rfl)) (fun _ => rfl)) (fun _ => rfl)))) den_done) den_done) den_done)))) (den_freeze 19 (den_seq (den_return (den_cmp (DenE.toA (den_meth L.O L.KC L.mWitness (fun _ => ⟨_, rfl⟩) (fun _ _ => ⟨_, _, rfl, rfl⟩) (den_nameE 10 rfl rfl rfl) (den_consA (den_nameA 18 rfl rfl rfl) den_nilA (fun _ => rfl)) (c_not_equal_witness L))) (den_nameA 19 rfl rfl rfl) (ok_eq W) rfl)) den_done)))))))))))))))))))))))))))))))

end Mine
end
section
open PySem PySem.W PyProof.Rows PySem.Calls
set_option Elab.async false
set_option linter.unusedVariables false
set_option maxRecDepth 100000
set_option maxHeartbeats 4000000
namespace Mine
theorem fnQ_K {W : Wd} {K : Frag} {a : Addr} {q : Str} {d : DefRec} {code : Value} (X : K.In W.hB) (pm doc : Value) (h : K.lookup a = some { cls := .type "function", dict := none, data := .func (qDef q d pm code doc), slots := #[] }) (hc : codeIn K code q = true) : FnQ W q d a :=
  ⟨_, pm, code, doc, X _ _ h, rfl, codeRec_of X hc⟩
theorem fnObj_K {W : Wd} {K : Frag} {a : Addr} {d : DefRec} {code : Value} (X : K.In W.hB) (pm doc : Value) (h : K.lookup a = some { cls := .type "function", dict := none, data := .func (docDef d.name d.params d.body d.scope pm code doc), slots := #[] }) (hc : codeIn K code d.name = true) : FnObj W d a :=
  ⟨_, pm, code, doc, X _ _ h, rfl, codeRec_of X hc⟩
theorem gname_K {W : Wd} {K : Frag} {x : Str} {v : Value} (X : K.In W.hB) (g : W.hB.Ns mainGlobals W.mg) (e : nsIn K mainGlobals x = some (some v)) : GName W x v := .inl (mg_of X g e)
theorem gname_B {W : Wd} {K : Frag} {x : Str} {v : Value} (X : K.In W.hB) (g : W.hB.Ns mainGlobals W.mg) (b : ∀ x : Str, x ≠ "__name__" → W.mb x = bootBuiltins x) (e : nsIn K mainGlobals x = some none) (hn : x ≠ "__name__") (hv : bootBuiltins x = some v) : GName W x v :=
  .inr ⟨mg_none_of X g e, (b x hn).trans hv⟩
noncomputable abbrev KK (p : Params) : Frag := hd.heap_39 p

theorem kf_Mul {W : Wd} {p : Params} (X : (KK p).In W.hB) : FnObj W (recAt 3) 45 := fnObj_K X _ _ rfl (by kernel_rfl)
theorem kn_Mul {W : Wd} {p : Params} (X : (KK p).In W.hB) (g : W.hB.Ns mainGlobals W.mg) : GName W "mul" (.ref 45) := gname_K X g (by kernel_rfl)
theorem kf_Sub {W : Wd} {p : Params} (X : (KK p).In W.hB) : FnObj W (recAt 4) 52 := fnObj_K X _ _ rfl (by kernel_rfl)
theorem kn_Sub {W : Wd} {p : Params} (X : (KK p).In W.hB) (g : W.hB.Ns mainGlobals W.mg) : GName W "sub" (.ref 52) := gname_K X g (by kernel_rfl)
theorem kf_Concat {W : Wd} {p : Params} (X : (KK p).In W.hB) : FnObj W (recAt 5) 59 := fnObj_K X _ _ rfl (by kernel_rfl)
theorem kn_Concat {W : Wd} {p : Params} (X : (KK p).In W.hB) (g : W.hB.Ns mainGlobals W.mg) : GName W "concat" (.ref 59) := gname_K X g (by kernel_rfl)
theorem kf_Contains {W : Wd} {p : Params} (X : (KK p).In W.hB) : FnObj W (recAt 6) 66 := fnObj_K X _ _ rfl (by kernel_rfl)
theorem kn_Contains {W : Wd} {p : Params} (X : (KK p).In W.hB) (g : W.hB.Ns mainGlobals W.mg) : GName W "contains" (.ref 66) := gname_K X g (by kernel_rfl)
theorem kf_Delitem {W : Wd} {p : Params} (X : (KK p).In W.hB) : FnObj W (recAt 7) 73 := fnObj_K X _ _ rfl (by kernel_rfl)
theorem kn_Delitem {W : Wd} {p : Params} (X : (KK p).In W.hB) (g : W.hB.Ns mainGlobals W.mg) : GName W "delitem" (.ref 73) := gname_K X g (by kernel_rfl)
theorem kf_IndexOf {W : Wd} {p : Params} (X : (KK p).In W.hB) : FnObj W (recAt 8) 80 := fnObj_K X _ _ rfl (by kernel_rfl)
theorem kn_IndexOf {W : Wd} {p : Params} (X : (KK p).In W.hB) (g : W.hB.Ns mainGlobals W.mg) : GName W "indexOf" (.ref 80) := gname_K X g (by kernel_rfl)
theorem kf_Imul {W : Wd} {p : Params} (X : (KK p).In W.hB) : FnObj W (recAt 9) 87 := fnObj_K X _ _ rfl (by kernel_rfl)
theorem kn_Imul {W : Wd} {p : Params} (X : (KK p).In W.hB) (g : W.hB.Ns mainGlobals W.mg) : GName W "imul" (.ref 87) := gname_K X g (by kernel_rfl)
theorem kf_Quote {W : Wd} {p : Params} (X : (KK p).In W.hB) : FnObj W (recAt 14) 104 := fnObj_K X _ _ rfl (by kernel_rfl)
theorem kn_Quote {W : Wd} {p : Params} (X : (KK p).In W.hB) (g : W.hB.Ns mainGlobals W.mg) : GName W "quotedata" (.ref 104) := gname_K X g (by kernel_rfl)
theorem kf_Fix {W : Wd} {p : Params} (X : (KK p).In W.hB) : FnObj W (recAt 15) 111 := fnObj_K X _ _ rfl (by kernel_rfl)
theorem kn_Fix {W : Wd} {p : Params} (X : (KK p).In W.hB) (g : W.hB.Ns mainGlobals W.mg) : GName W "_fix_eols" (.ref 111) := gname_K X g (by kernel_rfl)
theorem kf_Heaps {W : Wd} {p : Params} (X : (KK p).In W.hB) : FnObj W (recAt 19) 184 := fnObj_K X _ _ rfl (by kernel_rfl)
theorem kn_Heaps {W : Wd} {p : Params} (X : (KK p).In W.hB) (g : W.hB.Ns mainGlobals W.mg) : GName W "_law_heaps" (.ref 184) := gname_K X g (by kernel_rfl)
theorem kf_Hands {W : Wd} {p : Params} (X : (KK p).In W.hB) : FnObj W (recAt 20) 189 := fnObj_K X _ _ rfl (by kernel_rfl)
theorem kn_Hands {W : Wd} {p : Params} (X : (KK p).In W.hB) (g : W.hB.Ns mainGlobals W.mg) : GName W "_law_hands" (.ref 189) := gname_K X g (by kernel_rfl)
theorem kf_Order {W : Wd} {p : Params} (X : (KK p).In W.hB) : FnObj W (recAt 21) 196 := fnObj_K X _ _ rfl (by kernel_rfl)
theorem kn_Order {W : Wd} {p : Params} (X : (KK p).In W.hB) (g : W.hB.Ns mainGlobals W.mg) : GName W "_law_order" (.ref 196) := gname_K X g (by kernel_rfl)
theorem kf_Mail {W : Wd} {p : Params} (X : (KK p).In W.hB) : FnObj W (recAt 22) 203 := fnObj_K X _ _ rfl (by kernel_rfl)
theorem kn_Mail {W : Wd} {p : Params} (X : (KK p).In W.hB) (g : W.hB.Ns mainGlobals W.mg) : GName W "_law_mail" (.ref 203) := gname_K X g (by kernel_rfl)
theorem kf_Lead {W : Wd} {p : Params} (X : (KK p).In W.hB) : FnObj W (recAt 23) 210 := fnObj_K X _ _ rfl (by kernel_rfl)
theorem kn_Lead {W : Wd} {p : Params} (X : (KK p).In W.hB) (g : W.hB.Ns mainGlobals W.mg) : GName W "_law_lead" (.ref 210) := gname_K X g (by kernel_rfl)
theorem kf_Found {W : Wd} {p : Params} (X : (KK p).In W.hB) : FnObj W (recAt 24) 217 := fnObj_K X _ _ rfl (by kernel_rfl)
theorem kn_Found {W : Wd} {p : Params} (X : (KK p).In W.hB) (g : W.hB.Ns mainGlobals W.mg) : GName W "_law_found" (.ref 217) := gname_K X g (by kernel_rfl)
theorem kf_Back {W : Wd} {p : Params} (X : (KK p).In W.hB) : FnObj W (recAt 25) 222 := fnObj_K X _ _ rfl (by kernel_rfl)
theorem kn_Back {W : Wd} {p : Params} (X : (KK p).In W.hB) (g : W.hB.Ns mainGlobals W.mg) : GName W "_law_read_back" (.ref 222) := gname_K X g (by kernel_rfl)
theorem kf_Ahead {W : Wd} {p : Params} (X : (KK p).In W.hB) : FnObj W (recAt 26) 227 := fnObj_K X _ _ rfl (by kernel_rfl)
theorem kn_Ahead {W : Wd} {p : Params} (X : (KK p).In W.hB) (g : W.hB.Ns mainGlobals W.mg) : GName W "_law_ahead" (.ref 227) := gname_K X g (by kernel_rfl)
theorem kf_Given {W : Wd} {p : Params} (X : (KK p).In W.hB) : FnObj W (recAt 27) 234 := fnObj_K X _ _ rfl (by kernel_rfl)
theorem kn_Given {W : Wd} {p : Params} (X : (KK p).In W.hB) (g : W.hB.Ns mainGlobals W.mg) : GName W "_law_given_back" (.ref 234) := gname_K X g (by kernel_rfl)
theorem kf_Init {W : Wd} {p : Params} (X : (KK p).In W.hB) : FnQ W "Whitespace.__init__" (methAt 1) 128 := fnQ_K X _ _ rfl (by kernel_rfl)
theorem kf_Longest {W : Wd} {p : Params} (X : (KK p).In W.hB) : FnQ W "Whitespace.longest_run_of_spaces" (methAt 2) 135 := fnQ_K X _ _ rfl (by kernel_rfl)
theorem km_Longest {W : Wd} {p : Params} (X : (KK p).In W.hB) : MethAt W (KK p) "longest_run_of_spaces" 135 := ⟨(kf_Longest X).form, by kernel_rfl, by kernel_rfl, by kernel_rfl, by kernel_rfl⟩
theorem kf_Indent {W : Wd} {p : Params} (X : (KK p).In W.hB) : FnQ W "Whitespace.indent_level" (methAt 3) 142 := fnQ_K X _ _ rfl (by kernel_rfl)
theorem km_Indent {W : Wd} {p : Params} (X : (KK p).In W.hB) : MethAt W (KK p) "indent_level" 142 := ⟨(kf_Indent X).form, by kernel_rfl, by kernel_rfl, by kernel_rfl, by kernel_rfl⟩
theorem kf_Equal {W : Wd} {p : Params} (X : (KK p).In W.hB) : FnQ W "Whitespace.equal" (methAt 4) 149 := fnQ_K X _ _ rfl (by kernel_rfl)
theorem km_Equal {W : Wd} {p : Params} (X : (KK p).In W.hB) : MethAt W (KK p) "equal" 149 := ⟨(kf_Equal X).form, by kernel_rfl, by kernel_rfl, by kernel_rfl, by kernel_rfl⟩
theorem kf_Witness {W : Wd} {p : Params} (X : (KK p).In W.hB) : FnQ W "Whitespace.not_equal_witness" (methAt 5) 156 := fnQ_K X _ _ rfl (by kernel_rfl)
theorem km_Witness {W : Wd} {p : Params} (X : (KK p).In W.hB) : MethAt W (KK p) "not_equal_witness" 156 := ⟨(kf_Witness X).form, by kernel_rfl, by kernel_rfl, by kernel_rfl, by kernel_rfl⟩
theorem kb_Len {W : Wd} {p : Params} (X : (KK p).In W.hB) (g : W.hB.Ns mainGlobals W.mg) (b : ∀ x : Str, x ≠ "__name__" → W.mb x = bootBuiltins x) : GName W "len" (.builtin "len") := gname_B X g b (by kernel_rfl) (by decide) (by kernel_rfl)
theorem kb_Min {W : Wd} {p : Params} (X : (KK p).In W.hB) (g : W.hB.Ns mainGlobals W.mg) (b : ∀ x : Str, x ≠ "__name__" → W.mb x = bootBuiltins x) : GName W "min" (.builtin "min") := gname_B X g b (by kernel_rfl) (by decide) (by kernel_rfl)
theorem kb_Max {W : Wd} {p : Params} (X : (KK p).In W.hB) (g : W.hB.Ns mainGlobals W.mg) (b : ∀ x : Str, x ≠ "__name__" → W.mb x = bootBuiltins x) : GName W "max" (.builtin "max") := gname_B X g b (by kernel_rfl) (by decide) (by kernel_rfl)
theorem kb_Sum {W : Wd} {p : Params} (X : (KK p).In W.hB) (g : W.hB.Ns mainGlobals W.mg) (b : ∀ x : Str, x ≠ "__name__" → W.mb x = bootBuiltins x) : GName W "sum" (.builtin "sum") := gname_B X g b (by kernel_rfl) (by decide) (by kernel_rfl)
theorem kb_Sorted {W : Wd} {p : Params} (X : (KK p).In W.hB) (g : W.hB.Ns mainGlobals W.mg) (b : ∀ x : Str, x ≠ "__name__" → W.mb x = bootBuiltins x) : GName W "sorted" (.builtin "sorted") := gname_B X g b (by kernel_rfl) (by decide) (by kernel_rfl)
theorem kb_Hasattr {W : Wd} {p : Params} (X : (KK p).In W.hB) (g : W.hB.Ns mainGlobals W.mg) (b : ∀ x : Str, x ≠ "__name__" → W.mb x = bootBuiltins x) : GName W "hasattr" (.builtin "hasattr") := gname_B X g b (by kernel_rfl) (by decide) (by kernel_rfl)
theorem kb_Range {W : Wd} {p : Params} (X : (KK p).In W.hB) (g : W.hB.Ns mainGlobals W.mg) (b : ∀ x : Str, x ≠ "__name__" → W.mb x = bootBuiltins x) : GName W "range" (.type "range") := gname_B X g b (by kernel_rfl) (by decide) (by kernel_rfl)
theorem kb_Enum {W : Wd} {p : Params} (X : (KK p).In W.hB) (g : W.hB.Ns mainGlobals W.mg) (b : ∀ x : Str, x ≠ "__name__" → W.mb x = bootBuiltins x) : GName W "enumerate" (.type "enumerate") := gname_B X g b (by kernel_rfl) (by decide) (by kernel_rfl)
theorem kb_Tuple {W : Wd} {p : Params} (X : (KK p).In W.hB) (g : W.hB.Ns mainGlobals W.mg) (b : ∀ x : Str, x ≠ "__name__" → W.mb x = bootBuiltins x) : GName W "tuple" (.type "tuple") := gname_B X g b (by kernel_rfl) (by decide) (by kernel_rfl)
theorem kb_ValueError {W : Wd} {p : Params} (X : (KK p).In W.hB) (g : W.hB.Ns mainGlobals W.mg) (b : ∀ x : Str, x ≠ "__name__" → W.mb x = bootBuiltins x) : GName W "ValueError" (.type "ValueError") := gname_B X g b (by kernel_rfl) (by decide) (by kernel_rfl)
theorem kp1 {W : Wd} {p : Params} (X : (KK p).In W.hB) (g : W.hB.Ns mainGlobals W.mg) : PatG W "_twin_re_1" 92 C1 :=
  ⟨gname_K X g (by kernel_rfl), ⟨_, _, 91, _, _, _, X 92 _ rfl, rfl, rfl, rfl, rfl, X 91 _ rfl, rfl, by kernel_rfl⟩, _, X 92 _ rfl, rfl, rfl⟩
theorem kp2 {W : Wd} {p : Params} (X : (KK p).In W.hB) (g : W.hB.Ns mainGlobals W.mg) : PatG W "_twin_re_2" 97 C2 :=
  ⟨gname_K X g (by kernel_rfl), ⟨_, _, 96, _, _, _, X 97 _ rfl, rfl, rfl, rfl, rfl, X 96 _ rfl, rfl, by kernel_rfl⟩, _, X 97 _ rfl, rfl, rfl⟩
noncomputable def kc {W : Wd} {p : Params} (X : (KK p).In W.hB) : ClsAt W (KK p) where
  cd := _
  inB := X
  cls := rfl
  own := by kernel_rfl
  ga := by kernel_rfl
  noNorm := by kernel_rfl
  noNt := by kernel_rfl
  noRaw := by kernel_rfl
noncomputable def mkLaw {W : Wd} {p : Params} (X : (KK p).In W.hB) (g : W.hB.Ns mainGlobals W.mg) (bn : W.hB.Ns builtinsNs W.mb) (nl : W.hB.NoLimit) (b : ∀ x : Str, x ≠ "__name__" → W.mb x = bootBuiltins x) : Law W where
  O := ⟨g, bn, nl⟩
  aMul := 45
  fMul := kf_Mul X
  nMul := kn_Mul X g
  aSub := 52
  fSub := kf_Sub X
  nSub := kn_Sub X g
  aConcat := 59
  fConcat := kf_Concat X
  nConcat := kn_Concat X g
  aContains := 66
  fContains := kf_Contains X
  nContains := kn_Contains X g
  aDelitem := 73
  fDelitem := kf_Delitem X
  nDelitem := kn_Delitem X g
  aIndexOf := 80
  fIndexOf := kf_IndexOf X
  nIndexOf := kn_IndexOf X g
  aImul := 87
  fImul := kf_Imul X
  nImul := kn_Imul X g
  aQuote := 104
  fQuote := kf_Quote X
  nQuote := kn_Quote X g
  aFix := 111
  fFix := kf_Fix X
  nFix := kn_Fix X g
  aHeaps := 184
  fHeaps := kf_Heaps X
  nHeaps := kn_Heaps X g
  aHands := 189
  fHands := kf_Hands X
  nHands := kn_Hands X g
  aOrder := 196
  fOrder := kf_Order X
  nOrder := kn_Order X g
  aMail := 203
  fMail := kf_Mail X
  nMail := kn_Mail X g
  aLead := 210
  fLead := kf_Lead X
  nLead := kn_Lead X g
  aFound := 217
  fFound := kf_Found X
  nFound := kn_Found X g
  aBack := 222
  fBack := kf_Back X
  nBack := kn_Back X g
  aAhead := 227
  fAhead := kf_Ahead X
  nAhead := kn_Ahead X g
  aGiven := 234
  fGiven := kf_Given X
  nGiven := kn_Given X g
  aInit := 128
  fInit := kf_Init X
  aLongest := 135
  fLongest := kf_Longest X
  mLongest := km_Longest X
  aIndent := 142
  fIndent := kf_Indent X
  mIndent := km_Indent X
  aEqual := 149
  fEqual := kf_Equal X
  mEqual := km_Equal X
  aWitness := 156
  fWitness := kf_Witness X
  mWitness := km_Witness X
  bLen := kb_Len X g b
  bMin := kb_Min X g b
  bMax := kb_Max X g b
  bSum := kb_Sum X g b
  bSorted := kb_Sorted X g b
  bHasattr := kb_Hasattr X g b
  bRange := kb_Range X g b
  bEnum := kb_Enum X g b
  bTuple := kb_Tuple X g b
  bValueError := kb_ValueError X g b
  nCRLF := ⟨410, gname_K X g (by kernel_rfl)⟩
  a1 := 92
  p1 := kp1 X g
  a2 := 97
  p2 := kp2 X g
  K := KK p
  KC := kc X
  nWs := gname_K X g (by kernel_rfl)
  makes := by kernel_rfl
  keepW := by kernel_rfl
  init := by kernel_rfl
  initT := by kernel_rfl
  setA := by kernel_rfl
  over := by kernel_rfl
  hasD := by kernel_rfl
  taker := by
    intro x hx
    simp only [List.mem_cons, List.mem_nil_iff, or_false] at hx
    rcases hx with rfl | rfl | rfl | rfl | rfl <;> kernel_rfl
  mcls := .type "type"
  reads := by kernel_rfl
  clsS := ⟨_, rfl⟩
  clsT := ⟨_, rfl⟩
end Mine
end
section
open PySem PySem.W PyProof.Rows PySem.Calls
set_option Elab.async false
set_option linter.unusedVariables false
set_option maxRecDepth 100000
set_option maxHeartbeats 4000000
namespace Mine
theorem kf_Law {W : Wd} {p : Params} (X : (KK p).In W.hB) : FnObj W (recAt 28) 239 := fnObj_K X _ _ rfl (by kernel_rfl)
theorem law_goes (hpure : ∀ sc : List Int, sc.length ≤ 63 → G_law (initL [.ali (sc.map .int)] 20) = some (.ret (.bool true)))
    {w : World} {s₁ : Shared} {mg mb : Str → Option Value} {fa l : Addr} {items : List Value} {sc : List Int} {R : Result → Shared → Prop}
    (KX : (KK w.params).In s₁.heap) (g : s₁.heap.Ns mainGlobals mg) (bn : s₁.heap.Ns builtinsNs mb) (nl : s₁.heap.NoLimit) (b : ∀ x : Str, x ≠ "__name__" → mb x = bootBuiltins x) (hfa : mg "law" = some (.ref fa))
    (hL : s₁.heap.IsList l items.toArray) (hI : IntsAre items sc) (hlen : ¬ ((63 : Nat) : Int) < (sc.length : Int))
    (q : ∀ h' tk, Grow s₁.heap h' → R (.ok (.ret (.bool true))) { s₁ with heap := h', toks := tk }) :
    codeAny (model PySem.Challenge.rw_sw0046_01.row.prog w) callerA (.call (.ref fa) ⟨[.ref l], []⟩) R s₁ := by
  have L : Law ⟨PySem.Challenge.rw_sw0046_01.row.prog, w, s₁.heap, mg, mb, fun _ => False, true⟩ := mkLaw KX g bn nl b
  have FL : FnObj ⟨PySem.Challenge.rw_sw0046_01.row.prog, w, s₁.heap, mg, mb, fun _ => False, true⟩ (recAt 28) 239 := kf_Law KX
  generalize hW : (⟨PySem.Challenge.rw_sw0046_01.row.prog, w, s₁.heap, mg, mb, fun _ => False, true⟩ : Wd) = W at L FL
  have e1 : PySem.Challenge.rw_sw0046_01.row.prog = W.prog := by rw [← hW]
  have e2 : w = W.w := by rw [← hW]
  have e3 : s₁.heap = W.hB := by rw [← hW]
  have e4 : W.N = fun _ => False := by rw [← hW]
  have e5 : W.full = true := by rw [← hW]
  have ha : fa = 239 := by
    have := mg_of KX g (n := "law") (v := .ref 239) (by kernel_rfl)
    rw [hfa] at this; cases this; rfl
  subst ha
  have Xc : Cs W 5 callerA s₁.heap 1 := ⟨fun _ _ e => e3 ▸ e, by decide, rfl, by decide, by decide, [], rfl, trivial⟩
  have hm : model PySem.Challenge.rw_sw0046_01.row.prog w = model W.prog W.w := by rw [← e1, ← e2]
  rw [hm]
  refine fn_enterS (q := "law") (d := recAt 28) (n := 4) (k := 20) (ps := ["script"]) (sl := ["script", "heaps", "figures", "places", "ends", "others", "hands", "shaken", "mail", "rows", "lead", "multipliers", "guest", "multiplier", "held", "spans", "size", "strangers", "other", "told", "columns"])
    (lvs := [.ali (sc.map .int)]) (P := fun _ => False) (T' := 1) L.O FL (by kernel_rfl) rfl (fun _ _ _ vs h => by obtain ⟨v0, rfl⟩ := one_of h; rfl) Xc
    (.cons (show LR _ _ _ (.ali (sc.map .int)) _ from ⟨l, items.toArray, rfl, hL, by simpa using VRs.ofInts hI⟩) .nil) rfl fun env h₁ tk₁ X' Y S t ht => ?_
  have htk : 0 < tk₁ := Nat.lt_of_le_of_lt (Nat.zero_le _) (ht "script" rfl (by kernel_rfl))
  have Y' : Sx W 4 (recAt 28).scope (callerA.deeper env) env s₁.heap := { Y with outer := fun _ out e b hb => by
                                                                                      have : (callerA.deeper env).frames = some [env] := rfl
                                                                                      rw [this] at e; cases e; cases hb }
  have S' : SRel W s₁.heap (fun _ => False) (fun b => False ∧ ∃ o, s₁.heap.get? b = some o) X' (fun _ => 0) env ["script", "heaps", "figures", "places", "ends", "others", "hands", "shaken", "mail", "rows", "lead", "multipliers", "guest", "multiplier", "held", "spans", "size", "strangers", "other", "told", "columns"] (initL [.ali (sc.map .int)] 20) h₁ tk₁ :=
    { slot := e4 ▸ S.slot
      apart := S.apart
      frm := S.frm
      cel := S.cel
      capart := S.capart
      PX := S.PX
      XE := S.XE
      PE := S.PE
      grow := e4 ▸ S.grow
      PN := fun _ p => p.1.elim
      NE := fun _ n => by rw [e4] at n; exact n.elim
      NB := fun _ n => by rw [e4] at n; exact n.elim
      live := S.live
      nd := S.nd
      len := S.len }
  refine d_law (n := 0) L e5 (s := { s₁ with heap := h₁, toks := tk₁ }) Y' S' htk (hpure sc (by omega)) fun v h' tk r gg tt => ?_
  have hv : v = .bool true := r
  subst hv
  exact q h' tk (fun b o e => (gg b o e).1 fun n => by rw [e4] at n; exact n)
end Mine
end
section
open PySem PySem.W PyProof.Rows PySem.Calls
set_option Elab.async false
set_option linter.unusedVariables false
set_option linter.unusedSimpArgs false
set_option maxRecDepth 100000
namespace Mine
/-! the plain law, first part: five heaps -/
theorem seqS_next {g k : SF} {ℓ ℓ' : List LV} (h : g ℓ = some (.next ℓ')) : seqS g k ℓ = k ℓ' := by unfold seqS; rw [h]
theorem seqS_ret {g k : SF} {ℓ : List LV} {m : MV} (h : g ℓ = some (.ret m)) : seqS g k ℓ = some (.ret m) := by unfold seqS; rw [h]
theorem setV_eq {i : Nat} {f : MF} {ℓ : List LV} {m : MV} (h : f ℓ = some m) : setV i f ℓ = some (.next (ℓ.set i (.val m))) := by unfold setV; rw [h]
theorem setO_eq {i : Nat} {f : List LV → Option (List MV)} {ℓ : List LV} {m : List MV} (h : f ℓ = some m) : setO i f ℓ = some (.next (ℓ.set i (.own m))) := by unfold setO; rw [h]
theorem forF_eq {i : Nat} {fi : List LV → Option (List MV)} {g : SF} {ℓ : List LV} {m : List MV} (h : fi ℓ = some m) : forF i fi g ℓ = forL i g m ℓ := by unfold forF; rw [h]
theorem ifM_true {α : Type} {ft : List LV → Option Bool} {fa fb : List LV → Option α} {ℓ : List LV} (h : ft ℓ = some true) : ifM ft fa fb ℓ = fa ℓ := by unfold ifM; rw [h]
theorem ifM_false {α : Type} {ft : List LV → Option Bool} {fa fb : List LV → Option α} {ℓ : List LV} (h : ft ℓ = some false) : ifM ft fa fb ℓ = fb ℓ := by unfold ifM; rw [h]
theorem cons2_eqA {α : Type} {f : List LV → Option α} {g : List LV → Option (List α)} {ℓ : List LV} {x : α} {y : List α} (ha : f ℓ = some x) (hb : g ℓ = some y) : cons2 f g ℓ = some (x :: y) := cons2_eq ha hb
theorem toLF_eq {f : List LV → Option (List MV)} {ℓ : List LV} {m : List MV} (h : f ℓ = some m) : toLF f ℓ = some (.list m) := by show (f ℓ).map MV.list = _; rw [h]; rfl
theorem szOK_le {l : List MV} (h : l.length ≤ 2000) : szOK l = true := by unfold szOK; simp; omega
theorem itemS_pla {l : List MV} {k : Nat} {i : Int} {m : MV} (hl : l.length ≤ 2000) (hi : i = (k : Int)) (h : l[k]? = some m) : itemS (.pla l) (.val (.fint i)) = some m := by
  subst hi
  show (if szOK l then (if (0 : Int) ≤ (k : Int) then l[(k : Int).toNat]? else _) else none) = _
  rw [if_pos (szOK_le hl), if_pos (by omega), Int.toNat_natCast, h]
theorem itemS_ali {l : List MV} {k : Nat} {i : Int} {m : MV} (hl : l.length ≤ 2000) (hi : i = (k : Int)) (h : l[k]? = some m) : itemS (.ali l) (.val (.fint i)) = some m := by
  subst hi
  show (if szOK l then (if (0 : Int) ≤ (k : Int) then l[(k : Int).toNat]? else _) else none) = _
  rw [if_pos (szOK_le hl), if_pos (by omega), Int.toNat_natCast, h]
theorem itemS_list {l : List MV} {k : Nat} {i : Int} {m : MV} (hl : l.length ≤ 2000) (hi : i = (k : Int)) (h : l[k]? = some m) : itemS (.val (.list l)) (.val (.fint i)) = some m := by
  subst hi
  show (if szOK l then (if (0 : Int) ≤ (k : Int) then l[(k : Int).toNat]? else _) else none) = _
  rw [if_pos (szOK_le hl), if_pos (by omega), Int.toNat_natCast, h]
theorem fmod_nat (a : Int) (b : Nat) (hb : 0 < b) : ∃ k : Nat, k < b ∧ a.fmod b = (k : Int) := by
  rw [Int.fmod_eq_emod_of_nonneg a (by omega)]
  have h1 := Int.emod_nonneg a (show (b : Int) ≠ 0 by omega)
  have h2 := Int.emod_lt_of_pos a (show (0 : Int) < b by omega)
  exact ⟨(a % b).toNat, by omega, by omega⟩
theorem heaps_step (sc hs : List Int) (i : Nat) (h1 : sc.length ≤ 63) (h2 : hs.length = 5) (h3 : i < sc.length) :
    ∃ hs' : List Int, hs'.length = 5 ∧ B__law_heaps_1 [.ali (sc.map .int), .own (hs.map .fint), .val (.fint i)] = some (.next [.ali (sc.map .int), .own (hs'.map .fint), .val (.fint i)]) := by
  obtain ⟨k, hk5, hk⟩ := fmod_nat (i : Int) 5 (by omega)
  have hk : (i : Int).fmod 5 = (k : Int) := hk
  have hx : hs[k]? = some (hs[k]'(by omega)) := List.getElem?_eq_getElem (by omega)
  have hy : sc[i]? = some (sc[i]'h3) := List.getElem?_eq_getElem h3
  generalize hs[k]'(by omega) = x at hx
  generalize sc[i]'h3 = y at hy
  refine ⟨hs.set k (x + y.fmod 1000000), by simpa using h2, ?_⟩
  have e1 : bind2 modIF (nameA 2) (toAF (litF (.fint 5))) [.ali (sc.map .int), .own (hs.map .fint), .val (.fint i)] = some (.fint ((i : Int).fmod 5)) := rfl
  have e2 : bind2 itemS (nameA 1) (toAF (bind2 modIF (nameA 2) (toAF (litF (.fint 5))))) [.ali (sc.map .int), .own (hs.map .fint), .val (.fint i)] = some (.fint x) :=
    (bind2_eq (x := .pla (hs.map .fint)) rfl (toAF_eq e1)).trans (itemS_pla (by simp [h2]) hk (by rw [List.getElem?_map, hx]; rfl))
  have e3 : bind2 itemS (nameA 0) (nameA 2) [.ali (sc.map .int), .own (hs.map .fint), .val (.fint i)] = some (.int y) :=
    (bind2_eq (x := .ali (sc.map .int)) (y := .val (.fint i)) rfl rfl).trans (itemS_ali (by rw [List.length_map]; omega) rfl (by rw [List.getElem?_map, hy]; rfl))
  have e4 : bind2 modIF (toAF (bind2 itemS (nameA 0) (nameA 2))) (toAF (litF (.fint 1000000))) [.ali (sc.map .int), .own (hs.map .fint), .val (.fint i)] = some (.fint (y.fmod 1000000)) :=
    (bind2_eq (y := .val (.fint 1000000)) (toAF_eq e3) rfl).trans rfl
  have e5 := (bind2_eq (F := addF) (toAF_eq e2) (toAF_eq e4)).trans (b := addF (.val (.fint x)) (.val (.fint (y.fmod 1000000)))) rfl
  unfold B__law_heaps_1
  refine (seqS_next (ℓ' := [.ali (sc.map .int), .own ((hs.set k (x + y.fmod 1000000)).map .fint), .val (.fint i)]) ?_).trans rfl
  unfold setItF
  rw [e5, toAF_eq e1]
  show (if szOK (hs.map .fint) ∧ 0 ≤ (i : Int).fmod 5 ∧ (i : Int).fmod 5 < ((hs.map MV.fint).length : Nat) then some (Out.next [.ali (sc.map .int), .own ((hs.map MV.fint).set ((i : Int).fmod 5).toNat (.fint (x + y.fmod 1000000))), .val (.fint i)]) else none) = _
  rw [hk, if_pos ⟨szOK_le (by simp [h2]), by omega, by rw [List.length_map]; omega⟩, Int.toNat_natCast, ← List.map_set]
theorem heaps_loop (sc : List Int) (h1 : sc.length ≤ 63) : ∀ (is : List Nat) (hs : List Int) (ch : LV), (∀ i ∈ is, i < sc.length) → hs.length = 5 →
    ∃ (hs' : List Int) (ch' : LV), hs'.length = 5 ∧ forL 2 B__law_heaps_1 (is.map fi) [.ali (sc.map .int), .own (hs.map .fint), ch] = some (.next [.ali (sc.map .int), .own (hs'.map .fint), ch'])
  | [], hs, ch, _, h2 => ⟨hs, ch, h2, rfl⟩
  | i :: is, hs, ch, h3, h2 => by
    obtain ⟨hs1, l1, e1⟩ := heaps_step sc hs i h1 h2 (h3 i (.head _))
    obtain ⟨hs2, ch2, l2, e2⟩ := heaps_loop sc h1 is hs1 (.val (.fint i)) (fun j hj => h3 j (.tail _ hj)) l1
    refine ⟨hs2, ch2, l2, ?_⟩
    rw [List.map_cons]
    unfold forL
    show (match B__law_heaps_1 [.ali (sc.map .int), .own (hs.map .fint), .val (.fint i)] with | some (.next ℓ') => _ | some (.ret r) => _ | none => _) = _
    rw [e1]
    exact e2
theorem range0 (k : Nat) (h : k ≤ 63) : rangeF 0 (k : Int) 1 = some ((List.range k).map fi) := by
  have hs : Builtin.Range.rangeSize 0 (k : Int) 1 = (k : Int) := by
    unfold Builtin.Range.rangeSize
    rw [if_pos (by decide)]
    by_cases h0 : (0 : Int) < (k : Int)
    · rw [if_pos h0, Int.ediv_one]; omega
    · rw [if_neg h0]; omega
  have hm : Builtin.Range.small 0 (k : Int) 1 = true := by
    have : ∀ k : Fin 64, Builtin.Range.small 0 (k.val : Int) 1 = true := by decide +kernel
    exact this ⟨k, by omega⟩
  unfold rangeF
  rw [hs, hm]
  rw [if_pos (by simp; omega)]
  unfold rangeMV
  rw [Int.toNat_natCast]
  refine congrArg some (List.map_congr_left fun i _ => ?_)
  show MV.fint (0 + (i : Int) * 1) = MV.fint (i : Int)
  rw [Int.mul_one, Int.zero_add]
theorem heaps_all (sc : List Int) (h1 : sc.length ≤ 63) : ∃ hs : List Int, hs.length = 5 ∧ F__law_heaps [.ali (sc.map .int)] = some (.list (hs.map .fint)) := by
  have hl : lenFF (nameA 0) [.ali (sc.map .int), .own ([3, 4, 1, 46, 9].map MV.fint), .undef] = some (sc.length : Int) := by
    show (if szOK (sc.map MV.int) then some (((sc.map MV.int).length : Nat) : Int) else none) = _
    rw [if_pos (szOK_le (by rw [List.length_map]; omega)), List.length_map]
  have e0 : callF (cons2 (toAF (toIF (lenFF (nameA 0)))) (cons2 (toAF (litF (.fint 20))) nilF)) min2 [.ali (sc.map .int), .own ([3, 4, 1, 46, 9].map MV.fint), .undef] = some (.int (if (20 : Int) < sc.length then 20 else sc.length)) :=
    callF_eq (cons2_eq (toAF_eq (toIF_eq hl)) rfl) rfl
  obtain ⟨k, hk, hk2⟩ : ∃ k : Nat, (if (20 : Int) < sc.length then (20 : Int) else sc.length) = (k : Int) ∧ k ≤ sc.length := by
    by_cases h : (20 : Int) < sc.length
    · rw [if_pos h]; exact ⟨20, rfl, by omega⟩
    · rw [if_neg h]; exact ⟨sc.length, rfl, Nat.le_refl _⟩
  rw [hk] at e0
  have hr : rangF (cons2 (toAF (callF (cons2 (toAF (toIF (lenFF (nameA 0)))) (cons2 (toAF (litF (.fint 20))) nilF)) min2)) nilF) [.ali (sc.map .int), .own ([3, 4, 1, 46, 9].map MV.fint), .undef] = some ((List.range k).map fi) := by
    refine (callF_eq (F := rangeA) (cons2_eq (toAF_eq e0) rfl) ?_)
    show rangeF 0 (k : Int) 1 = _
    exact range0 k (by omega)
  obtain ⟨hs, ch, l5, e1⟩ := heaps_loop sc h1 (List.range k) [3, 4, 1, 46, 9] .undef (fun i hi => by have := List.mem_range.mp hi; omega) rfl
  refine ⟨hs, l5, ?_⟩
  have e2 : G__law_heaps (initL [.ali (sc.map .int)] 2) = some (.ret (.list (hs.map .fint))) := by
    unfold G__law_heaps
    refine (seqS_next (ℓ' := [.ali (sc.map .int), .own ([3, 4, 1, 46, 9].map MV.fint), .undef]) rfl).trans ?_
    refine (seqS_next (ℓ' := [.ali (sc.map .int), .own (hs.map MV.fint), ch]) ((forF_eq hr).trans e1)).trans ?_
    rfl
  unfold F__law_heaps defF
  show (if (1 : Nat) = 1 then fnF _ _ _ else none) = _
  rw [if_pos rfl]
  unfold fnF
  rw [e2]
end Mine
end
section
open PySem PySem.W PyProof.Rows PySem.Calls
set_option Elab.async false
set_option linter.unusedVariables false
set_option linter.unusedSimpArgs false
set_option maxRecDepth 100000
namespace Mine
/-! figures, places, ends, others -/
theorem compF_map {α : Type} {fe : MF} {mk : MV → List LV} (g g' : α → MV) : ∀ l : List α, (∀ x ∈ l, fe (mk (g x)) = some (g' x)) → compF trueTF fe mk (l.map g) = some (l.map g')
  | [], _ => rfl
  | x :: l, h => by
    rw [List.map_cons, List.map_cons]
    unfold compF
    show (match fe (mk (g x)) with | some y => _ | none => _) = _
    rw [h x (.head _)]
    dsimp only
    rw [compF_map g g' l fun y hy => h y (.tail _ hy)]
theorem compF_map2 {α β : Type} {fe : MF} {mk : MV → List LV} (g : α → MV) (u : α → β) (g' : β → MV) (l : List α) (h : ∀ x ∈ l, fe (mk (g x)) = some (g' (u x))) : compF trueTF fe mk (l.map g) = some ((l.map u).map g') := by
  rw [List.map_map]; exact compF_map g (g' ∘ u) l h
theorem compV_eq {fi ft} {fe : MF} {ix : List Nat} {ℓ : List LV} {items : List MV} (h : fi ℓ = some items) (hc : (caps ℓ ix).all LV.def? = true) : compV fi ft fe ix ℓ = compF ft fe (fun m => .val m :: caps ℓ ix) items := by
  unfold compV; rw [h]; dsimp only; rw [if_pos hc]
theorem iterF_eq {f : LF} {ℓ : List LV} {l : List MV} (h : f ℓ = some (.val (.list l))) (hz : l.length ≤ 2000) : iterF f ℓ = some l := by
  show (match f ℓ with | some lv => (match lv.list? with | some l => if szOK l then some l else none | none => none) | none => none) = _
  rw [h]
  show (if szOK l then some l else none) = _
  rw [if_pos (szOK_le hz)]
noncomputable def endS (k : Nat) : Str := if k = 0 then ⟨#[10]⟩ else if k = 1 then ⟨#[13]⟩ else ⟨#[13, 10]⟩
noncomputable def endV (k : Nat) : MV := .str (endS k)
noncomputable def bitOf (h : Int) : Nat := (h.fmod 2).toNat
noncomputable def placeOf (h : Int) : Nat := ((h.fdiv 2).fmod 2).toNat
noncomputable def endOf' (h : Int) : Nat := ((h.fdiv 4).fmod 3).toNat
noncomputable def otherOf (h : Int) : Nat := if (h.fdiv 12).fmod 4 = 3 then 1 - bitOf h else bitOf h
theorem bitOf_lt (h : Int) : bitOf h < 2 := by
  obtain ⟨k, h1, h2⟩ := fmod_nat h 2 (by omega)
  have h2 : h.fmod 2 = (k : Int) := h2
  unfold bitOf; rw [h2]; omega
theorem placeOf_lt (h : Int) : placeOf h < 2 := bitOf_lt (h.fdiv 2)
theorem endOf_lt (h : Int) : endOf' h < 3 := by
  obtain ⟨k, h1, h2⟩ := fmod_nat (h.fdiv 4) 3 (by omega)
  have h2 : (h.fdiv 4).fmod 3 = (k : Int) := h2
  unfold endOf'; rw [h2]; omega
theorem otherOf_lt (h : Int) : otherOf h < 2 := by
  have := bitOf_lt h
  unfold otherOf
  split <;> omega
theorem bit_eq (h : Int) : MV.fint (h.fmod 2) = fi (bitOf h) := by
  obtain ⟨k, h1, h2⟩ := fmod_nat h 2 (by omega)
  have h2 : h.fmod 2 = (k : Int) := h2
  unfold bitOf fi; rw [h2, Int.toNat_natCast]
/-- the state behind the five first lists -/
noncomputable def L5 (sc : LV) (hv : MV) (f p e o : List Nat) : List LV :=
  [sc, .val hv, .val (.list (f.map fi)), .val (.list (p.map fi)), .val (.list (e.map endV)), .val (.list (o.map fi)), .undef, .undef, .undef, .undef, .undef, .undef, .undef, .undef, .undef, .undef, .undef, .undef, .undef, .undef, .undef]
theorem head_law (sc : List Int) (h1 : sc.length ≤ 63) : ∃ (hv : MV) (f p e o : List Nat), f.length = 5 ∧ p.length = 5 ∧ e.length = 5 ∧ o.length = 5 ∧ (∀ x ∈ f, x < 2) ∧ (∀ x ∈ p, x < 2) ∧ (∀ x ∈ e, x < 3) ∧ (∀ x ∈ o, x < 2) ∧
    G_law (initL [.ali (sc.map .int)] 20) = T_law_5 (L5 (.ali (sc.map .int)) hv f p e o) := by
  obtain ⟨hs, l5, e0⟩ := heaps_all sc h1
  refine ⟨.list (hs.map .fint), hs.map bitOf, hs.map placeOf, hs.map endOf', hs.map otherOf, by simp [l5], by simp [l5], by simp [l5], by simp [l5], ?_, ?_, ?_, ?_, ?_⟩
  · intro x hx; obtain ⟨h, _, rfl⟩ := List.mem_map.mp hx; exact bitOf_lt h
  · intro x hx; obtain ⟨h, _, rfl⟩ := List.mem_map.mp hx; exact placeOf_lt h
  · intro x hx; obtain ⟨h, _, rfl⟩ := List.mem_map.mp hx; exact endOf_lt h
  · intro x hx; obtain ⟨h, _, rfl⟩ := List.mem_map.mp hx; exact otherOf_lt h
  have hz : (hs.map MV.fint).length ≤ 2000 := by simp [l5]
  unfold G_law T_law_0
  refine (seqS_next (ℓ' := [.ali (sc.map .int), .val (.list (hs.map .fint)), .undef, .undef, .undef, .undef, .undef, .undef, .undef, .undef, .undef, .undef, .undef, .undef, .undef, .undef, .undef, .undef, .undef, .undef, .undef]) ?_).trans ?_
  · exact setV_eq (callF_eq rfl e0)
  unfold T_law_1
  refine (seqS_next (ℓ' := [.ali (sc.map .int), .val (.list (hs.map .fint)), .own ((hs.map bitOf).map fi), .undef, .undef, .undef, .undef, .undef, .undef, .undef, .undef, .undef, .undef, .undef, .undef, .undef, .undef, .undef, .undef, .undef, .undef]) ?_).trans ?_
  · refine setO_eq ((compV_eq (iterF_eq rfl hz) rfl).trans ?_)
    refine compF_map2 _ _ _ hs fun h _ => ?_
    exact congrArg some (bit_eq h)
  show T_law_2 [.ali (sc.map .int), .val (.list (hs.map .fint)), .val (.list ((hs.map bitOf).map fi)), .undef, .undef, .undef, .undef, .undef, .undef, .undef, .undef, .undef, .undef, .undef, .undef, .undef, .undef, .undef, .undef, .undef, .undef] = _
  unfold T_law_2
  refine (seqS_next (ℓ' := [.ali (sc.map .int), .val (.list (hs.map .fint)), .val (.list ((hs.map bitOf).map fi)), .own ((hs.map placeOf).map fi), .undef, .undef, .undef, .undef, .undef, .undef, .undef, .undef, .undef, .undef, .undef, .undef, .undef, .undef, .undef, .undef, .undef]) ?_).trans ?_
  · refine setO_eq ((compV_eq (iterF_eq rfl hz) rfl).trans ?_)
    refine compF_map2 _ _ _ hs fun h _ => ?_
    exact congrArg some (bit_eq (h.fdiv 2))
  show T_law_3 [.ali (sc.map .int), .val (.list (hs.map .fint)), .val (.list ((hs.map bitOf).map fi)), .val (.list ((hs.map placeOf).map fi)), .undef, .undef, .undef, .undef, .undef, .undef, .undef, .undef, .undef, .undef, .undef, .undef, .undef, .undef, .undef, .undef, .undef] = _
  unfold T_law_3
  refine (seqS_next (ℓ' := [.ali (sc.map .int), .val (.list (hs.map .fint)), .val (.list ((hs.map bitOf).map fi)), .val (.list ((hs.map placeOf).map fi)), .own ((hs.map endOf').map endV), .undef, .undef, .undef, .undef, .undef, .undef, .undef, .undef, .undef, .undef, .undef, .undef, .undef, .undef, .undef, .undef]) ?_).trans ?_
  · refine setO_eq ((compV_eq (iterF_eq rfl hz) rfl).trans ?_)
    refine compF_map2 _ _ _ hs fun h _ => ?_
    show itemS (.val (.list [.str "\n", .str "\r", .str "\r\n"])) (.val (.fint ((h.fdiv 4).fmod 3))) = some (endV (endOf' h))
    obtain ⟨k, hk, hk2⟩ := fmod_nat (h.fdiv 4) 3 (by omega)
    have hk2 : (h.fdiv 4).fmod 3 = (k : Int) := hk2
    have hk3 : endOf' h = k := by unfold endOf'; rw [hk2, Int.toNat_natCast]
    rw [hk2, hk3]
    match k, hk with
    | 0, _ => rfl
    | 1, _ => rfl
    | 2, _ => rfl
  show T_law_4 [.ali (sc.map .int), .val (.list (hs.map .fint)), .val (.list ((hs.map bitOf).map fi)), .val (.list ((hs.map placeOf).map fi)), .val (.list ((hs.map endOf').map endV)), .undef, .undef, .undef, .undef, .undef, .undef, .undef, .undef, .undef, .undef, .undef, .undef, .undef, .undef, .undef, .undef] = _
  unfold T_law_4
  refine (seqS_next (ℓ' := [.ali (sc.map .int), .val (.list (hs.map .fint)), .val (.list ((hs.map bitOf).map fi)), .val (.list ((hs.map placeOf).map fi)), .val (.list ((hs.map endOf').map endV)), .own ((hs.map otherOf).map fi), .undef, .undef, .undef, .undef, .undef, .undef, .undef, .undef, .undef, .undef, .undef, .undef, .undef, .undef, .undef]) ?_).trans ?_
  · refine setO_eq ((compV_eq (iterF_eq rfl hz) rfl).trans ?_)
    refine compF_map2 _ _ _ hs fun h _ => ?_
    have ht : bind2 eqF (toAF (bind2 modIF (toAF (bind2 divIF (nameA 0) (toAF (litF (.fint 12))))) (toAF (litF (.fint 4))))) (toAF (litF (.fint 3))) [.val (.fint h)] = some ((h.fdiv 12).fmod 4 == 3) := rfl
    by_cases hc : (h.fdiv 12).fmod 4 = 3
    · refine (ifM_true (ht.trans (congrArg some (beq_iff_eq.mpr hc)))).trans ?_
      show some (MV.fint (1 - h.fmod 2)) = some (fi (otherOf h))
      obtain ⟨k, hk, hk2⟩ := fmod_nat h 2 (by omega)
      have hk2 : h.fmod 2 = (k : Int) := hk2
      have hk3 : bitOf h = k := by unfold bitOf; rw [hk2, Int.toNat_natCast]
      unfold otherOf fi
      rw [if_pos hc, hk3, hk2]
      exact congrArg (fun i => some (MV.fint i)) (by omega)
    · refine (ifM_false (ht.trans (congrArg some (beq_eq_false_iff_ne.mpr hc)))).trans ?_
      show some (MV.fint (h.fmod 2)) = some (fi (otherOf h))
      unfold otherOf
      rw [if_neg hc]
      exact congrArg some (bit_eq h)
  rfl
end Mine
end
section
open PySem PySem.W PyProof.Rows PySem.Calls
set_option Elab.async false
set_option linter.unusedVariables false
set_option linter.unusedSimpArgs false
set_option maxRecDepth 100000
namespace Mine
section
open StrLaws Builtin Builtin.Str
/-! what str.replace gives, as a relation on lists of signs -/
inductive Rp (y z : List Nat) : List Nat → List Nat → Prop
  | nil : Rp y z [] []
  | hit {r r'} : Rp y z r r' → Rp y z (y ++ r) (z ++ r')
  | skip {c r r'} : ¬ (y <+: (c :: r)) → Rp y z r r' → Rp y z (c :: r) (c :: r')
theorem Rp.det {y z : List Nat} (hy : y ≠ []) : ∀ {l a : List Nat}, Rp y z l a → ∀ {b}, Rp y z l b → a = b := by
  intro l a h
  induction h with
  | nil =>
    intro b h
    generalize hl : ([] : List Nat) = l at h
    cases h with
    | nil => rfl
    | hit r => exact absurd (List.append_eq_nil_iff.mp hl.symm).1 hy
    | skip => cases hl
  | hit r ih =>
    rename_i r0 r0'
    intro b h
    generalize hl : y ++ r0 = l at h
    cases h with
    | nil => exact absurd (List.append_eq_nil_iff.mp hl).1 hy
    | hit r2 => rw [ih (List.append_cancel_left hl ▸ r2)]
    | skip n r2 => exact absurd ⟨r0, hl⟩ n
  | skip n r ih =>
    rename_i c r0 r0'
    intro b h
    generalize hl : c :: r0 = l at h
    cases h with
    | nil => cases hl
    | hit r2 => exact absurd ⟨_, hl.symm⟩ n
    | skip n2 r2 => cases hl; rw [ih r2]
theorem Rp.skips {y z : List Nat} : ∀ (l1 : List Nat) {l2 l2' : List Nat}, (∀ k, k < l1.length → ¬ y <+: (l1 ++ l2).drop k) → Rp y z l2 l2' → Rp y z (l1 ++ l2) (l1 ++ l2')
  | [], _, _, _, h => h
  | c :: l1, l2, l2', hn, h => .skip (hn 0 (Nat.zero_lt_succ _)) (Rp.skips l1 (fun k hk => hn (k + 1) (Nat.succ_lt_succ hk)) h)
theorem at_iff (x y : Str) (hy : 1 ≤ y.length) (k : Nat) : At x y x.length k ↔ y.cps.toList <+: x.cps.toList.drop k := by
  unfold At subAt
  rw [beq_iff_eq, ← Array.toList_inj, Array.toList_extract, List.extract_eq_take_drop]
  have hl : y.length = y.cps.toList.length := by rw [Array.length_toList]; rfl
  have hx : x.length = x.cps.toList.length := by rw [Array.length_toList]; rfl
  rw [show k + y.length - k = y.length by omega]
  constructor
  · rintro ⟨_, e⟩
    rw [List.prefix_iff_eq_take, ← hl, e]
  · intro h
    refine ⟨?_, ?_⟩
    · have := h.length_le
      rw [List.length_drop, ← hl, ← hx] at this
      omega
    · rw [List.prefix_iff_eq_take, ← hl] at h; exact h.symm
theorem sub_list (x : Str) (a b : Nat) : (strSub x a b).cps.toList = (x.cps.toList.drop a).take (b - a) := strSub_toList x a b
theorem Rp.parts (x y z : Str) (hy : 1 ≤ y.length) : ∀ (cuts : List Nat) (a f : Nat), ChainG x y x.length a cuts f → (∀ k, f ≤ k → ¬ At x y x.length k) →
    Rp y.cps.toList z.cps.toList (x.cps.toList.drop a) (Str.join z (partsFrom x y.length a cuts)).cps.toList
  | [], a, f, hc, hf => by
    have e : f = a := hc
    subst e
    show Rp _ _ _ (strSub x f x.length).cps.toList
    have hx : x.length = x.cps.toList.length := by rw [Array.length_toList]; rfl
    rw [sub_list, hx, ← List.length_drop, List.take_length]
    have := Rp.skips (y := y.cps.toList) (z := z.cps.toList) (x.cps.toList.drop f) (l2 := []) (l2' := []) (fun k hk => by
      rw [List.append_nil, List.drop_drop, ← at_iff x y hy]; exact hf _ (Nat.le_add_right _ _)) .nil
    simpa using this
  | c :: r, a, f, hc, hf => by
    obtain ⟨h1, h2, h3, h4⟩ := hc
    have ih := Rp.parts x y z hy r (c + y.length) f h4 hf
    obtain ⟨p, q, hpq⟩ := partsFrom_ne x y.length (c + y.length) r
    have ej : (Str.join z (partsFrom x y.length a (c :: r))).cps.toList = (x.cps.toList.drop a).take (c - a) ++ (z.cps.toList ++ (Str.join z (partsFrom x y.length (c + y.length) r)).cps.toList) := by
      show (Str.join z (strSub x a c :: partsFrom x y.length (c + y.length) r)).cps.toList = _
      rw [hpq]
      show (strSub x a c ++ z ++ Str.join z (p :: q)).cps.toList = _
      simp only [Str.cps_append, Array.toList_append]
      rw [sub_list, List.append_assoc]
    rw [ej]
    have hd : x.cps.toList.drop c = y.cps.toList ++ x.cps.toList.drop (c + y.length) := by
      obtain ⟨t, ht⟩ := (at_iff x y hy c).mp h2
      have : t = x.cps.toList.drop (c + y.length) := by
        rw [← List.drop_drop, ← ht, show y.length = y.cps.toList.length by rw [Array.length_toList]; rfl, List.drop_left]
      rw [← this, ht]
    have e2 : x.cps.toList.drop a = (x.cps.toList.drop a).take (c - a) ++ x.cps.toList.drop c := by
      conv => lhs; rw [← List.take_append_drop (c - a) (x.cps.toList.drop a)]
      rw [List.drop_drop, show a + (c - a) = c by omega]
    have key := Rp.skips (y := y.cps.toList) (z := z.cps.toList) ((x.cps.toList.drop a).take (c - a)) (l2 := x.cps.toList.drop c) (l2' := z.cps.toList ++ (Str.join z (partsFrom x y.length (c + y.length) r)).cps.toList) (fun k hk => by
      rw [← e2, List.drop_drop, ← at_iff x y hy]
      rw [List.length_take] at hk
      exact h3 _ (Nat.le_add_right _ _) (by omega)) (hd ▸ .hit ih)
    rw [← e2] at key
    exact key
theorem Rp.replace (x y z : Str) (hy : 1 ≤ y.length) : Rp y.cps.toList z.cps.toList x.cps.toList (Txt.replace x y z).cps.toList := by
  obtain ⟨f, h1, h2⟩ := occ_tight x y hy
  have key := Rp.parts x y z hy _ 0 f h1 h2
  rw [List.drop_zero] at key
  have e : Txt.replace x y z = Str.join z (partsFrom x y.length 0 (occurrences x y 0 x.length (x.length + 1))) := by
    unfold Txt.replace
    have h0 : (y.length == 0) = false := by rw [beq_eq_false_iff_ne]; omega
    rw [h0, Bool.false_and, Bool.or_false]
    cases ho : occurrences x y 0 x.length (x.length + 1) with
    | nil => exact (if_pos rfl).trans (sub_whole x).symm
    | cons c r => exact (if_neg (by simp)).trans (by rw [glued_eq_join, partsBetween_eq])
  rw [e]; exact key
end
/-! rows of dots -/
noncomputable def endC (k : Nat) : List Nat := if k = 0 then [10] else if k = 1 then [13] else [13, 10]
noncomputable def rowC (r : Nat × Nat) : List Nat := List.replicate r.1 46 ++ endC r.2
noncomputable def rowsC (rs : List (Nat × Nat)) : List Nat := rs.flatMap rowC
noncomputable def rowsS (rs : List (Nat × Nat)) : Str := ⟨(rowsC rs).toArray⟩
noncomputable def tabsC (ds : List Nat) : List Nat := ds.flatMap fun d => List.replicate d 46 ++ [9]
noncomputable def leadC (ds : List Nat) : List Nat := ds.flatMap fun d => List.replicate d 32 ++ [9]
noncomputable def crlf (ds : List Nat) : List (Nat × Nat) := ds.map fun d => (d, 2)
theorem rp_ends : ∀ ds : List Nat, Rp [13, 10] [9] (rowsC (crlf ds)) (tabsC ds)
  | [] => .nil
  | d :: ds => by
    have ih := rp_ends ds
    show Rp _ _ (rowC (d, 2) ++ rowsC (crlf ds)) ((List.replicate d 46 ++ [9]) ++ tabsC ds)
    unfold rowC
    rw [List.append_assoc, List.append_assoc]
    have h2 : Rp [13, 10] [9] (endC 2 ++ rowsC (crlf ds)) ([9] ++ tabsC ds) := Rp.hit ih
    generalize endC 2 ++ rowsC (crlf ds) = l at h2
    generalize [9] ++ tabsC ds = l' at h2
    show Rp _ _ (List.replicate d 46 ++ l) (List.replicate d 46 ++ l')
    induction d with
    | zero => exact h2
    | succ d ihd =>
      rw [List.replicate_succ, List.cons_append, List.cons_append]
      exact .skip (fun h => by obtain ⟨t, e⟩ := h; cases e) ihd
theorem rp_dots : ∀ ds : List Nat, Rp [46] [32] (tabsC ds) (leadC ds)
  | [] => .nil
  | d :: ds => by
    have ih := rp_dots ds
    show Rp _ _ ((List.replicate d 46 ++ [9]) ++ tabsC ds) ((List.replicate d 32 ++ [9]) ++ leadC ds)
    rw [List.append_assoc, List.append_assoc]
    induction d with
    | zero => exact .skip (fun h => by obtain ⟨t, e⟩ := h; cases e) ih
    | succ d ihd =>
      rw [List.replicate_succ, List.replicate_succ, List.cons_append, List.cons_append]
      exact Rp.hit (y := [46]) (z := [32]) ihd
theorem str_ext {a b : Str} (h : a.cps.toList = b.cps.toList) : a = b := by
  obtain ⟨a⟩ := a; obtain ⟨b⟩ := b
  exact congrArg Str.mk (Array.toList_inj.mp h)
end Mine
end
section
open PySem PySem.W PyProof.Rows PySem.Calls
set_option Elab.async false
set_option linter.unusedVariables false
set_option linter.unusedSimpArgs false
set_option maxRecDepth 100000
namespace Mine
/-! the mail -/
theorem defF_ret {ps : Nat} {g : SF} {k : Nat} {lvs : List LV} {m : MV} (hl : lvs.length = ps) (h : g (initL lvs k) = some (.ret m)) : defF ps g k lvs = some m := by
  unfold defF
  rw [if_pos hl]
  unfold fnF
  rw [h]
theorem retF_eq {f : MF} {ℓ : List LV} {m : MV} (h : f ℓ = some m) : retF f ℓ = some (.ret m) := by unfold retF; rw [h]
theorem concat_eq (a b : Str) (h : a.length + b.length ≤ 100000) : F_concat [.val (.str a), .val (.str b)] = some (.str (a ++ b)) := by
  unfold F_concat
  refine defF_ret (ps := 2) rfl ?_
  show G_concat [.val (.str a), .val (.str b), .undef] = _
  unfold G_concat
  refine (seqS_next (ℓ' := [.val (.str a), .val (.str b), .undef]) (by kernel_rfl)).trans ?_
  refine seqS_ret (retF_eq ?_)
  show (if a.length + b.length ≤ 100000 then some (MV.str (a ++ b)) else none) = _
  rw [if_pos h]
theorem fixeols_eq (x : Str) (h : x.cps.size ≤ 400000) : F__fix_eols [.val (.str x)] = some (.str (fixS x)) := by
  unfold F__fix_eols
  refine defF_ret (ps := 1) rfl ?_
  show G__fix_eols [.val (.str x)] = _
  unfold G__fix_eols
  refine seqS_ret (retF_eq ?_)
  show (if (⟨#[13, 10]⟩ : Str) = ⟨#[13, 10]⟩ ∧ x.cps.size ≤ 400000 then some (MV.str (fixS x)) else none) = _
  rw [if_pos ⟨rfl, h⟩]
theorem quote_eq (x : Str) (h : x.cps.size ≤ 400000) (h2 : (fixS x).cps.size ≤ 400000) : F_quotedata [.val (.str x)] = some (.str (quoteS (fixS x))) := by
  unfold F_quotedata
  refine defF_ret (ps := 1) rfl ?_
  show G_quotedata [.val (.str x)] = _
  unfold G_quotedata
  refine seqS_ret (retF_eq ?_)
  have e1 : subFF ⟨#[13, 10]⟩ fixS (cons2 (litF (.str ⟨#[13, 10]⟩)) (cons2 (nameE 0) nilF)) [.val (.str x)] = some (.str (fixS x)) := by
    show (if (⟨#[13, 10]⟩ : Str) = ⟨#[13, 10]⟩ ∧ x.cps.size ≤ 400000 then some (MV.str (fixS x)) else none) = _
    rw [if_pos ⟨rfl, h⟩]
  have e2 : cons2 (litF (.str "..")) (cons2 (subFF ⟨#[13, 10]⟩ fixS (cons2 (litF (.str ⟨#[13, 10]⟩)) (cons2 (nameE 0) nilF))) nilF) [.val (.str x)] = some [.str "..", .str (fixS x)] := cons2_eq rfl (cons2_eq e1 rfl)
  show (cons2 _ _ _).bind _ = _
  rw [e2]
  show (if ((".." : Str)) = ⟨#[46, 46]⟩ ∧ (fixS x).cps.size ≤ 400000 then some (MV.str (quoteS (fixS x))) else none) = _
  rw [if_pos ⟨by decide +kernel, h2⟩]

noncomputable def RowOK (rs : List (Nat × Nat)) : Prop := ∀ r ∈ rs, 1 ≤ r.1 ∧ r.1 ≤ 20 ∧ r.2 < 3
theorem endC_len (k : Nat) : (endC k).length ≤ 2 := by
  unfold endC
  split
  · decide
  · split <;> decide
theorem rows_len : ∀ {rs : List (Nat × Nat)}, RowOK rs → (rowsC rs).length ≤ 22 * rs.length
  | [], _ => Nat.le_refl _
  | r :: rs, h => by
    have h1 := h r (.head _)
    have ih := rows_len fun x hx => h x (.tail _ hx)
    have h2 := endC_len r.2
    show (rowC r ++ rowsC rs).length ≤ _
    unfold rowC
    rw [List.length_append, List.length_append, List.length_replicate, List.length_cons]
    omega
theorem rowsS_size {rs : List (Nat × Nat)} (h : RowOK rs) (hl : rs.length ≤ 20) : (rowsS rs).cps.size ≤ 440 := by
  have := rows_len h
  show (rowsC rs).toArray.size ≤ _
  rw [List.size_toArray]; omega
theorem fix_row (d k : Nat) (b : Bool) (hd : 1 ≤ d) (hk : k < 3) (l : List Nat) (hl : ∀ b b', fixA b l = fixA b' l) : fixA b (List.replicate d 46 ++ endC k ++ l) = List.replicate d 46 ++ endC 2 ++ fixA false l := by
  obtain ⟨d, rfl⟩ : ∃ d', d = d' + 1 := ⟨d - 1, by omega⟩
  rw [List.append_assoc, List.replicate_succ, List.cons_append]
  have e1 : fixA b (46 :: (List.replicate d 46 ++ (endC k ++ l))) = 46 :: fixA false (List.replicate d 46 ++ (endC k ++ l)) := by
    show (if (46 : Nat) = 13 then _ else if (46 : Nat) = 10 then _ else 46 :: fixA false (List.replicate d 46 ++ (endC k ++ l))) = _
    rw [if_neg (by decide), if_neg (by decide)]
  rw [e1, fixA_plain (fun c hc => by rw [List.eq_of_mem_replicate hc]; decide)]
  have e2 : fixA false (endC k ++ l) = endC 2 ++ fixA false l := by
    match k, hk with
    | 0, _ => rfl
    | 1, _ =>
      show 13 :: 10 :: fixA true l = 13 :: 10 :: fixA false l
      rw [hl true false]
    | 2, _ => rfl
  rw [e2]
  simp
theorem fix_rows : ∀ (rs : List (Nat × Nat)) (b : Bool), RowOK rs → fixA b (rowsC rs) = rowsC (rs.map fun r => (r.1, 2))
  | [], _, _ => rfl
  | r :: rs, b, h => by
    have h1 := h r (.head _)
    have hr : RowOK rs := fun x hx => h x (.tail _ hx)
    show fixA b (rowC r ++ rowsC rs) = rowC (r.1, 2) ++ rowsC (rs.map fun r => (r.1, 2))
    unfold rowC
    rw [fix_row r.1 r.2 b h1.1 h1.2.2 _ fun b b' => (fix_rows rs b hr).trans (fix_rows rs b' hr).symm, fix_rows rs false hr]
theorem fixS_rows {rs : List (Nat × Nat)} (h : RowOK rs) : fixS (rowsS rs) = rowsS (rs.map fun r => (r.1, 2)) := by
  unfold fixS rowsS
  rw [← fix_rows rs false h]
theorem quote_dots : ∀ (d : Nat) (l : List Nat), quoteA false (List.replicate d 46 ++ l) = List.replicate d 46 ++ quoteA false l
  | 0, _ => rfl
  | d + 1, l => by
    rw [List.replicate_succ, List.cons_append, List.cons_append, ← quote_dots d l]
    rfl
theorem quote_rows : ∀ ds : List Nat, (∀ d ∈ ds, 1 ≤ d) → quoteA true (rowsC (crlf ds)) = rowsC (crlf (ds.map (· + 1)))
  | [], _ => rfl
  | d :: ds, h => by
    have ih := quote_rows ds fun x hx => h x (.tail _ hx)
    obtain ⟨d, rfl⟩ : ∃ d', d = d' + 1 := ⟨d - 1, by have := h d (.head _); omega⟩
    show quoteA true (rowC (d + 1, 2) ++ rowsC (crlf ds)) = rowC (d + 1 + 1, 2) ++ rowsC (crlf (ds.map (· + 1)))
    rw [← ih]
    unfold rowC
    show quoteA true (List.replicate (d + 1) 46 ++ endC 2 ++ rowsC (crlf ds)) = List.replicate (d + 1 + 1) 46 ++ endC 2 ++ quoteA true (rowsC (crlf ds))
    rw [List.append_assoc, List.append_assoc, List.replicate_succ, List.cons_append, List.replicate_succ, List.replicate_succ, List.cons_append, List.cons_append]
    show 46 :: 46 :: quoteA false (List.replicate d 46 ++ (endC 2 ++ rowsC (crlf ds))) = _
    rw [quote_dots]
    rfl
theorem quoteS_rows {ds : List Nat} (h : ∀ d ∈ ds, 1 ≤ d) : quoteS (rowsS (crlf ds)) = rowsS (crlf (ds.map (· + 1))) := by
  unfold quoteS rowsS
  rw [← quote_rows ds h]
noncomputable def dots (rs : List (Nat × Nat)) : List Nat := rs.map (·.1)
theorem fixS_dots {rs : List (Nat × Nat)} (h : RowOK rs) : fixS (rowsS rs) = rowsS (crlf (dots rs)) := by
  rw [fixS_rows h]; unfold crlf dots; rw [List.map_map]; rfl
theorem crlf_ok {ds : List Nat} (h : ∀ d ∈ ds, 1 ≤ d ∧ d ≤ 20) : RowOK (crlf ds) := fun r hr => by
  obtain ⟨d, hd, rfl⟩ := List.mem_map.mp hr
  exact ⟨(h d hd).1, (h d hd).2, Nat.lt_succ_self 2⟩
theorem quotedata_rows {rs : List (Nat × Nat)} (h : RowOK rs) (hl : rs.length ≤ 20) : F_quotedata [.val (.str (rowsS rs))] = some (.str (rowsS (crlf ((dots rs).map (· + 1))))) := by
  have hd : ∀ d ∈ dots rs, 1 ≤ d ∧ d ≤ 20 := fun d hd => by obtain ⟨r, hr, rfl⟩ := List.mem_map.mp hd; exact ⟨(h r hr).1, (h r hr).2.1⟩
  have s1 := rowsS_size h hl
  have s2 := rowsS_size (crlf_ok hd) (by unfold crlf dots; simp; exact hl)
  rw [quote_eq _ (by omega) (by rw [fixS_dots h]; omega), fixS_dots h, quoteS_rows fun d m => (hd d m).1]
theorem fixeols_rows {rs : List (Nat × Nat)} (h : RowOK rs) (hl : rs.length ≤ 20) : F__fix_eols [.val (.str (rowsS rs))] = some (.str (rowsS (crlf (dots rs)))) := by
  have s1 := rowsS_size h hl
  rw [fixeols_eq _ (by omega), fixS_dots h]
theorem rowsS_append (a b : List (Nat × Nat)) : rowsS a ++ rowsS b = rowsS (a ++ b) := by
  refine str_ext ?_
  rw [Str.cps_append, Array.toList_append]
  show rowsC a ++ rowsC b = rowsC (a ++ b)
  unfold rowsC
  rw [List.flatMap_append]
theorem concat_rows {a b : List (Nat × Nat)} (ha : RowOK a) (hb : RowOK b) (la : a.length ≤ 20) (lb : b.length ≤ 20) : F_concat [.val (.str (rowsS a)), .val (.str (rowsS b))] = some (.str (rowsS (a ++ b))) := by
  have s1 : (rowsS a).length ≤ 440 := rowsS_size ha la
  have s2 : (rowsS b).length ≤ 440 := rowsS_size hb lb
  rw [concat_eq _ _ (by omega), rowsS_append]
noncomputable def mailStep (g f p k : Nat) (rs : List (Nat × Nat)) : List (Nat × Nat) :=
  if p = 1 then (if f = 1 then g + 1 else 1, k) :: (if f = 1 then crlf ((dots rs).map (· + 1)) else rs) else (if f = 1 then crlf ((dots rs).map (· + 1)) else rs) ++ [(if f = 1 then g + 1 else 1, k)]
noncomputable def mailN (f p e : List Nat) : Nat → List (Nat × Nat)
  | 0 => [(1, 0)]
  | n + 1 => mailStep (n + 1) (f.getD n 0) (p.getD n 0) (e.getD n 0) (mailN f p e n)
noncomputable def dotsN (f p : List Nat) : Nat → List Nat
  | 0 => [1]
  | n + 1 => if p.getD n 0 = 1 then (if f.getD n 0 = 1 then n + 2 else 1) :: (if f.getD n 0 = 1 then (dotsN f p n).map (· + 1) else dotsN f p n)
    else (if f.getD n 0 = 1 then (dotsN f p n).map (· + 1) else dotsN f p n) ++ [if f.getD n 0 = 1 then n + 2 else 1]
theorem dots_crlf (ds : List Nat) : dots (crlf ds) = ds := by unfold dots crlf; rw [List.map_map]; exact List.map_id ds
theorem mail_dots (f p e : List Nat) : ∀ n, dots (mailN f p e n) = dotsN f p n
  | 0 => rfl
  | n + 1 => by
    have ih := mail_dots f p e n
    unfold mailN mailStep dotsN
    by_cases hf : f.getD n 0 = 1 <;> by_cases hp : p.getD n 0 = 1
    · simp only [if_pos hp, if_pos hf, ← ih]
      show (n + 1 + 1) :: dots (crlf _) = _
      rw [dots_crlf]
    · simp only [if_neg hp, if_pos hf, ← ih]
      show dots (crlf _ ++ _) = _
      unfold dots
      rw [List.map_append]
      show dots (crlf _) ++ _ = _
      rw [dots_crlf]; rfl
    · simp only [if_pos hp, if_neg hf, ← ih]; rfl
    · simp only [if_neg hp, if_neg hf, ← ih]
      unfold dots
      rw [List.map_append]; rfl
theorem dotsN_ok (f p : List Nat) : ∀ n, (dotsN f p n).length = n + 1 ∧ ∀ d ∈ dotsN f p n, 1 ≤ d ∧ d ≤ n + 1
  | 0 => ⟨rfl, fun d hd => by rw [List.mem_singleton.mp hd]; decide⟩
  | n + 1 => by
    obtain ⟨h1, h2⟩ := dotsN_ok f p n
    have hmid : ∀ d ∈ (if f.getD n 0 = 1 then (dotsN f p n).map (· + 1) else dotsN f p n), 1 ≤ d ∧ d ≤ n + 2 := fun d hd => by
      split at hd
      · obtain ⟨c, hc, rfl⟩ := List.mem_map.mp hd
        have := h2 c hc; omega
      · have := h2 d hd; omega
    have hlen : (if f.getD n 0 = 1 then (dotsN f p n).map (· + 1) else dotsN f p n).length = n + 1 := by split <;> simp [h1]
    have hnew : 1 ≤ (if f.getD n 0 = 1 then n + 2 else 1) ∧ (if f.getD n 0 = 1 then n + 2 else 1) ≤ n + 2 := by split <;> omega
    unfold dotsN
    split
    · refine ⟨by rw [List.length_cons, hlen], fun d hd => ?_⟩
      rcases List.mem_cons.mp hd with rfl | hd
      · exact hnew
      · exact hmid d hd
    · refine ⟨by rw [List.length_append, hlen]; rfl, fun d hd => ?_⟩
      rcases List.mem_append.mp hd with hd | hd
      · exact hmid d hd
      · rw [List.mem_singleton.mp hd]; exact hnew
theorem mail_ok (f p e : List Nat) (he : ∀ n, e.getD n 0 < 3) : ∀ n, n ≤ 5 → RowOK (mailN f p e n) ∧ (mailN f p e n).length = n + 1
  | 0, _ => ⟨fun r hr => by rw [List.mem_singleton.mp hr]; decide, rfl⟩
  | n + 1, hn => by
    obtain ⟨h1, h2⟩ := mail_ok f p e he n (by omega)
    have hd := dotsN_ok f p (n + 1)
    rw [← mail_dots f p e (n + 1)] at hd
    refine ⟨fun r hr => ⟨(hd.2 r.1 (List.mem_map_of_mem hr)).1, by have := (hd.2 r.1 (List.mem_map_of_mem hr)).2; omega, ?_⟩, by have := hd.1; unfold dots at this; rwa [List.length_map] at this⟩
    have hmid : ∀ r ∈ (if f.getD n 0 = 1 then crlf ((dots (mailN f p e n)).map (· + 1)) else mailN f p e n), r.2 < 3 := fun r hr => by
      split at hr
      · obtain ⟨d, _, rfl⟩ := List.mem_map.mp hr; exact Nat.lt_succ_self 2
      · exact (h1 r hr).2.2
    unfold mailN mailStep at hr
    split at hr
    · rcases List.mem_cons.mp hr with rfl | hr
      · exact he n
      · exact hmid r hr
    · rcases List.mem_append.mp hr with hr | hr
      · exact hmid r hr
      · rw [List.mem_singleton.mp hr]; exact he n
end Mine
end
section
open PySem PySem.W PyProof.Rows PySem.Calls
set_option Elab.async false
set_option linter.unusedVariables false
set_option linter.unusedSimpArgs false
set_option maxRecDepth 100000
namespace Mine
noncomputable def dotS (g : Nat) : Str := ⟨(List.replicate g 46).toArray⟩
theorem lt3 {P : Nat → Prop} (h0 : P 0) (h1 : P 1) (h2 : P 2) : ∀ k, k < 3 → P k
  | 0, _ => h0
  | 1, _ => h1
  | 2, _ => h2
theorem lt5 {P : Nat → Prop} (h0 : P 0) (h1 : P 1) (h2 : P 2) (h3 : P 3) (h4 : P 4) : ∀ k, k < 5 → P k
  | 0, _ => h0
  | 1, _ => h1
  | 2, _ => h2
  | 3, _ => h3
  | 4, _ => h4
theorem row1 (k : Nat) (hk : k < 3) : F_concat [.val (.str "."), .val (.str (endS k))] = some (.str (rowsS [(1, k)])) := by
  revert k
  refine lt3 ?_ ?_ ?_ <;> kernel_rfl
theorem mulDot (n : Nat) (h : n < 5) : F_mul [.val (.str "."), .val (fi (n + 1))] = some (.str (dotS (n + 1))) := by
  revert n
  refine lt5 ?_ ?_ ?_ ?_ ?_ <;> kernel_rfl
theorem row2 (n k : Nat) (h : n < 5) (hk : k < 3) : F_concat [.val (.str (dotS (n + 1))), .val (.str (rowsS [(1, k)]))] = some (.str (rowsS [(n + 2, k)])) := by
  have key : dotS (n + 1) ++ rowsS [(1, k)] = rowsS [(n + 2, k)] := by
    refine str_ext ?_
    rw [Str.cps_append, Array.toList_append]
    show List.replicate (n + 1) 46 ++ (List.replicate 1 46 ++ endC k ++ []) = List.replicate (n + 2) 46 ++ endC k ++ []
    rw [show n + 2 = n + 1 + 1 from rfl, ← List.replicate_append_replicate (n := n + 1) (m := 1)]
    simp
  have s1 : (dotS (n + 1)).length ≤ 20 := by
    show (List.replicate (n + 1) 46).toArray.size ≤ 20
    rw [List.size_toArray, List.length_replicate]; omega
  have s2 : (rowsS [(1, k)]).length ≤ 440 := rowsS_size (fun r hr => by rw [List.mem_singleton.mp hr]; exact ⟨Nat.le_refl 1, Nat.le_of_ble_eq_true rfl, hk⟩) (Nat.le_of_ble_eq_true rfl)
  rw [concat_eq _ _ (by omega), key]
theorem get_at (l : List Nat) (n : Nat) (h : n < l.length) : l[n]? = some (l.getD n 0) := by
  simp [List.getD, h]
theorem idx_eq (n : Nat) : (((n + 1 : Nat) : Int) - 1) = (n : Int) := by omega
noncomputable abbrev mailL (f p e : List Nat) (rs : List (Nat × Nat)) (gl row : LV) : List LV := [.val (.list (f.map fi)), .val (.list (p.map fi)), .val (.list (e.map endV)), .val (.str (rowsS rs)), gl, row]
theorem mail_step (f p e : List Nat) (hf : f.length = 5) (hp : p.length = 5) (he : e.length = 5) (he3 : ∀ n, e.getD n 0 < 3) (n : Nat) (hn : n < 5) (row : LV) :
    ∃ row', B__law_mail_1 (mailL f p e (mailN f p e n) (.val (fi (n + 1))) row) = some (.next (mailL f p e (mailN f p e (n + 1)) (.val (fi (n + 1))) row')) := by
  obtain ⟨hok, hlen⟩ := mail_ok f p e he3 n (by omega)
  generalize hk : e.getD n 0 = k at *
  have hk3 : k < 3 := hk ▸ he3 n
  generalize hrs : mailN f p e n = rs at *
  have ix : ∀ (rs : List (Nat × Nat)) (row : LV), bind2 subIF (nameA 4) (toAF (litF (.fint 1))) (mailL f p e rs (.val (fi (n + 1))) row) = some (.fint (((n + 1 : Nat) : Int) - 1)) := fun _ _ => rfl
  have a1 : callF (cons2 (toAF (litF (.str "."))) (cons2 (toAF (bind2 itemS (nameA 2) (toAF (bind2 subIF (nameA 4) (toAF (litF (.fint 1))))))) nilF)) F_concat (mailL f p e rs (.val (fi (n + 1))) row) = some (.str (rowsS [(1, k)])) := by
    have e1 : bind2 itemS (nameA 2) (toAF (bind2 subIF (nameA 4) (toAF (litF (.fint 1))))) (mailL f p e rs (.val (fi (n + 1))) row) = some (endV k) :=
      (bind2_eq (x := .val (.list (e.map endV))) rfl (toAF_eq (ix rs row))).trans (itemS_list (k := n) (by simp [he]) (idx_eq n) (by rw [List.getElem?_map, get_at e n (by omega), hk]; rfl))
    exact callF_eq (cons2_eq rfl (cons2_eq (toAF_eq e1) rfl)) (row1 k hk3)
  have tst : ∀ (rs : List (Nat × Nat)) (row : LV), bind2 eqF (toAF (bind2 itemS (nameA 0) (toAF (bind2 subIF (nameA 4) (toAF (litF (.fint 1))))))) (toAF (litF (.fint 1))) (mailL f p e rs (.val (fi (n + 1))) row) = some (((f.getD n 0 : Nat) : Int) == 1) := fun rs row => by
    have e1 : bind2 itemS (nameA 0) (toAF (bind2 subIF (nameA 4) (toAF (litF (.fint 1))))) (mailL f p e rs (.val (fi (n + 1))) row) = some (fi (f.getD n 0)) :=
      (bind2_eq (x := .val (.list (f.map fi))) rfl (toAF_eq (ix rs row))).trans (itemS_list (k := n) (by simp [hf]) (idx_eq n) (by rw [List.getElem?_map, get_at f n (by omega)]; rfl))
    exact (bind2_eq (y := .val (.fint 1)) (toAF_eq e1) rfl).trans rfl
  have tst2 : ∀ (rs : List (Nat × Nat)) (row : LV), bind2 eqF (toAF (bind2 itemS (nameA 1) (toAF (bind2 subIF (nameA 4) (toAF (litF (.fint 1))))))) (toAF (litF (.fint 1))) (mailL f p e rs (.val (fi (n + 1))) row) = some (((p.getD n 0 : Nat) : Int) == 1) := fun rs row => by
    have e1 : bind2 itemS (nameA 1) (toAF (bind2 subIF (nameA 4) (toAF (litF (.fint 1))))) (mailL f p e rs (.val (fi (n + 1))) row) = some (fi (p.getD n 0)) :=
      (bind2_eq (x := .val (.list (p.map fi))) rfl (toAF_eq (ix rs row))).trans (itemS_list (k := n) (by simp [hp]) (idx_eq n) (by rw [List.getElem?_map, get_at p n (by omega)]; rfl))
    exact (bind2_eq (y := .val (.fint 1)) (toAF_eq e1) rfl).trans rfl
  have last : ∀ (rs' : List (Nat × Nat)) (new : Nat × Nat), RowOK rs' → rs'.length ≤ 10 → RowOK [new] →
      seqS (setV 3 (ifM (bind2 eqF (toAF (bind2 itemS (nameA 1) (toAF (bind2 subIF (nameA 4) (toAF (litF (.fint 1))))))) (toAF (litF (.fint 1)))) (callF (cons2 (nameA 5) (cons2 (nameA 3) nilF)) F_concat) (callF (cons2 (nameA 3) (cons2 (nameA 5) nilF)) F_concat))) nextF
        (mailL f p e rs' (.val (fi (n + 1))) (.val (.str (rowsS [new])))) = some (.next (mailL f p e (if p.getD n 0 = 1 then new :: rs' else rs' ++ [new]) (.val (fi (n + 1))) (.val (.str (rowsS [new]))))) := fun rs' new o1 l1 o2 => by
    by_cases hp1 : p.getD n 0 = 1
    · rw [if_pos hp1]
      refine (seqS_next (setV_eq ((ifM_true ((tst2 rs' _).trans (by rw [hp1]; rfl))).trans (callF_eq rfl (concat_rows o2 o1 (Nat.le_of_ble_eq_true rfl) (by omega)))))).trans ?_
      rfl
    · rw [if_neg hp1]
      have hne : (((p.getD n 0 : Nat) : Int) == 1) = false := beq_eq_false_iff_ne.mpr (by omega)
      refine (seqS_next (setV_eq ((ifM_false ((tst2 rs' _).trans (by rw [hne]))).trans (callF_eq rfl (concat_rows o1 o2 (by omega) (Nat.le_of_ble_eq_true rfl)))))).trans ?_
      rfl
  have okn : ∀ g, g < 6 → RowOK [(g + 1, k)] := fun g hg r hr => by rw [List.mem_singleton.mp hr]; exact ⟨by show 1 ≤ g + 1; omega, by show g + 1 ≤ 20; omega, hk3⟩
  unfold B__law_mail_1
  by_cases hf1 : f.getD n 0 = 1
  · have ok2 : RowOK (crlf ((dots rs).map (· + 1))) := crlf_ok fun d hd => by
      obtain ⟨c, hc, rfl⟩ := List.mem_map.mp hd
      have := (dotsN_ok f p n).2
      rw [← mail_dots f p e n, hrs] at this
      have := this c hc; omega
    have l2 : (crlf ((dots rs).map (· + 1))).length ≤ 10 := by unfold crlf dots; simp; omega
    refine ⟨.val (.str (rowsS [(n + 2, k)])), ?_⟩
    refine (seqS_next (setV_eq a1)).trans ?_
    refine (seqS_next (ℓ' := mailL f p e (crlf ((dots rs).map (· + 1))) (.val (fi (n + 1))) (.val (.str (rowsS [(n + 2, k)])))) ?_).trans ?_
    · refine (ifM_true ((tst rs _).trans (by rw [hf1]; rfl))).trans ?_
      have b1 : callF (cons2 (nameA 3) nilF) F_quotedata (mailL f p e rs (.val (fi (n + 1))) (.val (.str (rowsS [(1, k)])))) = some (.str (rowsS (crlf ((dots rs).map (· + 1))))) := callF_eq rfl (quotedata_rows hok (by omega))
      refine (seqS_next (setV_eq b1)).trans ?_
      have b2 : callF (cons2 (toAF (callF (cons2 (toAF (litF (.str "."))) (cons2 (nameA 4) nilF)) F_mul)) (cons2 (nameA 5) nilF)) F_concat (mailL f p e (crlf ((dots rs).map (· + 1))) (.val (fi (n + 1))) (.val (.str (rowsS [(1, k)])))) = some (.str (rowsS [(n + 2, k)])) :=
        callF_eq (cons2_eq (toAF_eq (callF_eq rfl (mulDot n hn))) (cons2_eq (x := .val (.str (rowsS [(1, k)]))) rfl rfl)) (row2 n k hn hk3)
      refine (seqS_next (setV_eq b2)).trans ?_
      rfl
    · refine (last _ (n + 2, k) ok2 l2 (okn (n + 1) (by omega))).trans ?_
      have : mailN f p e (n + 1) = (if p.getD n 0 = 1 then (n + 2, k) :: crlf ((dots rs).map (· + 1)) else crlf ((dots rs).map (· + 1)) ++ [(n + 2, k)]) := by
        show mailStep (n + 1) (f.getD n 0) (p.getD n 0) (e.getD n 0) (mailN f p e n) = _
        unfold mailStep
        rw [hrs, hk, hf1]
        simp only [if_true]
      rw [this]
  · have hne : (((f.getD n 0 : Nat) : Int) == 1) = false := beq_eq_false_iff_ne.mpr (by omega)
    refine ⟨.val (.str (rowsS [(1, k)])), ?_⟩
    refine (seqS_next (setV_eq a1)).trans ?_
    refine (seqS_next (ℓ' := mailL f p e rs (.val (fi (n + 1))) (.val (.str (rowsS [(1, k)])))) ((ifM_false ((tst rs _).trans (by rw [hne]))).trans rfl)).trans ?_
    refine (last rs (1, k) hok (by omega) (okn 0 (by omega))).trans ?_
    have : mailN f p e (n + 1) = (if p.getD n 0 = 1 then (1, k) :: rs else rs ++ [(1, k)]) := by
      show mailStep (n + 1) (f.getD n 0) (p.getD n 0) (e.getD n 0) (mailN f p e n) = _
      unfold mailStep
      rw [hrs, hk, if_neg hf1, if_neg hf1]
    rw [this]
theorem forL_cons {i : Nat} {g : SF} {m : MV} {ms : List MV} {ℓ ℓ' : List LV} (h : g (ℓ.set i (.val m)) = some (.next ℓ')) : forL i g (m :: ms) ℓ = forL i g ms ℓ' := by
  conv => lhs; unfold forL
  rw [h]
theorem mail_eq (f p e : List Nat) (hf : f.length = 5) (hp : p.length = 5) (he : e.length = 5) (he3 : ∀ n, e.getD n 0 < 3) :
    F__law_mail [.val (.list (f.map fi)), .val (.list (p.map fi)), .val (.list (e.map endV))] = some (.str (rowsS (mailN f p e 5))) := by
  unfold F__law_mail
  refine defF_ret (ps := 3) rfl ?_
  show G__law_mail [.val (.list (f.map fi)), .val (.list (p.map fi)), .val (.list (e.map endV)), .undef, .undef, .undef] = _
  unfold G__law_mail
  refine (seqS_next (ℓ' := mailL f p e (mailN f p e 0) .undef .undef) (by kernel_rfl)).trans ?_
  have hl : lenFF (nameA 0) (mailL f p e (mailN f p e 0) .undef .undef) = some (5 : Int) := by
    show (if szOK (f.map fi) then some (((f.map fi).length : Nat) : Int) else none) = _
    rw [if_pos (szOK_le (by simp [hf])), List.length_map, hf]; rfl
  have hr : rangF (cons2 (toAF (litF (.fint 1))) (cons2 (toAF (bind2 addF (toAF (toIF (lenFF (nameA 0)))) (toAF (litF (.fint 1))))) nilF)) (mailL f p e (mailN f p e 0) .undef .undef) = some [fi 1, fi 2, fi 3, fi 4, fi 5] :=
    callF_eq (F := rangeA) (cons2_eq rfl (cons2_eq (toAF_eq ((bind2_eq (y := .val (.fint 1)) (toAF_eq (toIF_eq hl)) rfl).trans rfl)) rfl)) (by kernel_rfl)
  obtain ⟨r1, e1⟩ := mail_step f p e hf hp he he3 0 (by omega) .undef
  obtain ⟨r2, e2⟩ := mail_step f p e hf hp he he3 1 (by omega) r1
  obtain ⟨r3, e3⟩ := mail_step f p e hf hp he he3 2 (by omega) r2
  obtain ⟨r4, e4⟩ := mail_step f p e hf hp he he3 3 (by omega) r3
  obtain ⟨r5, e5⟩ := mail_step f p e hf hp he he3 4 (by omega) r4
  refine (seqS_next (ℓ' := mailL f p e (mailN f p e 5) (.val (fi 5)) r5) ?_).trans rfl
  exact (forF_eq hr).trans ((forL_cons e1).trans ((forL_cons e2).trans ((forL_cons e3).trans ((forL_cons e4).trans ((forL_cons e5).trans rfl)))))
end Mine
end
section
open PySem PySem.W PyProof.Rows PySem.Calls
set_option Elab.async false
set_option linter.unusedVariables false
set_option linter.unusedSimpArgs false
set_option maxRecDepth 100000
namespace Mine
/-! the thirty-two rows of figures -/
noncomputable def bits (n : Fin 32) : List Nat := [n.val % 2, n.val / 2 % 2, n.val / 4 % 2, n.val / 8 % 2, n.val / 16 % 2]
theorem bits_dec : ∀ a b c d e : Fin 2, ∃ n : Fin 32, [a.val, b.val, c.val, d.val, e.val] = bits n := by decide +kernel
theorem five_of {f : List Nat} (h : f.length = 5) : ∃ a b c d e, f = [a, b, c, d, e] := by
  obtain ⟨a, f, rfl⟩ := List.exists_cons_of_length_eq_add_one h
  obtain ⟨b, f, rfl⟩ := List.exists_cons_of_length_eq_add_one (Nat.succ.inj h)
  obtain ⟨c, f, rfl⟩ := List.exists_cons_of_length_eq_add_one (Nat.succ.inj (Nat.succ.inj h))
  obtain ⟨d, f, rfl⟩ := List.exists_cons_of_length_eq_add_one (Nat.succ.inj (Nat.succ.inj (Nat.succ.inj h)))
  obtain ⟨e, rfl⟩ := List.length_eq_one_iff.mp (Nat.succ.inj (Nat.succ.inj (Nat.succ.inj (Nat.succ.inj h))))
  exact ⟨a, b, c, d, e, rfl⟩
theorem bits_all (f : List Nat) (h5 : f.length = 5) (h : ∀ x ∈ f, x < 2) : ∃ n : Fin 32, f = bits n := by
  obtain ⟨a, b, c, d, e, rfl⟩ := five_of h5
  exact bits_dec ⟨a, h a (by simp)⟩ ⟨b, h b (by simp)⟩ ⟨c, h c (by simp)⟩ ⟨d, h d (by simp)⟩ ⟨e, h e (by simp)⟩
noncomputable def ii (k : Nat) : MV := .int (k : Int)
noncomputable def iiOf (m : MV) : Option Nat := match m with
  | .int (.ofNat k) => some k
  | _ => none
noncomputable def fiOf (m : MV) : Option Nat := match m with
  | .fint (.ofNat k) => some k
  | _ => none
theorem iiOf_eq (m : MV) (k : Nat) (h : iiOf m = some k) : m = ii k := by
  unfold iiOf at h
  split at h
  · cases h; rfl
  · cases h
theorem fiOf_eq (m : MV) (k : Nat) (h : fiOf m = some k) : m = fi k := by
  unfold fiOf at h
  split at h
  · cases h; rfl
  · cases h
noncomputable def allOf (g : MV → Option Nat) : List MV → Option (List Nat)
  | [] => some []
  | m :: l => match g m, allOf g l with
    | some k, some r => some (k :: r)
    | _, _ => none
theorem allOf_eq {g : MV → Option Nat} {u : Nat → MV} (hg : ∀ m k, g m = some k → m = u k) : ∀ {l : List MV} {r : List Nat}, allOf g l = some r → l = r.map u
  | [], r, h => by unfold allOf at h; cases h; rfl
  | m :: l, r, h => by
    unfold allOf at h
    split at h
    · rename_i k r' hk hr
      cases h
      rw [List.map_cons, hg m k hk, allOf_eq hg hr]
    · cases h
noncomputable def fV (f : List Nat) : MV := .list (f.map fi)
noncomputable def shk (f : List Nat) : List Nat := (List.range 6).map fun i => ((List.range 6).map fun k => if i = k then 0 else f.getD (max i k - 1) 0).sum
noncomputable def ordN (p : List Nat) : Nat → List Nat
  | 0 => [0]
  | n + 1 => if p.getD n 0 = 1 then (n + 1) :: ordN p n else ordN p n ++ [n + 1]
noncomputable def check1 (f : List Nat) : Bool := match F__law_hands [.val (fV f)] with
  | some (.list l) => decide (l.length ≤ 100) && (match compF trueTF (callF (cons2 (nameA 0) nilF) sumF) (fun m => [.val m]) l with | some r => allOf iiOf r == some (shk f) | none => false)
  | _ => false
theorem chk1 : ∀ n : Fin 32, check1 (bits n) = true := by decide +kernel
noncomputable def check2 (p : List Nat) : Bool := match F__law_order [.val (fV p)] with
  | some (.list l) => (allOf fiOf l == some (ordN p 5)) && (ordN p 5).all (fun g => decide (g < 6)) && decide ((ordN p 5).length ≤ 10)
  | _ => false
theorem chk2 : ∀ n : Fin 32, check2 (bits n) = true := by decide +kernel
theorem chk3 : ∀ n : Fin 32, (shk (bits n)).length = 6 ∧ ∀ s ∈ shk (bits n), s < 6 := by decide +kernel
theorem chk4 : ∀ n m : Fin 32, dotsN (bits n) (bits m) 5 = (ordN (bits m) 5).map (fun g => (shk (bits n)).getD g 0 + 1) := by decide +kernel
end Mine
end
section
open PySem PySem.W PyProof.Rows PySem.Calls
set_option Elab.async false
set_option linter.unusedVariables false
set_option linter.unusedSimpArgs false
set_option maxRecDepth 100000
namespace Mine
/-! the lead: the counts know no order -/
theorem bump_get (l : List Nat) (b i : Nat) : (bump l b).getD i 0 = l.getD i 0 + (if i = b then 1 else 0) := by
  have key : ∀ (m : List Nat), b < m.length → (∀ j, m.getD j 0 = l.getD j 0) → (m.set b (m.getD b 0 + 1)).getD i 0 = l.getD i 0 + (if i = b then 1 else 0) := by
    intro m hb hm
    rw [List.getD_eq_getElem?_getD, List.getElem?_set]
    by_cases h : b = i
    · subst h
      rw [if_pos rfl, if_pos hb, if_pos rfl]
      show m.getD b 0 + 1 = _
      rw [hm]
    · rw [if_neg h, if_neg (fun q => h q.symm), ← List.getD_eq_getElem?_getD, hm]; rfl
  unfold bump
  by_cases h : l.length ≤ b
  · rw [if_pos h]
    refine key _ ?_ fun j => ?_
    · rw [List.length_append, List.length_replicate]; omega
    · simp only [List.getD_eq_getElem?_getD, List.getElem?_append, List.getElem?_replicate]
      by_cases hj : j < l.length
      · rw [if_pos hj]
      · rw [if_neg hj, List.getElem?_eq_none (Nat.le_of_not_lt hj)]
        split <;> rfl
  · rw [if_neg h]
    exact key l (Nat.lt_of_not_le h) fun _ => rfl
theorem ext_getD {l k : List Nat} (h : l.length = k.length) (e : ∀ i, l.getD i 0 = k.getD i 0) : l = k := by
  refine List.ext_getElem h fun i h1 h2 => ?_
  have := e i
  rw [List.getD_eq_getElem?_getD, List.getD_eq_getElem?_getD, List.getElem?_eq_getElem h1, List.getElem?_eq_getElem h2] at this
  exact this
theorem bump_comm (l : List Nat) (a b : Nat) : bump (bump l a) b = bump (bump l b) a := by
  refine ext_getD ?_ fun i => ?_
  · rw [bump_len, bump_len, bump_len, bump_len, Nat.max_assoc, Nat.max_assoc, Nat.max_comm (a + 1)]
  · rw [bump_get, bump_get, bump_get, bump_get, Nat.add_right_comm]
theorem dots_perm (f p q : List Nat) : ∀ n, (dotsN f p n).Perm (dotsN f q n)
  | 0 => .refl _
  | n + 1 => by
    have ih := dots_perm f p q n
    unfold dotsN
    generalize (if f.getD n 0 = 1 then n + 2 else 1) = x
    have ih2 : (if f.getD n 0 = 1 then (dotsN f p n).map (· + 1) else dotsN f p n).Perm (if f.getD n 0 = 1 then (dotsN f q n).map (· + 1) else dotsN f q n) := by
      split
      · exact ih.map _
      · exact ih
    generalize (if f.getD n 0 = 1 then (dotsN f p n).map (· + 1) else dotsN f p n) = A at *
    generalize (if f.getD n 0 = 1 then (dotsN f q n).map (· + 1) else dotsN f q n) = B at *
    have h1 : (if p.getD n 0 = 1 then x :: A else A ++ [x]).Perm (x :: A) := by
      split
      · exact .refl _
      · exact List.perm_append_singleton x A
    have h2 : (if q.getD n 0 = 1 then x :: B else B ++ [x]).Perm (x :: B) := by
      split
      · exact .refl _
      · exact List.perm_append_singleton x B
    exact h1.trans ((ih2.cons x).trans h2.symm)
noncomputable def cntOf (ds : List Nat) : List Nat := ds.foldl bump []
noncomputable def cnts (f : List Nat) : List Nat := cntOf (dotsN f [0, 0, 0, 0, 0] 5)
theorem chk5 (f p : List Nat) : cntOf (dotsN f p 5) = cnts f := (dots_perm f p [0, 0, 0, 0, 0] 5).foldl_eq' (fun x _ y _ z => bump_comm z x y) []
theorem run_blanks (d : Nat) : ∀ w : Wc, w.run (List.replicate d 32) = ⟨w.count, w.b + d, w.n + d, w.nt⟩ := by
  induction d with
  | zero => intro w; rfl
  | succ d ih =>
    intro w
    rw [List.replicate_succ]
    show (w.step 32).run (List.replicate d 32) = _
    rw [ih]
    show (⟨w.count, w.b + 1 + d, w.n + 1 + d, w.nt⟩ : Wc) = _
    rw [Nat.add_assoc, Nat.add_assoc, Nat.add_comm 1 d]
theorem run_append (w : Wc) (a b : List Nat) : w.run (a ++ b) = (w.run a).run b := List.foldl_append
theorem run_lead : ∀ (ds : List Nat) (w : Wc), w.b = 0 → ∃ N, w.run (leadC ds) = ⟨ds.foldl bump w.count, 0, N, w.nt + ds.length⟩
  | [], w, h => ⟨w.n, by obtain ⟨c, b, n, t⟩ := w; cases h; rfl⟩
  | d :: ds, w, h => by
    have e1 : w.run (List.replicate d 32 ++ [9]) = ⟨bump w.count d, 0, w.n + d + 1, w.nt + 1⟩ := by
      rw [run_append, run_blanks, h, Nat.zero_add]; rfl
    obtain ⟨N, e2⟩ := run_lead ds ⟨bump w.count d, 0, w.n + d + 1, w.nt + 1⟩ rfl
    refine ⟨N, ?_⟩
    show w.run ((List.replicate d 32 ++ [9]) ++ leadC ds) = _
    rw [run_append, e1, e2]
    show (⟨ds.foldl bump (bump w.count d), 0, N, w.nt + 1 + ds.length⟩ : Wc) = ⟨ds.foldl bump (bump w.count d), 0, N, w.nt + (ds.length + 1)⟩
    rw [show w.nt + 1 + ds.length = w.nt + (ds.length + 1) by omega]
theorem leadC_len : ∀ {ds : List Nat}, (∀ d ∈ ds, d ≤ 20) → (leadC ds).length ≤ 21 * ds.length
  | [], _ => Nat.le_refl _
  | d :: ds, h => by
    have ih := leadC_len fun x hx => h x (.tail _ hx)
    have h1 := h d (.head _)
    show ((List.replicate d 32 ++ [9]) ++ leadC ds).length ≤ _
    simp only [List.length_append, List.length_replicate, List.length_cons, List.length_nil]
    omega
theorem tabsC_len : ∀ {ds : List Nat}, (∀ d ∈ ds, d ≤ 20) → (tabsC ds).length ≤ 21 * ds.length
  | [], _ => Nat.le_refl _
  | d :: ds, h => by
    have ih := tabsC_len fun x hx => h x (.tail _ hx)
    have h1 := h d (.head _)
    show ((List.replicate d 46 ++ [9]) ++ tabsC ds).length ≤ _
    simp only [List.length_append, List.length_replicate, List.length_cons, List.length_nil]
    omega
theorem leadC_signs : ∀ (ds : List Nat) (c : Nat), c ∈ leadC ds → c = 32 ∨ c = 9
  | [], c, h => by cases h
  | d :: ds, c, h => by
    have h : c ∈ (List.replicate d 32 ++ [9]) ++ leadC ds := h
    rcases List.mem_append.mp h with h | h
    · rcases List.mem_append.mp h with h | h
      · exact .inl (List.eq_of_mem_replicate h)
      · exact .inr (List.mem_singleton.mp h)
    · exact leadC_signs ds c h
theorem replF_eq {y z x : Str} (h : x.length + (x.length + 1) * z.length ≤ 16777216) : replF y z (.str x) = some (.str (Txt.replace x y z)) := by
  unfold replF; dsimp only; rw [if_pos h]
theorem replFF_eq {y z x : Str} {f : MF} {ℓ : List LV} (hf : f ℓ = some (.str x)) (h : x.length + (x.length + 1) * z.length ≤ 16777216) : replFF y z f ℓ = some (.str (Txt.replace x y z)) := by
  show (f ℓ).bind (replF y z) = _
  rw [hf]; exact replF_eq h
theorem ends_tab (ds : List Nat) : Txt.replace (rowsS (crlf ds)) "\r\n" "\t" = ⟨(tabsC ds).toArray⟩ := by
  have h1 : ("\r\n" : Str) = ⟨#[13, 10]⟩ := by kernel_rfl
  have h2 : ("\t" : Str) = ⟨#[9]⟩ := by kernel_rfl
  rw [h1, h2]
  exact str_ext (Rp.det (by decide) (Rp.replace (rowsS (crlf ds)) ⟨#[13, 10]⟩ ⟨#[9]⟩ (by decide)) (rp_ends ds))
theorem dots_blank (ds : List Nat) : Txt.replace ⟨(tabsC ds).toArray⟩ "." " " = ⟨(leadC ds).toArray⟩ := by
  have h1 : ("." : Str) = ⟨#[46]⟩ := by kernel_rfl
  have h2 : (" " : Str) = ⟨#[32]⟩ := by kernel_rfl
  rw [h1, h2]
  exact str_ext (Rp.det (by decide) (Rp.replace ⟨(tabsC ds).toArray⟩ ⟨#[46]⟩ ⟨#[32]⟩ (by decide)) (rp_dots ds))
noncomputable def cntV (c : List Nat) : List Int := c.map fun (k : Nat) => (k : Int)
theorem lead_eq {rs : List (Nat × Nat)} (h : RowOK rs) (hl : rs.length ≤ 10) : ∃ raw N, F__law_lead [.val (.str (rowsS rs))] = some (.ws raw (cntV (cntOf (dots rs))) 0 N rs.length) := by
  have hd : ∀ d ∈ dots rs, d ≤ 20 := fun d hd => by obtain ⟨r, hr, rfl⟩ := List.mem_map.mp hd; exact (h r hr).2.1
  have hdl : (dots rs).length = rs.length := by unfold dots; rw [List.length_map]
  obtain ⟨N, hrun⟩ := run_lead (dots rs) ⟨[], 0, 0, 0⟩ rfl
  refine ⟨⟨(leadC (dots rs)).toArray⟩, N, ?_⟩
  unfold F__law_lead
  refine defF_ret (ps := 1) rfl ?_
  show G__law_lead [.val (.str (rowsS rs))] = _
  unfold G__law_lead
  refine seqS_ret (retF_eq ?_)
  have e1 : callF (cons2 (nameA 0) nilF) F__fix_eols [.val (.str (rowsS rs))] = some (.str (rowsS (crlf (dots rs)))) := callF_eq rfl (fixeols_rows h (by omega))
  have hcr : RowOK (crlf (dots rs)) := crlf_ok fun d hd => by obtain ⟨r, hr, rfl⟩ := List.mem_map.mp hd; exact ⟨(h r hr).1, (h r hr).2.1⟩
  have s1 : (rowsS (crlf (dots rs))).length ≤ 440 := rowsS_size hcr (by unfold crlf; rw [List.length_map]; omega)
  have z1 : ("\t" : Str).length = 1 := by kernel_rfl
  have z2 : (" " : Str).length = 1 := by kernel_rfl
  have e2 : replFF "\r\n" "\t" (callF (cons2 (nameA 0) nilF) F__fix_eols) [.val (.str (rowsS rs))] = some (.str ⟨(tabsC (dots rs)).toArray⟩) :=
    (replFF_eq e1 (by rw [z1]; omega)).trans (by rw [ends_tab])
  have s2 : (⟨(tabsC (dots rs)).toArray⟩ : Str).length ≤ 440 := by
    show (tabsC (dots rs)).toArray.size ≤ _
    have := tabsC_len hd
    rw [List.size_toArray]; omega
  have e3 : replFF "." " " (replFF "\r\n" "\t" (callF (cons2 (nameA 0) nilF) F__fix_eols)) [.val (.str (rowsS rs))] = some (.str ⟨(leadC (dots rs)).toArray⟩) :=
    (replFF_eq e2 (by rw [z2]; omega)).trans (by rw [dots_blank])
  show (match replFF "." " " (replFF "\r\n" "\t" (callF (cons2 (nameA 0) nilF) F__fix_eols)) [.val (.str (rowsS rs))] with | some (.str raw) => wsF raw | _ => none) = _
  rw [e3]
  show wsF ⟨(leadC (dots rs)).toArray⟩ = _
  unfold wsF
  have hall : (⟨(leadC (dots rs)).toArray⟩ : Str).cps.toList.all (fun c => c == 32 || c == 9) = true := by
    rw [List.all_eq_true]
    intro c hc
    rcases leadC_signs (dots rs) c hc with rfl | rfl <;> rfl
  have hsz : (⟨(leadC (dots rs)).toArray⟩ : Str).cps.size ≤ 400 := by have := leadC_len hd; show (leadC (dots rs)).toArray.size ≤ 400; rw [List.size_toArray]; omega
  rw [if_pos ⟨hsz, hall⟩]
  · unfold wsV wsOf
    show some (MV.ws _ ((Wc.run ⟨[], 0, 0, 0⟩ (leadC (dots rs))).count.map _) (Wc.run ⟨[], 0, 0, 0⟩ (leadC (dots rs))).b (Wc.run ⟨[], 0, 0, 0⟩ (leadC (dots rs))).n (Wc.run ⟨[], 0, 0, 0⟩ (leadC (dots rs))).nt) = _
    rw [hrun]
    show some (MV.ws _ _ _ _ ((0 + (dots rs).length : Nat) : Int)) = _
    rw [Nat.zero_add, hdl]
    rfl
/-! rows, as the law lays them out again -/
theorem rowsC_small : ∀ (rs : List (Nat × Nat)) (c : Nat), c ∈ rowsC rs → c < 0x110000
  | [], c, h => by cases h
  | r :: rs, c, h => by
    have h : c ∈ (List.replicate r.1 46 ++ endC r.2) ++ rowsC rs := h
    rcases List.mem_append.mp h with h | h
    · rcases List.mem_append.mp h with h | h
      · rw [List.eq_of_mem_replicate h]; decide
      · have : ∀ c ∈ endC r.2, c < 0x110000 := by
          unfold endC
          split
          · decide
          · split <;> decide
        exact this c h
    · exact rowsC_small rs c h
theorem rowsS_ok (rs : List (Nat × Nat)) : PyData.strOk (rowsS rs) = true := by
  unfold PyData.strOk
  rw [← Array.all_toList, List.all_eq_true]
  intro c hc
  exact decide_eq_true (rowsC_small rs c hc)
theorem shaped_str (a : Str) (h : PyData.strOk a = true) : SeqAt.shaped (.str a) = true := by
  unfold SeqAt.shaped
  simp [PyData.canLay0, PyData.depth, h]
theorem eqF_str (a : Str) (h : PyData.strOk a = true) : eqF (.val (.str a)) (.val (.str a)) = some true := by
  show (if SeqAt.shaped (.str a) && SeqAt.shaped (.str a) then some (PyData.eqv (.str a) (.str a)) else none) = some true
  rw [shaped_str a h, PySem.SeqAt.eqv_refl _ (SeqAt.canLay_of_shaped (shaped_str a h))]
  rfl
theorem neF_rows (rs : List (Nat × Nat)) : neF (.val (.str (rowsS rs))) (.val (.str (rowsS rs))) = some false := by show (eqF _ _).map _ = _; rw [eqF_str _ (rowsS_ok rs)]; rfl
theorem join_rows : ∀ ds : List Nat, Str.join ⟨#[]⟩ (ds.map fun d => rowsS [(d, 2)]) = rowsS (crlf ds)
  | [] => rfl
  | [d] => rfl
  | d :: d2 :: ds => by
    have ih := join_rows (d2 :: ds)
    show rowsS [(d, 2)] ++ (⟨#[]⟩ : Str) ++ Str.join ⟨#[]⟩ ((d2 :: ds).map fun d => rowsS [(d, 2)]) = _
    rw [ih]
    have e0 : rowsS [(d, 2)] ++ (⟨#[]⟩ : Str) = rowsS [(d, 2)] := by
      refine str_ext ?_
      rw [Str.cps_append, Array.toList_append]; simp
    rw [e0, rowsS_append]; rfl
theorem texts_map (g : Nat → Str) : ∀ l : List Nat, texts (l.map fun x => MV.str (g x)) = some (l.map g)
  | [] => rfl
  | x :: l => by
    rw [List.map_cons]
    unfold texts
    rw [texts_map g l]
    rfl
end Mine
end
section
open PySem PySem.W PyProof.Rows PySem.Calls
set_option Elab.async false
set_option linter.unusedVariables false
set_option linter.unusedSimpArgs false
set_option maxRecDepth 100000
namespace Mine
noncomputable def LA (sc : LV) (hv : MV) (f p e o : List Nat) (s6 s7 s8 s9 s10 : LV) : List LV :=
  [sc, .val hv, .val (fV f), .val (fV p), .val (.list (e.map endV)), .val (fV o), s6, s7, s8, s9, s10, .undef, .undef, .undef, .undef, .undef, .undef, .undef, .undef, .undef, .undef]
theorem sum_le (B : Nat) : ∀ l : List Nat, (∀ x ∈ l, x ≤ B) → l.sum ≤ B * l.length
  | [], _ => Nat.zero_le _
  | x :: l, h => by
    have ih := sum_le B l fun y hy => h y (.tail _ hy)
    have h1 := h x (.head _)
    rw [List.sum_cons, List.length_cons, Nat.mul_succ]; omega
theorem joinF_rows (ds : List Nat) (hd : ∀ d ∈ ds, 1 ≤ d ∧ d ≤ 20) (hl : ds.length ≤ 20) : joinF "" (.val (.list (ds.map fun d => MV.str (rowsS [(d, 2)])))) = some (.str (rowsS (crlf ds))) := by
  have h0 : ("" : Str) = ⟨#[]⟩ := by kernel_rfl
  rw [h0]
  unfold joinF
  show (match texts (ds.map fun d => MV.str (rowsS [(d, 2)])) with | some ys => if (ys.map Str.length).sum + ys.length * (⟨#[]⟩ : Str).length ≤ 16777216 then some (MV.str (Txt.join ⟨#[]⟩ ys)) else none | none => none) = _
  rw [texts_map]
  dsimp only
  have hs : ((ds.map fun d => rowsS [(d, 2)]).map Str.length).sum ≤ 440 * ds.length := by
    have := sum_le 440 ((ds.map fun d => rowsS [(d, 2)]).map Str.length) fun x hx => by
      obtain ⟨s, hs, rfl⟩ := List.mem_map.mp hx
      obtain ⟨d, hd', rfl⟩ := List.mem_map.mp hs
      exact rowsS_size (fun r hr => by rw [List.mem_singleton.mp hr]; exact ⟨(hd d hd').1, (hd d hd').2, Nat.lt_succ_self 2⟩) (Nat.le_of_ble_eq_true rfl)
    simpa using this
  have hz : (⟨#[]⟩ : Str).length = 0 := rfl
  rw [if_pos (by rw [hz]; omega)]
  have : Txt.join ⟨#[]⟩ (ds.map fun d => rowsS [(d, 2)]) = rowsS (crlf ds) := by
    rw [← join_rows ds]; exact PySem.StrLaws.glued_eq_join _ _
  rw [this]
theorem joinFF_eq {sep : Str} {f : LF} {ℓ : List LV} {x : LV} {m : MV} (h : f ℓ = some x) (hj : joinF sep x = some m) : joinFF sep f ℓ = some m := by
  show (f ℓ).bind (joinF sep) = _
  rw [h]; exact hj
theorem lt6 {P : Nat → Prop} (h : ∀ k, k < 5 → P k) (h5 : P 5) (k : Nat) (hk : k < 6) : P k := by
  rcases Nat.lt_or_ge k 5 with h' | h'
  · exact h k h'
  · cases Nat.le_antisymm (Nat.le_of_lt_succ hk) h'
    exact h5
theorem mulDots (s : Nat) (h : s < 6) : mulAll (.val (.str ".")) (.val (.fint ((s : Int) + 1))) = some (.str (dotS (s + 1))) := by
  revert s
  refine lt6 (lt5 ?_ ?_ ?_ ?_ ?_) ?_ <;> kernel_rfl
theorem addEnd (s : Nat) (h : s < 6) : addF (.val (.str (dotS (s + 1)))) (.val (.str "\r\n")) = some (.str (rowsS [(s + 1, 2)])) := by
  revert s
  refine lt6 (lt5 ?_ ?_ ?_ ?_ ?_) ?_ <;> kernel_rfl
theorem dotRow (d : Nat) (h : d ≤ 19) : addF (.val (.str ".")) (.val (.str (rowsS [(d, 2)]))) = some (.str (rowsS [(d + 1, 2)])) := by
  have h0 : ("." : Str) = ⟨#[46]⟩ := by kernel_rfl
  have e : (⟨#[46]⟩ : Str) ++ rowsS [(d, 2)] = rowsS [(d + 1, 2)] := by
    refine str_ext ?_
    rw [Str.cps_append, Array.toList_append]
    rfl
  have s1 : (rowsS [(d, 2)]).length ≤ 440 := by
    show (rowsC [(d, 2)]).toArray.size ≤ _
    show (List.replicate d 46 ++ endC 2 ++ []).toArray.size ≤ _
    simp [endC]; omega
  have z : (⟨#[46]⟩ : Str).length = 1 := rfl
  rw [h0]
  show (if (⟨#[46]⟩ : Str).length + (rowsS [(d, 2)]).length ≤ 100000 then some (MV.str ((⟨#[46]⟩ : Str) ++ rowsS [(d, 2)])) else none) = _
  rw [if_pos (by rw [z]; omega), e]
theorem mid_law (sc : LV) (hv : MV) (f p e o : List Nat) (hf : f.length = 5) (hp : p.length = 5) (he : e.length = 5) (hf2 : ∀ x ∈ f, x < 2) (hp2 : ∀ x ∈ p, x < 2) (he3 : ∀ x ∈ e, x < 3) :
    ∃ l mail rows raw N, F__law_hands [.val (fV f)] = some (.list l) ∧ T_law_5 (L5 sc hv f p e o) = T_law_12 (LA sc hv f p e o (.val (.list l)) (.val (.list ((shk f).map ii))) (.val (.str mail)) (.val (.list rows)) (.val (.ws raw (cntV (cnts f)) 0 N 6))) := by
  obtain ⟨n, rfl⟩ := bits_all f hf hf2
  obtain ⟨m, rfl⟩ := bits_all p hp hp2
  have he3' : ∀ k, e.getD k 0 < 3 := fun k => by
    by_cases hk : k < e.length
    · have : e.getD k 0 = e[k] := by simp [List.getD, hk]
      rw [this]; exact he3 _ (List.getElem_mem hk)
    · have : e.getD k 0 = 0 := by simp [List.getD, hk]
      omega
  have c1 := chk1 n
  have c2 := chk2 m
  obtain ⟨c3a, c3b⟩ := chk3 n
  have c4 := chk4 n m
  have c5 := chk5 (bits n) (bits m)
  generalize bits n = f at *
  generalize bits m = p at *
  unfold check1 at c1
  split at c1
  case h_2 => cases c1
  rename_i l hl
  split at c1
  case h_2 => rw [Bool.and_false] at c1; cases c1
  rename_i rs hrs
  rw [Bool.and_eq_true, decide_eq_true_eq] at c1
  have hrs' : compF trueTF (callF (cons2 (nameA 0) nilF) sumF) (fun m => [.val m]) l = some ((shk f).map ii) := by rw [hrs, allOf_eq iiOf_eq (beq_iff_eq.mp c1.2)]
  unfold check2 at c2
  split at c2
  case h_2 => cases c2
  rename_i om hom
  rw [Bool.and_eq_true, Bool.and_eq_true, decide_eq_true_eq, List.all_eq_true] at c2
  have hord : F__law_order [.val (fV p)] = some (.list ((ordN p 5).map fi)) := by rw [hom, allOf_eq fiOf_eq (beq_iff_eq.mp c2.1.1)]
  have hg6 : ∀ g ∈ ordN p 5, g < 6 := fun g hg => by simpa using c2.1.2 g hg
  have hol := c2.2
  obtain ⟨mok, mlen⟩ := mail_ok f p e he3' 5 (Nat.le_refl _)
  have hdots : dots (mailN f p e 5) = dotsN f p 5 := mail_dots f p e 5
  obtain ⟨raw, N, hlead⟩ := lead_eq mok (by omega)
  rw [hdots, c5, mlen] at hlead
  generalize hds : dotsN f p 5 = ds at *
  have hdok : ∀ d ∈ ds, 1 ≤ d ∧ d ≤ 6 := fun d hd => by
    have := (dotsN_ok f p 5).2; rw [hds] at this; have := this d hd; omega
  have hdl : ds.length = 6 := by have := (dotsN_ok f p 5).1; rw [hds] at this; omega
  have hsg : ∀ g ∈ ordN p 5, (shk f).getD g 0 < 6 := fun g hg => by
    have h6 := hg6 g hg
    have : (shk f).getD g 0 = (shk f)[g]'(by omega) := by simp [List.getD, c3a, h6]
    rw [this]; exact c3b _ (List.getElem_mem _)
  generalize hmail : mailN f p e 5 = ml at *
  refine ⟨l, rowsS ml, ds.map fun d => MV.str (rowsS [(d, 2)]), raw, N, hl, ?_⟩
  have hrows : (ordN p 5).map (fun g => MV.str (rowsS [((shk f).getD g 0 + 1, 2)])) = ds.map fun d => MV.str (rowsS [(d, 2)]) := by
    rw [c4, List.map_map]; rfl
  unfold T_law_5
  refine (seqS_next (ℓ' := LA sc hv f p e o (.val (.list l)) .undef .undef .undef .undef) ?_).trans ?_
  · exact setV_eq (callF_eq rfl hl)
  unfold T_law_6
  refine (seqS_next (ℓ' := LA sc hv f p e o (.val (.list l)) (.own ((shk f).map ii)) .undef .undef .undef) ?_).trans ?_
  · exact setO_eq ((compV_eq (iterF_eq rfl (by omega)) rfl).trans hrs')
  show T_law_7 (LA sc hv f p e o (.val (.list l)) (.val (.list ((shk f).map ii))) .undef .undef .undef) = _
  unfold T_law_7
  refine (seqS_next (ℓ' := LA sc hv f p e o (.val (.list l)) (.val (.list ((shk f).map ii))) (.val (.str (rowsS ml))) .undef .undef) ?_).trans ?_
  · exact setV_eq (callF_eq rfl (by rw [← hmail]; exact mail_eq f p e hf hp he he3'))
  unfold T_law_8
  refine (seqS_next (ℓ' := LA sc hv f p e o (.val (.list l)) (.val (.list ((shk f).map ii))) (.val (.str (rowsS ml))) (.own (ds.map fun d => MV.str (rowsS [(d, 2)]))) .undef) ?_).trans ?_
  · refine setO_eq ?_
    rw [← hrows]
    have ho8 : callF (cons2 (nameA 3) nilF) F__law_order (LA sc hv f p e o (.val (.list l)) (.val (.list ((shk f).map ii))) (.val (.str (rowsS ml))) .undef .undef) = some (.list ((ordN p 5).map fi)) := callF_eq rfl hord
    refine (compV_eq (iterF_eq (toAF_eq ho8) (by rw [List.length_map]; omega)) rfl).trans ?_
    refine compF_map fi (fun g => MV.str (rowsS [((shk f).getD g 0 + 1, 2)])) _ fun g hg => ?_
    show bind2 addF _ _ [.val (fi g), .val (.list ((shk f).map ii))] = _
    have h6 := hg6 g hg
    have hs6 := hsg g hg
    have e1 : bind2 itemS (nameA 1) (nameA 0) [.val (fi g), .val (.list ((shk f).map ii))] = some (ii ((shk f).getD g 0)) :=
      (bind2_eq (x := .val (.list ((shk f).map ii))) (y := .val (fi g)) rfl rfl).trans (itemS_list (k := g) (by rw [List.length_map]; omega) rfl (by rw [List.getElem?_map, get_at _ _ (by omega)]; rfl))
    generalize (shk f).getD g 0 = s at e1 hs6
    have e2 : bind2 addF (toAF (bind2 itemS (nameA 1) (nameA 0))) (toAF (litF (.fint 1))) [.val (fi g), .val (.list ((shk f).map ii))] = some (.fint ((s : Int) + 1)) :=
      (bind2_eq (y := .val (.fint 1)) (toAF_eq e1) rfl).trans rfl
    have e3 := (bind2_eq (F := mulAll) (fa := toAF (litF (.str "."))) (x := .val (.str ".")) rfl (toAF_eq e2)).trans (mulDots s hs6)
    exact (bind2_eq (F := addF) (y := .val (.str "\r\n")) (toAF_eq e3) rfl).trans (addEnd s hs6)
  show T_law_9 (LA sc hv f p e o (.val (.list l)) (.val (.list ((shk f).map ii))) (.val (.str (rowsS ml))) (.val (.list (ds.map fun d => MV.str (rowsS [(d, 2)])))) .undef) = _
  unfold T_law_9
  refine (seqS_next (ℓ' := LA sc hv f p e o (.val (.list l)) (.val (.list ((shk f).map ii))) (.val (.str (rowsS ml))) (.val (.list (ds.map fun d => MV.str (rowsS [(d, 2)])))) .undef) ?_).trans ?_
  · have h9a : callF (cons2 (nameA 8) nilF) F__fix_eols (LA sc hv f p e o (.val (.list l)) (.val (.list ((shk f).map ii))) (.val (.str (rowsS ml))) (.val (.list (ds.map fun d => MV.str (rowsS [(d, 2)])))) .undef) = some (.str (rowsS (crlf (dots ml)))) := callF_eq rfl (fixeols_rows mok (by omega))
    have h9b : joinFF "" (nameA 9) (LA sc hv f p e o (.val (.list l)) (.val (.list ((shk f).map ii))) (.val (.str (rowsS ml))) (.val (.list (ds.map fun d => MV.str (rowsS [(d, 2)])))) .undef) = some (.str (rowsS (crlf ds))) := joinFF_eq rfl (joinF_rows ds (fun d hd => ⟨(hdok d hd).1, by have := (hdok d hd).2; omega⟩) (by omega))
    refine (ifM_false ((bind2_eq (toAF_eq h9a) (toAF_eq h9b)).trans ?_)).trans rfl
    rw [hdots]; exact neF_rows _
  unfold T_law_10
  refine (seqS_next (ℓ' := LA sc hv f p e o (.val (.list l)) (.val (.list ((shk f).map ii))) (.val (.str (rowsS ml))) (.val (.list (ds.map fun d => MV.str (rowsS [(d, 2)])))) .undef) ?_).trans ?_
  · have ecomp : compV (iterF (nameA 9)) trueTF (bind2 addF (toAF (litF (.str "."))) (nameA 0)) [] (LA sc hv f p e o (.val (.list l)) (.val (.list ((shk f).map ii))) (.val (.str (rowsS ml))) (.val (.list (ds.map fun d => MV.str (rowsS [(d, 2)])))) .undef)
        = some ((ds.map (· + 1)).map fun d => MV.str (rowsS [(d, 2)])) := by
      refine (compV_eq (iterF_eq rfl (by rw [List.length_map]; omega)) rfl).trans ?_
      refine compF_map2 _ (· + 1) _ ds fun d hd => ?_
      exact dotRow d (by have := (hdok d hd).2; omega)
    have h9a : callF (cons2 (nameA 8) nilF) F_quotedata (LA sc hv f p e o (.val (.list l)) (.val (.list ((shk f).map ii))) (.val (.str (rowsS ml))) (.val (.list (ds.map fun d => MV.str (rowsS [(d, 2)])))) .undef) = some (.str (rowsS (crlf ((dots ml).map (· + 1))))) := callF_eq rfl (quotedata_rows mok (by omega))
    have h9b : joinFF "" (toAF (toLF (compV (iterF (nameA 9)) trueTF (bind2 addF (toAF (litF (.str "."))) (nameA 0)) []))) (LA sc hv f p e o (.val (.list l)) (.val (.list ((shk f).map ii))) (.val (.str (rowsS ml))) (.val (.list (ds.map fun d => MV.str (rowsS [(d, 2)])))) .undef) = some (.str (rowsS (crlf (ds.map (· + 1))))) := joinFF_eq (toAF_eq (toLF_eq ecomp)) (joinF_rows (ds.map (· + 1)) (fun d hd => by
      obtain ⟨c, hc, rfl⟩ := List.mem_map.mp hd; have := hdok c hc; omega) (by rw [List.length_map]; omega))
    refine (ifM_false ((bind2_eq (toAF_eq h9a) (toAF_eq h9b)).trans ?_)).trans rfl
    rw [hdots]; exact neF_rows _
  unfold T_law_11
  refine (seqS_next (ℓ' := LA sc hv f p e o (.val (.list l)) (.val (.list ((shk f).map ii))) (.val (.str (rowsS ml))) (.val (.list (ds.map fun d => MV.str (rowsS [(d, 2)])))) (.val (.ws raw (cntV (cnts f)) 0 N 6))) ?_)
  exact setV_eq (callF_eq rfl hlead)
end Mine
end
section
open PySem PySem.W PyProof.Rows PySem.Calls
set_option Elab.async false
set_option linter.unusedVariables false
set_option linter.unusedSimpArgs false
set_option maxRecDepth 100000
namespace Mine
noncomputable def hV (f : List Nat) : MV := (F__law_hands [.val (fV f)]).getD .non
noncomputable def R13 : SF := seqS Q_law_13 (seqS Q_law_14 (seqS Q_law_15 (seqS Q_law_16 nextF)))
noncomputable def LB (sc : LV) (hv : MV) (f : List Nat) (s3 s4 s5 s6 s7 s8 s9 s10 s11 s12 s13 s14 s15 s16 : LV) : List LV :=
  [sc, .val hv, .val (fV f), s3, s4, s5, s6, s7, s8, s9, s10, s11, s12, s13, s14, s15, s16, .undef, .undef, .undef, .undef]
noncomputable def resL (f : List Nat) : List LV := match R13 (LB .undef .non f .undef .undef .undef (.val (hV f)) (.val (.list ((shk f).map ii))) .undef .undef (.val (.ws ⟨#[]⟩ (cntV (cnts f)) 0 0 6)) .undef .undef .undef .undef .undef .undef) with
  | some (.next ℓ) => (ℓ.drop 11).take 6
  | _ => []
noncomputable def resA (f : List Nat) (i : Nat) : LV := (resL f).getD i .undef
/-- the loops over the numbers and the columns, for one row of figures -/
noncomputable def R13ok (f : List Nat) : Prop := ∀ (sc : LV) (hv : MV) (s3 s4 s5 s8 s9 : LV) (raw : Str) (N : Int), R13 (LB sc hv f s3 s4 s5 (.val (hV f)) (.val (.list ((shk f).map ii))) s8 s9 (.val (.ws raw (cntV (cnts f)) 0 N 6)) .undef .undef .undef .undef .undef .undef)
  = some (.next (LB sc hv f s3 s4 s5 (.val (hV f)) (.val (.list ((shk f).map ii))) s8 s9 (.val (.ws raw (cntV (cnts f)) 0 N 6)) (resA f 0) (resA f 1) (resA f 2) (resA f 3) (resA f 4) (resA f 5)))

theorem r13_0 : R13ok (bits ⟨0, by decide⟩) := by
  intro sc hv s3 s4 s5 s8 s9 raw N
  kernel_rfl
theorem r13_1 : R13ok (bits ⟨1, by decide⟩) := by
  intro sc hv s3 s4 s5 s8 s9 raw N
  kernel_rfl
theorem r13_2 : R13ok (bits ⟨2, by decide⟩) := by
  intro sc hv s3 s4 s5 s8 s9 raw N
  kernel_rfl
theorem r13_3 : R13ok (bits ⟨3, by decide⟩) := by
  intro sc hv s3 s4 s5 s8 s9 raw N
  kernel_rfl
theorem r13_4 : R13ok (bits ⟨4, by decide⟩) := by
  intro sc hv s3 s4 s5 s8 s9 raw N
  kernel_rfl
theorem r13_5 : R13ok (bits ⟨5, by decide⟩) := by
  intro sc hv s3 s4 s5 s8 s9 raw N
  kernel_rfl
theorem r13_6 : R13ok (bits ⟨6, by decide⟩) := by
  intro sc hv s3 s4 s5 s8 s9 raw N
  kernel_rfl
theorem r13_7 : R13ok (bits ⟨7, by decide⟩) := by
  intro sc hv s3 s4 s5 s8 s9 raw N
  kernel_rfl
theorem r13_8 : R13ok (bits ⟨8, by decide⟩) := by
  intro sc hv s3 s4 s5 s8 s9 raw N
  kernel_rfl
theorem r13_9 : R13ok (bits ⟨9, by decide⟩) := by
  intro sc hv s3 s4 s5 s8 s9 raw N
  kernel_rfl
theorem r13_10 : R13ok (bits ⟨10, by decide⟩) := by
  intro sc hv s3 s4 s5 s8 s9 raw N
  kernel_rfl
theorem r13_11 : R13ok (bits ⟨11, by decide⟩) := by
  intro sc hv s3 s4 s5 s8 s9 raw N
  kernel_rfl
theorem r13_12 : R13ok (bits ⟨12, by decide⟩) := by
  intro sc hv s3 s4 s5 s8 s9 raw N
  kernel_rfl
theorem r13_13 : R13ok (bits ⟨13, by decide⟩) := by
  intro sc hv s3 s4 s5 s8 s9 raw N
  kernel_rfl
theorem r13_14 : R13ok (bits ⟨14, by decide⟩) := by
  intro sc hv s3 s4 s5 s8 s9 raw N
  kernel_rfl
theorem r13_15 : R13ok (bits ⟨15, by decide⟩) := by
  intro sc hv s3 s4 s5 s8 s9 raw N
  kernel_rfl
theorem r13_16 : R13ok (bits ⟨16, by decide⟩) := by
  intro sc hv s3 s4 s5 s8 s9 raw N
  kernel_rfl
theorem r13_17 : R13ok (bits ⟨17, by decide⟩) := by
  intro sc hv s3 s4 s5 s8 s9 raw N
  kernel_rfl
theorem r13_18 : R13ok (bits ⟨18, by decide⟩) := by
  intro sc hv s3 s4 s5 s8 s9 raw N
  kernel_rfl
theorem r13_19 : R13ok (bits ⟨19, by decide⟩) := by
  intro sc hv s3 s4 s5 s8 s9 raw N
  kernel_rfl
theorem r13_20 : R13ok (bits ⟨20, by decide⟩) := by
  intro sc hv s3 s4 s5 s8 s9 raw N
  kernel_rfl
theorem r13_21 : R13ok (bits ⟨21, by decide⟩) := by
  intro sc hv s3 s4 s5 s8 s9 raw N
  kernel_rfl
theorem r13_22 : R13ok (bits ⟨22, by decide⟩) := by
  intro sc hv s3 s4 s5 s8 s9 raw N
  kernel_rfl
theorem r13_23 : R13ok (bits ⟨23, by decide⟩) := by
  intro sc hv s3 s4 s5 s8 s9 raw N
  kernel_rfl
theorem r13_24 : R13ok (bits ⟨24, by decide⟩) := by
  intro sc hv s3 s4 s5 s8 s9 raw N
  kernel_rfl
theorem r13_25 : R13ok (bits ⟨25, by decide⟩) := by
  intro sc hv s3 s4 s5 s8 s9 raw N
  kernel_rfl
theorem r13_26 : R13ok (bits ⟨26, by decide⟩) := by
  intro sc hv s3 s4 s5 s8 s9 raw N
  kernel_rfl
theorem r13_27 : R13ok (bits ⟨27, by decide⟩) := by
  intro sc hv s3 s4 s5 s8 s9 raw N
  kernel_rfl
theorem r13_28 : R13ok (bits ⟨28, by decide⟩) := by
  intro sc hv s3 s4 s5 s8 s9 raw N
  kernel_rfl
theorem r13_29 : R13ok (bits ⟨29, by decide⟩) := by
  intro sc hv s3 s4 s5 s8 s9 raw N
  kernel_rfl
theorem r13_30 : R13ok (bits ⟨30, by decide⟩) := by
  intro sc hv s3 s4 s5 s8 s9 raw N
  kernel_rfl
theorem r13_31 : R13ok (bits ⟨31, by decide⟩) := by
  intro sc hv s3 s4 s5 s8 s9 raw N
  kernel_rfl
theorem r13_all (n : Fin 32) : R13ok (bits n) := by
  obtain ⟨k, hk⟩ := n
  match k, hk with
  | 0, _ => exact r13_0
  | 1, _ => exact r13_1
  | 2, _ => exact r13_2
  | 3, _ => exact r13_3
  | 4, _ => exact r13_4
  | 5, _ => exact r13_5
  | 6, _ => exact r13_6
  | 7, _ => exact r13_7
  | 8, _ => exact r13_8
  | 9, _ => exact r13_9
  | 10, _ => exact r13_10
  | 11, _ => exact r13_11
  | 12, _ => exact r13_12
  | 13, _ => exact r13_13
  | 14, _ => exact r13_14
  | 15, _ => exact r13_15
  | 16, _ => exact r13_16
  | 17, _ => exact r13_17
  | 18, _ => exact r13_18
  | 19, _ => exact r13_19
  | 20, _ => exact r13_20
  | 21, _ => exact r13_21
  | 22, _ => exact r13_22
  | 23, _ => exact r13_23
  | 24, _ => exact r13_24
  | 25, _ => exact r13_25
  | 26, _ => exact r13_26
  | 27, _ => exact r13_27
  | 28, _ => exact r13_28
  | 29, _ => exact r13_29
  | 30, _ => exact r13_30
  | 31, _ => exact r13_31
  | k + 32, h => exact absurd h (by omega)
noncomputable def check6 (f : List Nat) : Bool := match F_back (.tup ((cntV (cnts f)).map .int)), F__law_ahead [.val (hV f), .val (fV f)] with
  | some r, some a => eqF (.val r) (.val (.tup [fV f, a, .list [.fint 1]])) == some true
  | _, _ => false
theorem chk6 : ∀ n : Fin 32, check6 (bits n) = true := by decide +kernel
end Mine
end
section
open PySem PySem.W PyProof.Rows PySem.Calls
set_option Elab.async false
set_option linter.unusedVariables false
set_option linter.unusedSimpArgs false
set_option maxRecDepth 100000
namespace Mine
/-! columns: what indent_level gives -/
theorem mulAll_int {x y : LV} {a b : Int} (hx : x.num = some a) (hy : y.num = some b) (h : small a = true) : mulAll x y = some (.fint (a * b)) := by
  have e : mulIF x y = some (.fint (a * b)) := by
    unfold mulIF intBin
    rw [hx, hy]
    show (if small a = true then some (MV.fint (a * b)) else none) = _
    rw [if_pos h]
  unfold mulAll orF
  rw [e]
theorem range_ab (a b : Nat) (ha : a ≤ 11) (hb : b ≤ 11) : rangeF (a : Int) (b : Int) 1 = some ((List.range (b - a)).map fun i => fi (a + i)) := by
  have hs : Builtin.Range.rangeSize (a : Int) (b : Int) 1 = ((b - a : Nat) : Int) := by
    unfold Builtin.Range.rangeSize
    rw [if_pos (by decide)]
    by_cases h0 : (a : Int) < (b : Int)
    · rw [if_pos h0, Int.ediv_one]; omega
    · rw [if_neg h0]; omega
  have hm : Builtin.Range.small (a : Int) (b : Int) 1 = true := by
    have : ∀ a b : Fin 12, Builtin.Range.small (a.val : Int) (b.val : Int) 1 = true := by decide +kernel
    exact this ⟨a, by omega⟩ ⟨b, by omega⟩
  unfold rangeF
  rw [hs, hm]
  rw [if_pos (by simp; omega)]
  unfold rangeMV
  rw [Int.toNat_natCast]
  refine congrArg some (List.map_congr_left fun i _ => ?_)
  show MV.fint ((a : Int) + (i : Int) * 1) = MV.fint ((a + i : Nat) : Int)
  rw [Int.mul_one]; rfl
noncomputable def indGo (s : Nat) (c : List Int) : List Nat → Int → Int
  | [], il => il
  | i :: is, il => indGo s c is (il + ((i : Int).fdiv (s : Int)) * c.getD i 0)
noncomputable def ind (c : List Int) (b nt : Int) (s : Nat) : Int := b + (s : Int) * (indGo s c ((List.range (c.length - s)).map fun i => s + i) 0 + nt)
noncomputable abbrev indL (ws : LV) (s : Nat) (c : List Int) (b il : Int) (ch : LV) : List LV := [ws, .val (fi s), .val (.tup (c.map .int)), .val (.int b), .val (.fint il), ch]
theorem ind_step (ws : LV) (s : Nat) (c : List Int) (b il : Int) (i : Nat) (hs : 1 ≤ s) (hs2 : s ≤ 11) (hi : i < c.length) (hc : c.length ≤ 11) :
    B_indent_level_1 (indL ws s c b il (.val (fi i))) = some (.next (indL ws s c b (il + ((i : Int).fdiv (s : Int)) * c.getD i 0) (.val (fi i)))) := by
  have hq : small ((i : Int).fdiv (s : Int)) = true := by
    have : ∀ i s : Fin 12, small ((i.val : Int).fdiv (s.val : Int)) = true := by decide +kernel
    exact this ⟨i, by omega⟩ ⟨s, by omega⟩
  have e1 : bind2 divIF (nameA 5) (nameA 1) (indL ws s c b il (.val (fi i))) = some (.fint ((i : Int).fdiv (s : Int))) := by
    refine (bind2_eq (x := .val (fi i)) (y := .val (fi s)) rfl rfl).trans ?_
    show (if (s : Int) = 0 then none else if -1000000000 < (s : Int) ∧ (s : Int) < 1000000000 then some (MV.fint ((i : Int).fdiv (s : Int))) else none) = _
    rw [if_neg (by omega), if_pos (by omega)]
  have e2 : bind2 itemS (nameA 2) (nameA 5) (indL ws s c b il (.val (fi i))) = some (.int (c.getD i 0)) := by
    refine (bind2_eq (x := .val (.tup (c.map .int))) (y := .val (fi i)) rfl rfl).trans ?_
    show (if 0 ≤ (i : Int) ∧ szOK (c.map MV.int) = true then (c.map MV.int)[(i : Int).toNat]? else none) = _
    rw [if_pos ⟨by omega, szOK_le (by rw [List.length_map]; omega)⟩, Int.toNat_natCast, List.getElem?_map, List.getElem?_eq_getElem hi]
    simp [List.getD, hi]
  have e3 : bind2 mulAll (toAF (bind2 divIF (nameA 5) (nameA 1))) (toAF (bind2 itemS (nameA 2) (nameA 5))) (indL ws s c b il (.val (fi i))) = some (.fint ((i : Int).fdiv (s : Int) * c.getD i 0)) := by
    exact (bind2_eq (toAF_eq e1) (toAF_eq e2)).trans (mulAll_int rfl rfl hq)
  have e4 : bind2 addF (nameA 4) (toAF (bind2 mulAll (toAF (bind2 divIF (nameA 5) (nameA 1))) (toAF (bind2 itemS (nameA 2) (nameA 5))))) (indL ws s c b il (.val (fi i))) = some (.fint (il + ((i : Int).fdiv (s : Int)) * c.getD i 0)) :=
    (bind2_eq (x := .val (.fint il)) rfl (toAF_eq e3)).trans rfl
  unfold B_indent_level_1
  exact (seqS_next (setV_eq e4)).trans rfl
theorem ind_loop (ws : LV) (s : Nat) (c : List Int) (b : Int) (hs : 1 ≤ s) (hs2 : s ≤ 11) (hc : c.length ≤ 11) : ∀ (is : List Nat) (il : Int) (ch : LV), (∀ i ∈ is, i < c.length) →
    ∃ ch', forL 5 B_indent_level_1 (is.map fi) (indL ws s c b il ch) = some (.next (indL ws s c b (indGo s c is il) ch'))
  | [], il, ch, _ => ⟨ch, rfl⟩
  | i :: is, il, ch, h => by
    obtain ⟨ch', e⟩ := ind_loop ws s c b hs hs2 hc is (il + ((i : Int).fdiv (s : Int)) * c.getD i 0) (.val (fi i)) fun j hj => h j (.tail _ hj)
    refine ⟨ch', ?_⟩
    rw [List.map_cons]
    exact (forL_cons (ind_step ws s c b il i hs hs2 (h i (.head _)) hc)).trans e
theorem indent_eq (raw : Str) (c : List Int) (b n nt : Int) (s : Nat) (hs : 1 ≤ s) (hs2 : s ≤ 11) (hc : c.length ≤ 11) : F_indent_level [.val (.ws raw c b n nt), .val (fi s)] = some (.fint (ind c b nt s)) := by
  unfold F_indent_level
  refine defF_ret (ps := 2) rfl ?_
  show G_indent_level [.val (.ws raw c b n nt), .val (fi s), .undef, .undef, .undef, .undef] = _
  unfold G_indent_level
  refine (seqS_next (ℓ' := [.val (.ws raw c b n nt), .val (fi s), .val (.tup (c.map .int)), .val (.int b), .undef, .undef]) (by kernel_rfl)).trans ?_
  refine (seqS_next (ℓ' := indL (.val (.ws raw c b n nt)) s c b 0 .undef) rfl).trans ?_
  have hl : lenFF (nameA 2) (indL (.val (.ws raw c b n nt)) s c b 0 .undef) = some (c.length : Int) := by
    show (if szOK (c.map MV.int) then some (((c.map MV.int).length : Nat) : Int) else none) = _
    rw [if_pos (szOK_le (by rw [List.length_map]; omega)), List.length_map]
  have hr : rangF (cons2 (nameA 1) (cons2 (toAF (toIF (lenFF (nameA 2)))) nilF)) (indL (.val (.ws raw c b n nt)) s c b 0 .undef) = some (((List.range (c.length - s)).map fun i => s + i).map fi) := by
    refine (callF_eq (F := rangeA) (cons2_eq (x := .val (fi s)) rfl (cons2_eq (toAF_eq (toIF_eq hl)) rfl)) ?_)
    show rangeF (s : Int) (c.length : Int) 1 = _
    rw [range_ab s c.length hs2 hc, List.map_map]; rfl
  obtain ⟨ch', e⟩ := ind_loop (.val (.ws raw c b n nt)) s c b hs hs2 hc ((List.range (c.length - s)).map fun i => s + i) 0 .undef fun i hi => by
    obtain ⟨k, hk, rfl⟩ := List.mem_map.mp hi
    have := List.mem_range.mp hk; omega
  refine (seqS_next ((forF_eq hr).trans e)).trans ?_
  unfold ind
  generalize indGo s c ((List.range (c.length - s)).map fun i => s + i) 0 = il at e ⊢
  have f1 : attrFF "nt" (nameE 0) (indL (.val (.ws raw c b n nt)) s c b il ch') = some (.int nt) := by kernel_rfl
  have f2 : bind2 addF (nameA 4) (toAF (attrFF "nt" (nameE 0))) (indL (.val (.ws raw c b n nt)) s c b il ch') = some (.fint (il + nt)) := (bind2_eq (x := .val (.fint il)) rfl (toAF_eq f1)).trans rfl
  have hq : small (s : Int) = true := by
    have : ∀ s : Fin 12, small (s.val : Int) = true := by decide +kernel
    exact this ⟨s, by omega⟩
  have f3 : bind2 mulAll (nameA 1) (toAF (bind2 addF (nameA 4) (toAF (attrFF "nt" (nameE 0))))) (indL (.val (.ws raw c b n nt)) s c b il ch') = some (.fint ((s : Int) * (il + nt))) := by
    exact (bind2_eq (x := .val (fi s)) rfl (toAF_eq f2)).trans (mulAll_int rfl rfl hq)
  exact seqS_ret (retF_eq ((bind2_eq (x := .val (.int b)) rfl (toAF_eq f3)).trans rfl))
end Mine
end
section
open PySem PySem.W PyProof.Rows PySem.Calls
set_option Elab.async false
set_option linter.unusedVariables false
set_option linter.unusedSimpArgs false
set_option maxRecDepth 100000
namespace Mine
/-! the columns as the law counts them -/
noncomputable def colE (s h : Nat) : Int := ((h : Int) + 1).fdiv (s : Int) * (s : Int) + (s : Int)
noncomputable def colsum (l : List Nat) (s : Nat) : Int := (l.map (colE s)).sum
theorem nums_fint : ∀ l : List Int, nums (l.map MV.fint) = some l
  | [] => rfl
  | a :: l => by
    rw [List.map_cons]
    unfold nums
    rw [nums_fint l]
    rfl
theorem nums_ii : ∀ l : List Nat, nums (l.map ii) = some (l.map fun (k : Nat) => (k : Int))
  | [] => rfl
  | a :: l => by
    rw [List.map_cons, List.map_cons]
    unfold nums
    rw [nums_ii l]
    rfl
theorem col_elt (s h : Nat) (hs : 1 ≤ s) (hs2 : s ≤ 11) (hh : h ≤ 10) :
    bind2 addF (toAF (bind2 mulAll (toAF (bind2 divIF (toAF (bind2 addF (nameA 0) (toAF (litF (.fint 1))))) (nameA 1))) (nameA 1))) (nameA 1) [.val (ii h), .val (fi s)] = some (.fint (colE s h)) := by
  have e1 : bind2 addF (nameA 0) (toAF (litF (.fint 1))) [.val (ii h), .val (fi s)] = some (.fint ((h : Int) + 1)) := rfl
  have e2 : bind2 divIF (toAF (bind2 addF (nameA 0) (toAF (litF (.fint 1))))) (nameA 1) [.val (ii h), .val (fi s)] = some (.fint (((h : Int) + 1).fdiv (s : Int))) := by
    refine (bind2_eq (y := .val (fi s)) (toAF_eq e1) rfl).trans ?_
    show (if (s : Int) = 0 then none else if -1000000000 < (s : Int) ∧ (s : Int) < 1000000000 then some (MV.fint (((h : Int) + 1).fdiv (s : Int))) else none) = _
    rw [if_neg (by omega), if_pos (by omega)]
  have hq : small (((h : Int) + 1).fdiv (s : Int)) = true := by
    have : ∀ h s : Fin 12, small (((h.val : Int) + 1).fdiv (s.val : Int)) = true := by decide +kernel
    exact this ⟨h, by omega⟩ ⟨s, by omega⟩
  exact (bind2_eq (y := .val (fi s)) (toAF_eq ((bind2_eq (y := .val (fi s)) (toAF_eq e2) rfl).trans (mulAll_int rfl rfl hq))) rfl).trans rfl
theorem col_row (l : List Nat) (s : Nat) (hs : 1 ≤ s) (hs2 : s ≤ 11) (hl : ∀ h ∈ l, h ≤ 10) (hz : l.length ≤ 100) :
    callF (cons2 (toAF (toLF (compV (iterF (nameA 0)) trueTF (bind2 addF (toAF (bind2 mulAll (toAF (bind2 divIF (toAF (bind2 addF (nameA 0) (toAF (litF (.fint 1))))) (nameA 1))) (nameA 1))) (nameA 1)) [1]))) nilF) sumF [.val (.list (l.map ii)), .val (fi s)] = some (.int (colsum l s)) := by
  have e1 : compV (iterF (nameA 0)) trueTF (bind2 addF (toAF (bind2 mulAll (toAF (bind2 divIF (toAF (bind2 addF (nameA 0) (toAF (litF (.fint 1))))) (nameA 1))) (nameA 1))) (nameA 1)) [1] [.val (.list (l.map ii)), .val (fi s)] = some ((l.map (colE s)).map MV.fint) := by
    refine (compV_eq (iterF_eq rfl (by rw [List.length_map]; omega)) rfl).trans ?_
    exact compF_map2 ii (colE s) MV.fint l fun h hh => col_elt s h hs hs2 (hl h hh)
  refine callF_eq (cons2_eq (toAF_eq (toLF_eq e1)) rfl) ?_
  show (match nums ((l.map (colE s)).map MV.fint) with | some ns => some (MV.int ns.sum) | none => none) = _
  rw [nums_fint]; rfl
/-- what both lists of told columns hold -/
noncomputable def toldM (a b : Nat → Int) (g : Int → MV) (s : Nat) : Option MV := if a s = b s then none else some (.tup [fi s, g (a s), g (b s)])
noncomputable def toldL (a b : Nat → Int) (g : Int → MV) (ss : List Nat) : List MV := ss.filterMap (toldM a b g)
theorem toldL_cons (a b : Nat → Int) (g : Int → MV) (s : Nat) (ss : List Nat) : toldL a b g (s :: ss) = (if a s = b s then [] else [.tup [fi s, g (a s), g (b s)]]) ++ toldL a b g ss := by
  unfold toldL
  rw [List.filterMap_cons]
  unfold toldM
  by_cases h : a s = b s
  · rw [if_pos h, if_pos h]; rfl
  · rw [if_neg h, if_neg h]; rfl
theorem neF_ints {x y : LV} {a b : Int} (hx : x.num = some a) (hy : y.num = some b) : neF x y = some (!(a == b)) := by
  show (eqF x y).map _ = _
  unfold eqF
  rw [hx, hy]
  rfl
/-- the law's state in its last loop -/
noncomputable def LC (h7 : List LV) (l : List Nat) (h8 : List LV) (s16 : LV) (k : List Nat) (s18 : LV) (acc : List MV) (s20 : LV) : List LV := h7 ++ (.val (.list (l.map ii)) :: h8) ++ [s16, .val (.list (k.map ii)), s18, .own acc, s20]
end Mine
end
section
open PySem PySem.W PyProof.Rows PySem.Calls
set_option Elab.async false
set_option linter.unusedVariables false
set_option linter.unusedSimpArgs false
set_option maxRecDepth 100000
namespace Mine
noncomputable def LD (t0 t1 t2 t3 t4 t5 t6 : LV) (l : List Nat) (t8 t9 t10 t11 t12 t13 t14 t15 s16 : LV) (k : List Nat) (s18 : LV) (acc : List MV) (s20 : LV) : List LV :=
  [t0, t1, t2, t3, t4, t5, t6, .val (.list (l.map ii)), t8, t9, t10, t11, t12, t13, t14, t15, s16, .val (.list (k.map ii)), s18, .own acc, s20]
theorem compF_two {fe : MF} {mk : MV → List LV} {x y u v : MV} (h1 : fe (mk x) = some u) (h2 : fe (mk y) = some v) : compF trueTF fe mk [x, y] = some [u, v] := by
  have := compF_map (fe := fe) (mk := mk) (g := fun b : Bool => if b then x else y) (g' := fun b : Bool => if b then u else v) [true, false] (fun b hb => by
    cases b
    · exact h2
    · exact h1)
  exact this
theorem told_step (t0 t1 t2 t3 t4 t5 t6 t8 t9 t10 t11 t12 t13 t14 t15 s18 s20 : LV) (l k : List Nat) (acc : List MV) (s : Nat) (hs : 1 ≤ s) (hs2 : s ≤ 11) (hl : ∀ h ∈ l, h ≤ 10) (hlz : l.length ≤ 100) (hk : ∀ h ∈ k, h ≤ 10) (hkz : k.length ≤ 100) (hacc : acc.length ≤ 1000) :
    ∃ s20', B_law_3 (LD t0 t1 t2 t3 t4 t5 t6 l t8 t9 t10 t11 t12 t13 t14 t15 (.val (fi s)) k s18 acc s20) =
      some (.next (LD t0 t1 t2 t3 t4 t5 t6 l t8 t9 t10 t11 t12 t13 t14 t15 (.val (fi s)) k s18 (acc ++ (if colsum l s = colsum k s then [] else [.tup [fi s, .int (colsum l s), .int (colsum k s)]])) s20')) := by
  refine ⟨.val (.list [.int (colsum l s), .int (colsum k s)]), ?_⟩
  have e1 : compV (iterF (toAF (toLF (fitF (cons2 (nameE 7) (cons2 (nameE 17) nilF)))))) trueTF (callF (cons2 (toAF (toLF (compV (iterF (nameA 0)) trueTF (bind2 addF (toAF (bind2 mulAll (toAF (bind2 divIF (toAF (bind2 addF (nameA 0) (toAF (litF (.fint 1))))) (nameA 1))) (nameA 1))) (nameA 1)) [1]))) nilF) sumF) [16]
      (LD t0 t1 t2 t3 t4 t5 t6 l t8 t9 t10 t11 t12 t13 t14 t15 (.val (fi s)) k s18 acc s20) = some [.int (colsum l s), .int (colsum k s)] := by
    have e0 : iterF (toAF (toLF (fitF (cons2 (nameE 7) (cons2 (nameE 17) nilF))))) (LD t0 t1 t2 t3 t4 t5 t6 l t8 t9 t10 t11 t12 t13 t14 t15 (.val (fi s)) k s18 acc s20) = some [.list (l.map ii), .list (k.map ii)] := rfl
    refine (compV_eq e0 rfl).trans ?_
    exact compF_two (col_row l s hs hs2 hl hlz) (col_row k s hs hs2 hk hkz)
  unfold B_law_3
  refine (seqS_next (setO_eq e1)).trans ?_
  generalize colsum l s = a
  generalize colsum k s = b
  show seqS _ nextF (LD t0 t1 t2 t3 t4 t5 t6 l t8 t9 t10 t11 t12 t13 t14 t15 (.val (fi s)) k s18 acc (.val (.list [.int a, .int b]))) = _
  have i0 : bind2 itemS (nameA 20) (toAF (litF (.fint 0))) (LD t0 t1 t2 t3 t4 t5 t6 l t8 t9 t10 t11 t12 t13 t14 t15 (.val (fi s)) k s18 acc (.val (.list [.int a, .int b]))) = some (.int a) :=
    (bind2_eq (x := .val (.list [.int a, .int b])) (y := .val (.fint 0)) rfl rfl).trans (itemS_list (k := 0) (Nat.le_of_ble_eq_true rfl) rfl rfl)
  have i1 : bind2 itemS (nameA 20) (toAF (litF (.fint 1))) (LD t0 t1 t2 t3 t4 t5 t6 l t8 t9 t10 t11 t12 t13 t14 t15 (.val (fi s)) k s18 acc (.val (.list [.int a, .int b]))) = some (.int b) :=
    (bind2_eq (x := .val (.list [.int a, .int b])) (y := .val (.fint 1)) rfl rfl).trans (itemS_list (k := 1) (Nat.le_of_ble_eq_true rfl) rfl rfl)
  have ht : bind2 neF (toAF (bind2 itemS (nameA 20) (toAF (litF (.fint 0))))) (toAF (bind2 itemS (nameA 20) (toAF (litF (.fint 1))))) (LD t0 t1 t2 t3 t4 t5 t6 l t8 t9 t10 t11 t12 t13 t14 t15 (.val (fi s)) k s18 acc (.val (.list [.int a, .int b]))) = some (!(a == b)) :=
    (bind2_eq (toAF_eq i0) (toAF_eq i1)).trans (neF_ints rfl rfl)
  by_cases h : a = b
  · rw [if_pos h, List.append_nil]
    have hb : (!(a == b)) = false := by rw [beq_iff_eq.mpr h]; rfl
    exact (seqS_next ((ifM_false (ht.trans (congrArg some hb))).trans rfl)).trans rfl
  · rw [if_neg h]
    have hb : (!(a == b)) = true := by rw [beq_eq_false_iff_ne.mpr h]; rfl
    refine (seqS_next (ℓ' := LD t0 t1 t2 t3 t4 t5 t6 l t8 t9 t10 t11 t12 t13 t14 t15 (.val (fi s)) k s18 (acc ++ [.tup [fi s, .int a, .int b]]) (.val (.list [.int a, .int b]))) ((ifM_true (ht.trans (congrArg some hb))).trans ?_)).trans rfl
    have hc : cons2 (nameE 16) (cons2 (bind2 itemS (nameA 20) (toAF (litF (.fint 0)))) (cons2 (bind2 itemS (nameA 20) (toAF (litF (.fint 1)))) nilF)) (LD t0 t1 t2 t3 t4 t5 t6 l t8 t9 t10 t11 t12 t13 t14 t15 (.val (fi s)) k s18 acc (.val (.list [.int a, .int b]))) = some [fi s, .int a, .int b] :=
      cons2_eq rfl (cons2_eq i0 (cons2_eq i1 rfl))
    have htup : tupF (cons2 (nameE 16) (cons2 (bind2 itemS (nameA 20) (toAF (litF (.fint 0)))) (cons2 (bind2 itemS (nameA 20) (toAF (litF (.fint 1)))) nilF))) (LD t0 t1 t2 t3 t4 t5 t6 l t8 t9 t10 t11 t12 t13 t14 t15 (.val (fi s)) k s18 acc (.val (.list [.int a, .int b]))) = some (.tup [fi s, .int a, .int b]) :=
      (congrArg (fun z => (z.bind fits).map MV.tup) hc).trans rfl
    refine (seqS_next (ℓ' := LD t0 t1 t2 t3 t4 t5 t6 l t8 t9 t10 t11 t12 t13 t14 t15 (.val (fi s)) k s18 (acc ++ [.tup [fi s, .int a, .int b]]) (.val (.list [.int a, .int b]))) ?_).trans rfl
    unfold appF
    rw [htup]
    show (if szOK acc = true then _ else none) = _
    rw [if_pos (szOK_le (by omega))]
    rfl
theorem toldL_len (a b : Nat → Int) (g : Int → MV) (ss : List Nat) : (toldL a b g ss).length ≤ ss.length := List.length_filterMap_le _ _
theorem told_loop (t0 t1 t2 t3 t4 t5 t6 t8 t9 t10 t11 t12 t13 t14 t15 s18 : LV) (l k : List Nat) (hl : ∀ h ∈ l, h ≤ 10) (hlz : l.length ≤ 100) (hk : ∀ h ∈ k, h ≤ 10) (hkz : k.length ≤ 100) :
    ∀ (ss : List Nat) (acc : List MV) (s16 s20 : LV), (∀ s ∈ ss, 1 ≤ s ∧ s ≤ 11) → acc.length + ss.length ≤ 1000 →
    ∃ s16' s20', forL 16 B_law_3 (ss.map fi) (LD t0 t1 t2 t3 t4 t5 t6 l t8 t9 t10 t11 t12 t13 t14 t15 s16 k s18 acc s20) =
      some (.next (LD t0 t1 t2 t3 t4 t5 t6 l t8 t9 t10 t11 t12 t13 t14 t15 s16' k s18 (acc ++ toldL (colsum l) (colsum k) MV.int ss) s20'))
  | [], acc, s16, s20, _, _ => ⟨s16, s20, by rw [show toldL (colsum l) (colsum k) MV.int [] = [] from rfl, List.append_nil]; rfl⟩
  | s :: ss, acc, s16, s20, h, hz => by
    rw [List.length_cons] at hz
    obtain ⟨s20', e1⟩ := told_step t0 t1 t2 t3 t4 t5 t6 t8 t9 t10 t11 t12 t13 t14 t15 s18 s20 l k acc s (h s (.head _)).1 (h s (.head _)).2 hl hlz hk hkz (by omega)
    obtain ⟨u, v, e2⟩ := told_loop t0 t1 t2 t3 t4 t5 t6 t8 t9 t10 t11 t12 t13 t14 t15 s18 l k hl hlz hk hkz ss (acc ++ (if colsum l s = colsum k s then [] else [.tup [fi s, .int (colsum l s), .int (colsum k s)]])) (.val (fi s)) s20' (fun x hx => h x (.tail _ hx)) (by
      rw [List.length_append]; split <;> simp <;> omega)
    refine ⟨u, v, ?_⟩
    rw [List.map_cons, toldL_cons, ← List.append_assoc]
    exact (forL_cons e1).trans e2
/-! the same, as not_equal_witness tells it -/
theorem longest_eq (raw : Str) (c : List Int) (n nt : Int) (hc : 1 ≤ c.length) (hc2 : c.length ≤ 100) : F_longest_run_of_spaces [.val (.ws raw c 0 n nt)] = some (.int ((c.length : Int) - 1)) := by
  unfold F_longest_run_of_spaces
  refine defF_ret (ps := 1) rfl ?_
  show G_longest_run_of_spaces [.val (.ws raw c 0 n nt), .undef, .undef] = _
  unfold G_longest_run_of_spaces
  refine (seqS_next (ℓ' := [.val (.ws raw c 0 n nt), .val (.tup (c.map .int)), .val (.int 0)]) (by kernel_rfl)).trans ?_
  have hl : lenFF (nameA 1) [.val (.ws raw c 0 n nt), .val (.tup (c.map .int)), .val (.int 0)] = some (c.length : Int) := by
    show (if szOK (c.map MV.int) then some (((c.map MV.int).length : Nat) : Int) else none) = _
    rw [if_pos (szOK_le (by rw [List.length_map]; omega)), List.length_map]
  have e1 : bind2 subIF (toAF (toIF (lenFF (nameA 1)))) (toAF (litF (.fint 1))) [.val (.ws raw c 0 n nt), .val (.tup (c.map .int)), .val (.int 0)] = some (.fint ((c.length : Int) - 1)) :=
    (bind2_eq (y := .val (.fint 1)) (toAF_eq (toIF_eq hl)) rfl).trans rfl
  refine seqS_ret (retF_eq (callF_eq (cons2_eq (toAF_eq e1) rfl) ?_))
  show some (MV.int (if (0 : Int) > (c.length : Int) - 1 then 0 else (c.length : Int) - 1)) = _
  rw [if_neg (by omega)]
theorem wit_step (r1 r2 : Str) (c1 c2 : List Int) (n1 n2 nt1 nt2 : Int) (nv : LV) (acc : List MV) (s : Nat) (hs : 1 ≤ s) (hs2 : s ≤ 11) (h1 : c1.length ≤ 11) (h2 : c2.length ≤ 11) (hacc : acc.length ≤ 1000) :
    B_not_equal_witness_1 [.val (.ws r1 c1 0 n1 nt1), .val (.ws r2 c2 0 n2 nt2), nv, .own acc, .val (fi s)] =
      some (.next [.val (.ws r1 c1 0 n1 nt1), .val (.ws r2 c2 0 n2 nt2), nv, .own (acc ++ (if ind c1 0 nt1 s = ind c2 0 nt2 s then [] else [.tup [fi s, .fint (ind c1 0 nt1 s), .fint (ind c2 0 nt2 s)]])), .val (fi s)]) := by
  have i0 : methF (nameE 0) (cons2 (nameA 4) nilF) F_indent_level [.val (.ws r1 c1 0 n1 nt1), .val (.ws r2 c2 0 n2 nt2), nv, .own acc, .val (fi s)] = some (.fint (ind c1 0 nt1 s)) := indent_eq r1 c1 0 n1 nt1 s hs hs2 h1
  have i1 : methF (nameE 1) (cons2 (nameA 4) nilF) F_indent_level [.val (.ws r1 c1 0 n1 nt1), .val (.ws r2 c2 0 n2 nt2), nv, .own acc, .val (fi s)] = some (.fint (ind c2 0 nt2 s)) := indent_eq r2 c2 0 n2 nt2 s hs hs2 h2
  generalize ind c1 0 nt1 s = a at i0 ⊢
  generalize ind c2 0 nt2 s = b at i1 ⊢
  have ht := (bind2_eq (F := neF) (toAF_eq i0) (toAF_eq i1)).trans (neF_ints (a := a) (b := b) rfl rfl)
  unfold B_not_equal_witness_1
  by_cases h : a = b
  · rw [if_pos h, List.append_nil]
    have hb : (!(a == b)) = false := by rw [beq_iff_eq.mpr h]; rfl
    exact (seqS_next ((ifM_false (ht.trans (congrArg some hb))).trans rfl)).trans rfl
  · rw [if_neg h]
    have hb : (!(a == b)) = true := by rw [beq_eq_false_iff_ne.mpr h]; rfl
    refine (seqS_next (ℓ' := [.val (.ws r1 c1 0 n1 nt1), .val (.ws r2 c2 0 n2 nt2), nv, .own (acc ++ [.tup [fi s, .fint a, .fint b]]), .val (fi s)]) ((ifM_true (ht.trans (congrArg some hb))).trans ?_)).trans rfl
    have hc : cons2 (nameE 4) (cons2 (methF (nameE 0) (cons2 (nameA 4) nilF) F_indent_level) (cons2 (methF (nameE 1) (cons2 (nameA 4) nilF) F_indent_level) nilF)) [.val (.ws r1 c1 0 n1 nt1), .val (.ws r2 c2 0 n2 nt2), nv, .own acc, .val (fi s)] = some [fi s, .fint a, .fint b] :=
      cons2_eq rfl (cons2_eq i0 (cons2_eq i1 rfl))
    have htup : tupF (cons2 (nameE 4) (cons2 (methF (nameE 0) (cons2 (nameA 4) nilF) F_indent_level) (cons2 (methF (nameE 1) (cons2 (nameA 4) nilF) F_indent_level) nilF))) [.val (.ws r1 c1 0 n1 nt1), .val (.ws r2 c2 0 n2 nt2), nv, .own acc, .val (fi s)] = some (.tup [fi s, .fint a, .fint b]) :=
      (congrArg (fun z => (z.bind fits).map MV.tup) hc).trans rfl
    refine (seqS_next (ℓ' := [.val (.ws r1 c1 0 n1 nt1), .val (.ws r2 c2 0 n2 nt2), nv, .own (acc ++ [.tup [fi s, .fint a, .fint b]]), .val (fi s)]) ?_).trans rfl
    unfold appF
    rw [htup]
    show (if szOK acc = true then _ else none) = _
    rw [if_pos (szOK_le (by omega))]
    rfl
end Mine
end
section
open PySem PySem.W PyProof.Rows PySem.Calls
set_option Elab.async false
set_option linter.unusedVariables false
set_option linter.unusedSimpArgs false
set_option maxRecDepth 100000
namespace Mine
theorem addF_num {x y : LV} {a b : Int} (hx : x.num = some a) (hy : y.num = some b) : addF x y = some (.fint (a + b)) := by
  unfold addF
  rw [hx, hy]
theorem wit_loop (r1 r2 : Str) (c1 c2 : List Int) (n1 n2 nt1 nt2 : Int) (nv : LV) (h1 : c1.length ≤ 11) (h2 : c2.length ≤ 11) : ∀ (ss : List Nat) (acc : List MV) (ch : LV), (∀ s ∈ ss, 1 ≤ s ∧ s ≤ 11) → acc.length + ss.length ≤ 1000 →
    ∃ ch', forL 4 B_not_equal_witness_1 (ss.map fi) [.val (.ws r1 c1 0 n1 nt1), .val (.ws r2 c2 0 n2 nt2), nv, .own acc, ch] =
      some (.next [.val (.ws r1 c1 0 n1 nt1), .val (.ws r2 c2 0 n2 nt2), nv, .own (acc ++ toldL (ind c1 0 nt1) (ind c2 0 nt2) MV.fint ss), ch'])
  | [], acc, ch, _, _ => ⟨ch, by rw [show toldL (ind c1 0 nt1) (ind c2 0 nt2) MV.fint [] = [] from rfl, List.append_nil]; rfl⟩
  | s :: ss, acc, ch, h, hz => by
    rw [List.length_cons] at hz
    have e1 := wit_step r1 r2 c1 c2 n1 n2 nt1 nt2 nv acc s (h s (.head _)).1 (h s (.head _)).2 h1 h2 (by omega)
    obtain ⟨u, e2⟩ := wit_loop r1 r2 c1 c2 n1 n2 nt1 nt2 nv h1 h2 ss (acc ++ (if ind c1 0 nt1 s = ind c2 0 nt2 s then [] else [.tup [fi s, .fint (ind c1 0 nt1 s), .fint (ind c2 0 nt2 s)]])) (.val (fi s)) (fun x hx => h x (.tail _ hx)) (by
      rw [List.length_append]; split <;> simp <;> omega)
    refine ⟨u, ?_⟩
    rw [List.map_cons, toldL_cons, ← List.append_assoc]
    exact (forL_cons e1).trans e2
noncomputable def sizes (K : Nat) : List Nat := (List.range K).map fun i => 1 + i
theorem sizes_mem {K s : Nat} (hK : K ≤ 10) (h : s ∈ sizes K) : 1 ≤ s ∧ s ≤ 11 := by
  obtain ⟨i, hi, rfl⟩ := List.mem_map.mp h
  have := List.mem_range.mp hi; omega
theorem rangeA2 (a b : Int) : rangeA [.val (.fint a), .val (.fint b)] = rangeF a b 1 := rfl
theorem range_sizes (K : Nat) (hK : K ≤ 10) : rangeF 1 ((K : Int) + 1) 1 = some ((sizes K).map fi) := by
  rw [show (K : Int) + 1 = ((K + 1 : Nat) : Int) by omega]
  have := range_ab 1 (K + 1) (by omega) (by omega)
  rw [show K + 1 - 1 = K by omega] at this
  unfold sizes
  rw [List.map_map]
  exact this
theorem wit_eq (r1 r2 : Str) (c1 c2 : List Int) (n1 n2 nt1 nt2 : Int) (K : Nat) (l1 : 1 ≤ c1.length) (l2 : 1 ≤ c2.length) (h1 : c1.length ≤ 11) (h2 : c2.length ≤ 11) (hK : K ≤ 10) (hmax : max (c1.length - 1) (c2.length - 1) + 1 = K) :
    F_not_equal_witness [.val (.ws r1 c1 0 n1 nt1), .val (.ws r2 c2 0 n2 nt2)] = some (.list (toldL (ind c1 0 nt1) (ind c2 0 nt2) MV.fint (sizes K))) := by
  unfold F_not_equal_witness
  refine defF_ret (ps := 2) rfl ?_
  show G_not_equal_witness [.val (.ws r1 c1 0 n1 nt1), .val (.ws r2 c2 0 n2 nt2), .undef, .undef, .undef] = _
  have i0 : methF (nameE 0) nilF F_longest_run_of_spaces [.val (.ws r1 c1 0 n1 nt1), .val (.ws r2 c2 0 n2 nt2), .undef, .undef, .undef] = some (.int ((c1.length : Int) - 1)) := longest_eq r1 c1 n1 nt1 l1 (by omega)
  have i1 : methF (nameE 1) nilF F_longest_run_of_spaces [.val (.ws r1 c1 0 n1 nt1), .val (.ws r2 c2 0 n2 nt2), .undef, .undef, .undef] = some (.int ((c2.length : Int) - 1)) := longest_eq r2 c2 n2 nt2 l2 (by omega)
  have e1 : callF (cons2 (toAF (methF (nameE 0) nilF F_longest_run_of_spaces)) (cons2 (toAF (methF (nameE 1) nilF F_longest_run_of_spaces)) nilF)) maxF [.val (.ws r1 c1 0 n1 nt1), .val (.ws r2 c2 0 n2 nt2), .undef, .undef, .undef]
      = some (.int (if (c2.length : Int) - 1 > (c1.length : Int) - 1 then (c2.length : Int) - 1 else (c1.length : Int) - 1)) := callF_eq (cons2_eq (toAF_eq i0) (cons2_eq (toAF_eq i1) rfl)) rfl
  have e2 : bind2 addF (toAF (callF (cons2 (toAF (methF (nameE 0) nilF F_longest_run_of_spaces)) (cons2 (toAF (methF (nameE 1) nilF F_longest_run_of_spaces)) nilF)) maxF)) (toAF (litF (.fint 1))) [.val (.ws r1 c1 0 n1 nt1), .val (.ws r2 c2 0 n2 nt2), .undef, .undef, .undef] = some (fi K) := by
    have hKe : (if (c2.length : Int) - 1 > (c1.length : Int) - 1 then (c2.length : Int) - 1 else (c1.length : Int) - 1) + 1 = (K : Int) := by
      subst hmax
      split <;> omega
    have hn : (LV.val (MV.int (if (c2.length : Int) - 1 > (c1.length : Int) - 1 then (c2.length : Int) - 1 else (c1.length : Int) - 1))).num = some (if (c2.length : Int) - 1 > (c1.length : Int) - 1 then (c2.length : Int) - 1 else (c1.length : Int) - 1) := rfl
    have h1' : (LV.val (MV.fint 1)).num = some 1 := rfl
    have e3 := (bind2_eq (F := addF) (fb := toAF (litF (.fint 1))) (y := .val (.fint 1)) (toAF_eq e1) rfl).trans (addF_num hn h1')
    rw [hKe] at e3
    exact e3
  unfold G_not_equal_witness
  refine (seqS_next (setV_eq e2)).trans ?_
  refine (seqS_next (ℓ' := [.val (.ws r1 c1 0 n1 nt1), .val (.ws r2 c2 0 n2 nt2), .val (fi K), .own [], .undef]) rfl).trans ?_
  have ek : bind2 addF (nameA 2) (toAF (litF (.fint 1))) [.val (.ws r1 c1 0 n1 nt1), .val (.ws r2 c2 0 n2 nt2), .val (fi K), .own [], .undef] = some (.fint ((K : Int) + 1)) :=
    (bind2_eq (x := .val (fi K)) (y := .val (.fint 1)) rfl rfl).trans (addF_num (a := (K : Int)) (b := 1) rfl rfl)
  have a1 : toAF (litF (.fint 1)) [.val (.ws r1 c1 0 n1 nt1), .val (.ws r2 c2 0 n2 nt2), .val (fi K), .own [], .undef] = some (.val (.fint 1)) := rfl
  have a0 : nilF [.val (.ws r1 c1 0 n1 nt1), .val (.ws r2 c2 0 n2 nt2), .val (fi K), .own [], .undef] = some ([] : List LV) := rfl
  have a2 : toAF (bind2 addF (nameA 2) (toAF (litF (.fint 1)))) [.val (.ws r1 c1 0 n1 nt1), .val (.ws r2 c2 0 n2 nt2), .val (fi K), .own [], .undef] = some (.val (.fint ((K : Int) + 1))) := toAF_eq ek
  have a3 : cons2 (toAF (bind2 addF (nameA 2) (toAF (litF (.fint 1))))) nilF [.val (.ws r1 c1 0 n1 nt1), .val (.ws r2 c2 0 n2 nt2), .val (fi K), .own [], .undef] = some [.val (.fint ((K : Int) + 1))] := cons2_eq a2 a0
  have ea : cons2 (toAF (litF (.fint 1))) (cons2 (toAF (bind2 addF (nameA 2) (toAF (litF (.fint 1))))) nilF) [.val (.ws r1 c1 0 n1 nt1), .val (.ws r2 c2 0 n2 nt2), .val (fi K), .own [], .undef] = some [.val (.fint 1), .val (.fint ((K : Int) + 1))] :=
    cons2_eq a1 a3
  have er : rangeA [.val (.fint 1), .val (.fint ((K : Int) + 1))] = some ((sizes K).map fi) := (rangeA2 1 ((K : Int) + 1)).trans (range_sizes K hK)
  have hr : rangF (cons2 (toAF (litF (.fint 1))) (cons2 (toAF (bind2 addF (nameA 2) (toAF (litF (.fint 1))))) nilF)) [.val (.ws r1 c1 0 n1 nt1), .val (.ws r2 c2 0 n2 nt2), .val (fi K), .own [], .undef] = some ((sizes K).map fi) := by
    show (match cons2 (toAF (litF (.fint 1))) (cons2 (toAF (bind2 addF (nameA 2) (toAF (litF (.fint 1))))) nilF) [.val (.ws r1 c1 0 n1 nt1), .val (.ws r2 c2 0 n2 nt2), .val (fi K), .own [], .undef] with | some a => rangeA a | none => none) = _
    rw [ea]
    exact er
  obtain ⟨ch', e3⟩ := wit_loop r1 r2 c1 c2 n1 n2 nt1 nt2 (.val (fi K)) h1 h2 (sizes K) [] .undef (fun s hs => sizes_mem hK hs) (by unfold sizes; simp; omega)
  refine (seqS_next ((forF_eq hr).trans e3)).trans ?_
  rfl
/-! two told lists are equal to Python -/
noncomputable def toldD (a b : Nat → Int) (ss : List Nat) : List PyData := ss.filterMap fun s => if a s = b s then none else some (.tuple [.int s, .int (a s), .int (b s)])
theorem toldD_cons (a b : Nat → Int) (s : Nat) (ss : List Nat) : toldD a b (s :: ss) = (if a s = b s then [] else [.tuple [.int s, .int (a s), .int (b s)]]) ++ toldD a b ss := by
  unfold toldD
  rw [List.filterMap_cons]
  by_cases h : a s = b s
  · rw [if_pos h, if_pos h]; rfl
  · rw [if_neg h, if_neg h]; rfl
theorem pys_told (a b : Nat → Int) (g : Int → MV) (hg : ∀ i, py (g i) = some (.int i)) : ∀ ss : List Nat, pys (toldL a b g ss) = some (toldD a b ss)
  | [] => rfl
  | s :: ss => by
    have ih := pys_told a b g hg ss
    rw [toldL_cons, toldD_cons]
    by_cases h : a s = b s
    · rw [if_pos h, if_pos h]; exact ih
    · rw [if_neg h, if_neg h]
      show pys (MV.tup [fi s, g (a s), g (b s)] :: toldL a b g ss) = _
      have e1 : py (MV.tup [fi s, g (a s), g (b s)]) = some (.tuple [.int s, .int (a s), .int (b s)]) := by
        rw [py_tup, pys_cons, pys_cons, pys_cons, hg, hg]; rfl
      rw [pys_cons, e1, ih]; rfl
theorem toldD_ok (a b : Nat → Int) : ∀ ss : List Nat, PyData.canLayAll0 (toldD a b ss) = true ∧ PyData.depthAll (toldD a b ss) ≤ 1
  | [] => ⟨rfl, Nat.zero_le _⟩
  | s :: ss => by
    have ih := toldD_ok a b ss
    rw [toldD_cons]
    by_cases h : a s = b s
    · rw [if_pos h]; exact ih
    · rw [if_neg h]
      refine ⟨?_, ?_⟩
      · show PyData.canLayAll0 (.tuple [.int s, .int (a s), .int (b s)] :: toldD a b ss) = true
        simp [PyData.canLayAll0, PyData.canLay0, ih.1]
      · show PyData.depthAll (.tuple [.int s, .int (a s), .int (b s)] :: toldD a b ss) ≤ 1
        simp [PyData.depthAll, PyData.depth]
        exact Nat.max_le.mpr ⟨Nat.le_refl 1, ih.2⟩
theorem eq_told (a b : Nat → Int) (ss : List Nat) : eqF (.val (.list (toldL a b MV.fint ss))) (.val (.list (toldL a b MV.int ss))) = some true := by
  have hs : SeqAt.shaped (.list (toldD a b ss)) = true := by
    obtain ⟨h1, h2⟩ := toldD_ok a b ss
    unfold SeqAt.shaped
    rw [Bool.and_eq_true, decide_eq_true_eq]
    refine ⟨by rw [PyData.canLay0]; exact h1, ?_⟩
    rw [PyData.depth]; omega
  have e1 : py (.list (toldL a b MV.fint ss)) = some (.list (toldD a b ss)) := by rw [py_list, pys_told a b MV.fint (fun _ => rfl)]; rfl
  have e2 : py (.list (toldL a b MV.int ss)) = some (.list (toldD a b ss)) := by rw [py_list, pys_told a b MV.int (fun _ => rfl)]; rfl
  show (match py (.list (toldL a b MV.fint ss)), py (.list (toldL a b MV.int ss)) with | some d, some e => if SeqAt.shaped d && SeqAt.shaped e then some (d.eqv e) else none | _, _ => none) = some true
  rw [e1, e2]
  show (if SeqAt.shaped (.list (toldD a b ss)) && SeqAt.shaped (.list (toldD a b ss)) then some (PyData.eqv (.list (toldD a b ss)) (.list (toldD a b ss))) else none) = some true
  rw [hs, PySem.SeqAt.eqv_refl _ (SeqAt.canLay_of_shaped hs)]
  rfl
theorem toldL_congr {a b a' b' : Nat → Int} {g : Int → MV} : ∀ {ss : List Nat}, (∀ s ∈ ss, a s = a' s) → (∀ s ∈ ss, b s = b' s) → toldL a b g ss = toldL a' b' g ss
  | [], _, _ => rfl
  | s :: ss, ha, hb => by
    rw [toldL_cons, toldL_cons, ha s (.head _), hb s (.head _), toldL_congr (fun x hx => ha x (.tail _ hx)) (fun x hx => hb x (.tail _ hx))]
/-! checks over pairs of figures -/
noncomputable def normV (f : List Nat) : MV := .tup [.tup ((cntV (cnts f)).map .int), .int 0]
noncomputable def check8 (f o : List Nat) : Bool := match eqF (.val (normV f)) (.val (normV o)), eqF (.val (fV f)) (.val (fV o)) with
  | some a, some b => a == b
  | _, _ => false
theorem chk8 : ∀ n m : Fin 32, check8 (bits n) (bits m) = true := by decide +kernel
theorem chk9 : ∀ n m : Fin 32, maxI ((shk (bits n) ++ shk (bits m)).map fun (k : Nat) => (k : Int)) + 3 = ((max ((cnts (bits n)).length - 1) ((cnts (bits m)).length - 1) + 1 + 1 : Nat) : Int) := by decide +kernel
theorem chk10 : ∀ (n : Fin 32) (s : Fin 12), 1 ≤ s.val → ind (cntV (cnts (bits n))) 0 6 s.val = colsum (shk (bits n)) s.val := by decide +kernel
theorem chk11 : ∀ n : Fin 32, 2 ≤ (cnts (bits n)).length ∧ (cnts (bits n)).length ≤ 8 := by decide +kernel
end Mine
end
section
open PySem PySem.W PyProof.Rows PySem.Calls
set_option Elab.async false
set_option linter.unusedVariables false
set_option linter.unusedSimpArgs false
set_option maxRecDepth 100000
namespace Mine
theorem seqS_some {g k : SF} {ℓ ℓ' : List LV} (h : seqS g k ℓ = some (.next ℓ')) : ∃ ℓ1, g ℓ = some (.next ℓ1) ∧ k ℓ1 = some (.next ℓ') := by
  unfold seqS at h
  split at h
  · rename_i ℓ1 e; exact ⟨ℓ1, e, h⟩
  · cases h
  · cases h
theorem r13_to (ℓ ℓ' : List LV) (h : R13 ℓ = some (.next ℓ')) : T_law_13 ℓ = T_law_17 ℓ' := by
  unfold R13 at h
  obtain ⟨a, h1, h⟩ := seqS_some h
  obtain ⟨b, h2, h⟩ := seqS_some h
  obtain ⟨c, h3, h⟩ := seqS_some h
  obtain ⟨d, h4, h⟩ := seqS_some h
  have hd : d = ℓ' := by
    have h' : some (Out.next d) = some (.next ℓ') := h
    cases h'; rfl
  subst hd
  unfold T_law_13
  refine (seqS_next h1).trans ?_
  unfold T_law_14
  refine (seqS_next h2).trans ?_
  unfold T_law_15
  refine (seqS_next h3).trans ?_
  unfold T_law_16
  exact seqS_next h4
theorem q12 (ℓ : List LV) (f : List Nat) (raw : Str) (N : Int) (l : List MV) (h2 : nameE 2 ℓ = some (fV f)) (h2a : nameA 2 ℓ = some (.val (fV f))) (h6 : nameA 6 ℓ = some (.val (.list l))) (h10 : nameE 10 ℓ = some (.ws raw (cntV (cnts f)) 0 N 6)) (hl : F__law_hands [.val (fV f)] = some (.list l)) (c6 : check6 f = true) :
    Q_law_12 ℓ = some (.next ℓ) := by
  unfold check6 at c6
  have hh : hV f = .list l := by unfold hV; rw [hl]; rfl
  rw [hh] at c6
  split at c6
  case h_2 => cases c6
  rename_i r a hr ha
  have he := beq_iff_eq.mp c6
  unfold Q_law_12 ifBack
  have ea : bind2 itemS (toAF (attrFF "norm" (nameE 10))) (toAF (litF (.fint 0))) ℓ = some (.tup ((cntV (cnts f)).map .int)) := by
    have e0 : attrFF "norm" (nameE 10) ℓ = some (.tup [.tup ((cntV (cnts f)).map .int), .int 0]) := by
      show (nameE 10 ℓ).bind (attrF "norm") = _
      rw [h10]
      kernel_rfl
    exact (bind2_eq (y := .val (.fint 0)) (toAF_eq e0) rfl).trans rfl
  have eb : tupF (cons2 (nameE 2) (cons2 (callF (cons2 (nameA 6) (cons2 (nameA 2) nilF)) F__law_ahead) (cons2 (toLF (fitF (cons2 (litF (.fint 1)) nilF))) nilF))) ℓ = some (.tup [fV f, a, .list [.fint 1]]) := by
    have a1 : cons2 (nameA 2) nilF ℓ = some [.val (fV f)] := cons2_eq h2a rfl
    have a2 : cons2 (nameA 6) (cons2 (nameA 2) nilF) ℓ = some [.val (.list l), .val (fV f)] := cons2_eq h6 a1
    have a3 : callF (cons2 (nameA 6) (cons2 (nameA 2) nilF)) F__law_ahead ℓ = some a := callF_eq a2 ha
    have a4 : cons2 (toLF (fitF (cons2 (litF (.fint 1)) nilF))) nilF ℓ = some [.list [.fint 1]] := rfl
    have a5 := cons2_eq h2 (cons2_eq a3 a4)
    exact (congrArg (fun z => (z.bind fits).map MV.tup) a5).trans rfl
  rw [ea]
  dsimp only
  rw [hr]
  dsimp only
  rw [eb]
  dsimp only
  rw [he]
theorem isNot_eq (b : Bool) : isNotF (.val (.bool b)) (.val (.bool b)) = some false := by cases b <;> rfl
theorem toBF_eq {f : List LV → Option Bool} {ℓ : List LV} {b : Bool} (h : f ℓ = some b) : toBF f ℓ = some (.bool b) := by show (f ℓ).map MV.bool = _; rw [h]; rfl
theorem equal_eq (r1 r2 : Str) (c1 c2 : List Int) (n1 n2 nt1 nt2 : Int) (b : Bool) (h : eqF (.val (.tup [.tup (c1.map .int), .int 0])) (.val (.tup [.tup (c2.map .int), .int 0])) = some b) : F_equal [.val (.ws r1 c1 0 n1 nt1), .val (.ws r2 c2 0 n2 nt2)] = some (.bool b) := by
  unfold F_equal
  refine defF_ret (ps := 2) rfl ?_
  show G_equal [.val (.ws r1 c1 0 n1 nt1), .val (.ws r2 c2 0 n2 nt2)] = _
  unfold G_equal
  have e0 : attrFF "norm" (nameE 0) [.val (.ws r1 c1 0 n1 nt1), .val (.ws r2 c2 0 n2 nt2)] = some (.tup [.tup (c1.map .int), .int 0]) := by kernel_rfl
  have e1 : attrFF "norm" (nameE 1) [.val (.ws r1 c1 0 n1 nt1), .val (.ws r2 c2 0 n2 nt2)] = some (.tup [.tup (c2.map .int), .int 0]) := by kernel_rfl
  have e2 := (bind2_eq (F := eqF) (toAF_eq e0) (toAF_eq e1)).trans h
  exact seqS_ret (retF_eq (toBF_eq e2))
theorem law_true (xs : List Int) (hx : xs.length ≤ 63) : G_law (initL [.ali (xs.map .int)] 20) = some (.ret (.bool true)) := by
  obtain ⟨hv, f, p, e, o, hf, hp, he, ho, hf2, hp2, he3, ho2, e0⟩ := head_law xs hx
  obtain ⟨l, mail, rows, raw, N, hl, e1⟩ := mid_law (.ali (xs.map .int)) hv f p e o hf hp he hf2 hp2 he3
  rw [e0, e1]
  generalize LV.ali (xs.map .int) = sc
  clear e0 e1
  have he3' : ∀ k, e.getD k 0 < 3 := fun k => by
    by_cases hk : k < e.length
    · have : e.getD k 0 = e[k] := by simp [List.getD, hk]
      rw [this]; exact he3 _ (List.getElem_mem hk)
    · have : e.getD k 0 = 0 := by simp [List.getD, hk]
      omega
  obtain ⟨n, rfl⟩ := bits_all f hf hf2
  obtain ⟨m, rfl⟩ := bits_all o ho ho2
  have c1 := chk1 m
  have c6 := chk6 n
  have c8 := chk8 n m
  have c9 := chk9 n m
  have c10n := chk10 n
  have c10m := chk10 m
  obtain ⟨cn1, cn2⟩ := chk11 n
  obtain ⟨cm1, cm2⟩ := chk11 m
  obtain ⟨sn1, sn2⟩ := chk3 n
  obtain ⟨sm1, sm2⟩ := chk3 m
  have r13 := r13_all n
  generalize bits n = f at *
  generalize bits m = o at *
  clear n m
  -- the party read back
  unfold T_law_12
  refine (seqS_next (q12 _ f raw N l rfl rfl rfl rfl hl c6)).trans ?_
  -- the numbers, the columns
  have hh : hV f = .list l := by unfold hV; rw [hl]; rfl
  have r13' := r13_to _ _ (r13 sc hv (.val (fV p)) (.val (.list (e.map endV))) (.val (fV o)) (.val (.str mail)) (.val (.list rows)) raw N)
  rw [hh] at r13'
  refine Eq.trans r13' ?_
  generalize resA f 0 = a0
  generalize resA f 1 = a1
  generalize resA f 2 = a2
  generalize resA f 3 = a3
  generalize resA f 4 = a4
  generalize resA f 5 = a5
  clear r13 r13'
  -- the strangers
  unfold check1 at c1
  split at c1
  case h_2 => cases c1
  rename_i lo hlo
  split at c1
  case h_2 => rw [Bool.and_false] at c1; cases c1
  rename_i rs hrs
  rw [Bool.and_eq_true, decide_eq_true_eq] at c1
  have hrs' : compF trueTF (callF (cons2 (nameA 0) nilF) sumF) (fun m => [.val m]) lo = some ((shk o).map ii) := by rw [hrs, allOf_eq iiOf_eq (beq_iff_eq.mp c1.2)]
  unfold T_law_17
  refine (seqS_next (ℓ' := [sc, .val hv, .val (fV f), .val (fV p), .val (.list (e.map endV)), .val (fV o), .val (.list l), .val (.list ((shk f).map ii)), .val (.str mail), .val (.list rows), .val (.ws raw (cntV (cnts f)) 0 N 6), a0, a1, a2, a3, a4, a5, .own ((shk o).map ii), .undef, .undef, .undef]) ?_).trans ?_
  · have h5 : callF (cons2 (nameA 5) nilF) F__law_hands (LB sc hv f (.val (fV p)) (.val (.list (e.map endV))) (.val (fV o)) (.val (.list l)) (.val (.list ((shk f).map ii))) (.val (.str mail)) (.val (.list rows)) (.val (.ws raw (cntV (cnts f)) 0 N 6)) a0 a1 a2 a3 a4 a5) = some (.list lo) := callF_eq rfl hlo
    refine setO_eq ((compV_eq (iterF_eq (toAF_eq h5) (by omega)) rfl).trans hrs')
  show T_law_18 [sc, .val hv, .val (fV f), .val (fV p), .val (.list (e.map endV)), .val (fV o), .val (.list l), .val (.list ((shk f).map ii)), .val (.str mail), .val (.list rows), .val (.ws raw (cntV (cnts f)) 0 N 6), a0, a1, a2, a3, a4, a5, .val (.list ((shk o).map ii)), .undef, .undef, .undef] = _
  -- the other lead
  obtain ⟨mok, mlen⟩ := mail_ok o [0, 0, 0, 0, 0] e he3' 5 (Nat.le_refl _)
  have hdots : dots (mailN o [0, 0, 0, 0, 0] e 5) = dotsN o [0, 0, 0, 0, 0] 5 := mail_dots o [0, 0, 0, 0, 0] e 5
  obtain ⟨raw2, N2, hlead⟩ := lead_eq mok (by omega)
  rw [hdots, mlen] at hlead
  have hlead : F__law_lead [.val (.str (rowsS (mailN o [0, 0, 0, 0, 0] e 5)))] = some (.ws raw2 (cntV (cnts o)) 0 N2 6) := hlead
  unfold T_law_18
  refine (seqS_next (ℓ' := [sc, .val hv, .val (fV f), .val (fV p), .val (.list (e.map endV)), .val (fV o), .val (.list l), .val (.list ((shk f).map ii)), .val (.str mail), .val (.list rows), .val (.ws raw (cntV (cnts f)) 0 N 6), a0, a1, a2, a3, a4, a5, .val (.list ((shk o).map ii)), .val (.ws raw2 (cntV (cnts o)) 0 N2 6), .undef, .undef]) ?_).trans ?_
  · generalize hA : ([sc, .val hv, .val (fV f), .val (fV p), .val (.list (e.map endV)), .val (fV o), .val (.list l), .val (.list ((shk f).map ii)), .val (.str mail), .val (.list rows), .val (.ws raw (cntV (cnts f)) 0 N 6), a0, a1, a2, a3, a4, a5, .val (.list ((shk o).map ii)), .undef, .undef, .undef] : List LV) = A
    have g5 : nameA 5 A = some (.val (fV o)) := by rw [← hA]; rfl
    have g4 : nameA 4 A = some (.val (.list (e.map endV))) := by rw [← hA]; rfl
    have hl5 : lenFF (nameA 5) A = some 5 := by
      show (nameA 5 A).bind lenF = _
      rw [g5]
      show (if szOK (o.map fi) then some (((o.map fi).length : Nat) : Int) else none) = _
      rw [if_pos (szOK_le (by rw [List.length_map, ho]; decide)), List.length_map, ho]; rfl
    have hz : bind2 mulAll (toAF (toLF (fitF (cons2 (litF (.fint 0)) nilF)))) (toAF (toIF (lenFF (nameA 5)))) A = some (fV [0, 0, 0, 0, 0]) := by
      have z1 : toAF (toLF (fitF (cons2 (litF (.fint 0)) nilF))) A = some (.val (.list [.fint 0])) := rfl
      exact (bind2_eq z1 (toAF_eq (toIF_eq hl5))).trans (by kernel_rfl)
    have k1 : cons2 (nameA 4) nilF A = some [.val (.list (e.map endV))] := cons2_eq g4 rfl
    have k2 := cons2_eq (toAF_eq hz) k1
    have k3 := cons2_eq g5 k2
    have k4 := callF_eq k3 (mail_eq o [0, 0, 0, 0, 0] e ho rfl he he3')
    have k0 : nilF A = some ([] : List LV) := rfl
    have k5 := cons2_eq (toAF_eq k4) k0
    have k6 := callF_eq k5 hlead
    have := setV_eq (i := 18) k6
    rw [← hA] at this ⊢
    exact this
  -- told equal?
  unfold T_law_19
  unfold check8 at c8
  split at c8
  case h_2 => cases c8
  rename_i b1 b2 hb1 hb2
  have hbb : b1 = b2 := beq_iff_eq.mp c8
  subst hbb
  refine (seqS_next (ℓ' := [sc, .val hv, .val (fV f), .val (fV p), .val (.list (e.map endV)), .val (fV o), .val (.list l), .val (.list ((shk f).map ii)), .val (.str mail), .val (.list rows), .val (.ws raw (cntV (cnts f)) 0 N 6), a0, a1, a2, a3, a4, a5, .val (.list ((shk o).map ii)), .val (.ws raw2 (cntV (cnts o)) 0 N2 6), .undef, .undef]) ?_).trans ?_
  · generalize hA : ([sc, .val hv, .val (fV f), .val (fV p), .val (.list (e.map endV)), .val (fV o), .val (.list l), .val (.list ((shk f).map ii)), .val (.str mail), .val (.list rows), .val (.ws raw (cntV (cnts f)) 0 N 6), a0, a1, a2, a3, a4, a5, .val (.list ((shk o).map ii)), .val (.ws raw2 (cntV (cnts o)) 0 N2 6), .undef, .undef] : List LV) = A
    have g2 : nameA 2 A = some (.val (fV f)) := by rw [← hA]; rfl
    have g5 : nameA 5 A = some (.val (fV o)) := by rw [← hA]; rfl
    have gm : methF (nameE 10) (cons2 (nameA 18) nilF) F_equal A = some (.bool b1) := by
      rw [← hA]
      exact equal_eq raw raw2 (cntV (cnts f)) (cntV (cnts o)) N N2 6 6 b1 hb1
    have ge : toBF (bind2 eqF (nameA 2) (nameA 5)) A = some (.bool b1) := toBF_eq ((bind2_eq g2 g5).trans hb2)
    have gt := (bind2_eq (F := isNotF) (toAF_eq gm) (toAF_eq ge)).trans (isNot_eq b1)
    exact (ifM_false gt).trans rfl
  unfold T_law_20
  refine (seqS_next (ℓ' := LD sc (.val hv) (.val (fV f)) (.val (fV p)) (.val (.list (e.map endV))) (.val (fV o)) (.val (.list l)) (shk f) (.val (.str mail)) (.val (.list rows)) (.val (.ws raw (cntV (cnts f)) 0 N 6)) a0 a1 a2 a3 a4 a5 (shk o) (.val (.ws raw2 (cntV (cnts o)) 0 N2 6)) [] .undef) rfl).trans ?_
  -- the told sizes
  generalize hK : max ((cnts f).length - 1) ((cnts o).length - 1) + 1 = K at c9
  have hK8 : K ≤ 8 := by rw [← hK]; exact Nat.succ_le_succ (Nat.max_le.mpr ⟨Nat.sub_le_of_le_add cn2, Nat.sub_le_of_le_add cm2⟩)
  have e21 : rangF (cons2 (toAF (litF (.fint 1))) (cons2 (toAF (bind2 addF (toAF (callF (cons2 (toAF (bind2 addF (nameA 7) (nameA 17))) nilF) maxF)) (toAF (litF (.fint 3))))) nilF))
      (LD sc (.val hv) (.val (fV f)) (.val (fV p)) (.val (.list (e.map endV))) (.val (fV o)) (.val (.list l)) (shk f) (.val (.str mail)) (.val (.list rows)) (.val (.ws raw (cntV (cnts f)) 0 N 6)) a0 a1 a2 a3 a4 a5 (shk o) (.val (.ws raw2 (cntV (cnts o)) 0 N2 6)) [] .undef) = some ((sizes K).map fi) := by
    generalize hA : LD sc (.val hv) (.val (fV f)) (.val (fV p)) (.val (.list (e.map endV))) (.val (fV o)) (.val (.list l)) (shk f) (.val (.str mail)) (.val (.list rows)) (.val (.ws raw (cntV (cnts f)) 0 N 6)) a0 a1 a2 a3 a4 a5 (shk o) (.val (.ws raw2 (cntV (cnts o)) 0 N2 6)) [] .undef = A
    have g7 : nameA 7 A = some (.val (.list ((shk f).map ii))) := by rw [← hA]; rfl
    have g17 : nameA 17 A = some (.val (.list ((shk o).map ii))) := by rw [← hA]; rfl
    have k0 : nilF A = some ([] : List LV) := rfl
    have q1 : bind2 addF (nameA 7) (nameA 17) A = some (.list ((shk f ++ shk o).map ii)) := by
      refine (bind2_eq g7 g17).trans ?_
      show (if szOK ((shk f).map ii) && szOK ((shk o).map ii) then some (MV.list ((shk f).map ii ++ (shk o).map ii)) else none) = _
      rw [szOK_le (by rw [List.length_map, sn1]; decide), szOK_le (by rw [List.length_map, sm1]; decide), List.map_append]
      rfl
    have q2 : callF (cons2 (toAF (bind2 addF (nameA 7) (nameA 17))) nilF) maxF A = some (.int (maxI ((shk f ++ shk o).map fun (k : Nat) => (k : Int)))) := by
      refine callF_eq (cons2_eq (toAF_eq q1) k0) ?_
      show (match nums ((shk f ++ shk o).map ii) with | some ns => if ns.isEmpty then none else some (MV.int (maxI ns)) | none => none) = _
      rw [nums_ii]
      have hne : ((shk f ++ shk o).map fun (k : Nat) => (k : Int)).isEmpty = false := by
        rw [List.isEmpty_eq_false_iff]
        intro hc
        have := congrArg List.length hc
        simp [sn1] at this
      dsimp only
      rw [hne]
      rfl
    have hn : (LV.val (MV.int (maxI ((shk f ++ shk o).map fun (k : Nat) => (k : Int))))).num = some (maxI ((shk f ++ shk o).map fun (k : Nat) => (k : Int))) := rfl
    have h3' : (LV.val (MV.fint 3)).num = some 3 := rfl
    have z3 : toAF (litF (.fint 3)) A = some (.val (.fint 3)) := rfl
    have q3 := (bind2_eq (F := addF) (toAF_eq q2) z3).trans (addF_num hn h3')
    rw [c9] at q3
    have q3' : bind2 addF (toAF (callF (cons2 (toAF (bind2 addF (nameA 7) (nameA 17))) nilF) maxF)) (toAF (litF (.fint 3))) A = some (.fint ((K : Int) + 1)) := q3.trans (by rw [show ((K + 1 : Nat) : Int) = (K : Int) + 1 by omega])
    have z1 : toAF (litF (.fint 1)) A = some (.val (.fint 1)) := rfl
    have q4 := cons2_eq z1 (cons2_eq (toAF_eq q3') k0)
    have er : rangeA [.val (.fint 1), .val (.fint ((K : Int) + 1))] = some ((sizes K).map fi) := (rangeA2 1 ((K : Int) + 1)).trans (range_sizes K (Nat.le_trans hK8 (by decide)))
    exact callF_eq q4 er
  obtain ⟨s16, s20, e3⟩ := told_loop sc (.val hv) (.val (fV f)) (.val (fV p)) (.val (.list (e.map endV))) (.val (fV o)) (.val (.list l)) (.val (.str mail)) (.val (.list rows)) (.val (.ws raw (cntV (cnts f)) 0 N 6)) a0 a1 a2 a3 a4 (.val (.ws raw2 (cntV (cnts o)) 0 N2 6)) (shk f) (shk o)
    (fun h hh => Nat.le_trans (Nat.le_of_lt (sn2 h hh)) (by decide)) (by rw [sn1]; decide) (fun h hh => Nat.le_trans (Nat.le_of_lt (sm2 h hh)) (by decide)) (by rw [sm1]; decide) (sizes K) [] a5 .undef (fun s hs => sizes_mem (Nat.le_trans hK8 (by decide)) hs) (by unfold sizes; simp; exact Nat.le_trans hK8 (by decide))
  unfold T_law_21
  refine (seqS_next ((forF_eq e21).trans e3)).trans ?_
  have cvl : ∀ c : List Nat, (cntV c).length = c.length := fun c => List.length_map _
  have hw := wit_eq raw raw2 (cntV (cnts f)) (cntV (cnts o)) N N2 6 6 K (by rw [cvl]; exact Nat.le_of_succ_le cn1) (by rw [cvl]; exact Nat.le_of_succ_le cm1) (by rw [cvl]; exact Nat.le_trans cn2 (by decide)) (by rw [cvl]; exact Nat.le_trans cm2 (by decide)) (Nat.le_trans hK8 (by decide)) (by rw [cvl, cvl]; exact hK)
  have hcol : ∀ c d : List Nat, (∀ s : Fin 12, 1 ≤ s.val → ind (cntV (cnts c)) 0 6 s.val = colsum d s.val) → ∀ s ∈ sizes K, ind (cntV (cnts c)) 0 6 s = colsum d s := fun c d h s hs => by
    have := sizes_mem (Nat.le_trans hK8 (by decide)) hs
    exact h ⟨s, Nat.lt_succ_of_le this.2⟩ this.1
  rw [toldL_congr (hcol f (shk f) c10n) (hcol o (shk o) c10m)] at hw
  have key := eq_told (colsum (shk f)) (colsum (shk o)) (sizes K)
  generalize toldL (colsum (shk f)) (colsum (shk o)) MV.fint (sizes K) = Wl at hw key
  generalize toldL (colsum (shk f)) (colsum (shk o)) MV.int (sizes K) = Tl at key ⊢
  show seqS (retF (toBF (bind2 eqF (toAF (methF (nameE 10) (cons2 (nameA 18) nilF) F_not_equal_witness)) (nameA 19)))) nextF
    [sc, .val hv, .val (fV f), .val (fV p), .val (.list (e.map endV)), .val (fV o), .val (.list l), .val (.list ((shk f).map ii)), .val (.str mail), .val (.list rows), .val (.ws raw (cntV (cnts f)) 0 N 6), a0, a1, a2, a3, a4, s16, .val (.list ((shk o).map ii)), .val (.ws raw2 (cntV (cnts o)) 0 N2 6), .val (.list ([] ++ Tl)), s20] = _
  rw [List.nil_append]
  generalize hA : ([sc, .val hv, .val (fV f), .val (fV p), .val (.list (e.map endV)), .val (fV o), .val (.list l), .val (.list ((shk f).map ii)), .val (.str mail), .val (.list rows), .val (.ws raw (cntV (cnts f)) 0 N 6), a0, a1, a2, a3, a4, s16, .val (.list ((shk o).map ii)), .val (.ws raw2 (cntV (cnts o)) 0 N2 6), .val (.list Tl), s20] : List LV) = A
  have g19 : nameA 19 A = some (.val (.list Tl)) := by rw [← hA]; rfl
  have gm : methF (nameE 10) (cons2 (nameA 18) nilF) F_not_equal_witness A = some (.list Wl) := by
    rw [← hA]; exact hw
  exact seqS_ret (retF_eq (toBF_eq ((bind2_eq (toAF_eq gm) g19).trans key)))
end Mine
end
section
open PySem PySem.W PyProof.Rows PySem.Calls
set_option maxRecDepth 100000
set_option maxHeartbeats 8000000
theorem Mine.post_true (args ds : List WData) : PySem.Challenge.rw_sw0046_01.row.claim.post args (.bool true) ds = true := by kernel_rfl
theorem PySem.Challenge.cw_sw0046_01_holds : PySem.Challenge.rw_sw0046_01.Holds := by
  refine Mine.hd ?_
  k_fill
  intro w s₀ s₁ mg mb G Y fa o pm cd doc dV kV ho hd hcd hD hmg hg args vals as hpre hlay hrd hwl hlo
  have KX := kIn_of Y
  have X := (Ground.X G).1
  have V := (Ground.X G).2
  refine Ground.open G ?_
  intro T B D TE TW
  wrow_args hpre hlay hrd hwl hlo
  rename_i hL _ _ _ hI _ hlen _
  refine enter_call ?_
  refine codeAny_mono ?_ (fun _ _ g => GoodW.toG g)
  refine Mine.law_goes Mine.law_true KX T.g T.b T.nolimit T.builtins hmg hL hI hlen fun h' tk g => ?_
  refine ⟨.inl ⟨.bool true, .bool true, [], rfl, fun _ => rfl, .bool true, Mine.post_true _ _, fun _ => ⟨List.nodup_nil, fun a ha => nomatch ha⟩⟩, g, rfl, hg⟩
end
