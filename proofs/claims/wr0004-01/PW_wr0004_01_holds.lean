import PyProof.Rows.All
import Wide.All
import OpenK.AllK
import Wide.FinOn
import PySem.Challenge.RW_wr0004_01
set_option Elab.async false

section
open PySem PySem.W PyProof.Rows
set_option Elab.async false
set_option maxRecDepth 100000
set_option maxHeartbeats 8000000
namespace Mine
open_top hd for PySem.Challenge.rw_wr0004_01
end Mine
end

section
open PySem PySem.W PyProof.Rows PySem.Calls
set_option Elab.async false
set_option maxRecDepth 100000
namespace Mine

/-- everything of h stands in h' -/
def Ext (h h' : Heap) : Prop := ∀ b o, h.get? b = some o → h'.get? b = some o
theorem Ext.refl (h : Heap) : Ext h h := fun _ _ e => e
theorem Ext.trans {h₁ h₂ h₃ : Heap} (x : Ext h₁ h₂) (y : Ext h₂ h₃) : Ext h₁ h₃ := fun b o e => y b o (x b o e)
theorem Ext.push (h : Heap) (o : Obj) : Ext h (h.push o) := fun _ _ e => Heap.get?_push_of_some o e

structure Base (w : World) (h : Heap) : Prop where
  K : (hd.heap_39 w.params).In h
  lim : h.NoLimit
  glob : ∃ mg mb, h.Ns mainGlobals mg ∧ h.Ns builtinsNs mb ∧ ∀ x : Str, x ≠ "__name__" → mb x = bootBuiltins x

theorem Base.ext {w : World} {h h' : Heap} (B : Base w h) (e : Ext h h') : Base w h' :=
  ⟨B.K.keeps e, B.lim.keeps e, let ⟨mg, mb, a, b, c⟩ := B.glob; ⟨mg, mb, a.keeps e, b.keeps e, c⟩⟩

structure Lv (n : Nat) (A : Around) : Prop where
  hd : A.handled = none
  dp : A.depth ≤ 300 + 10 * n
  un : A.units ≤ 20 + 50 * n
theorem Lv.room {n : Nat} {A : Around} (h : Lv n A) (hn : n ≤ 20 := by omega) : A.depth < recursionLimit := by
  have := h.dp; show A.depth < 1000; omega
theorem Lv.deeper {n : Nat} {A : Around} (h : Lv n A) (env : Env) : Lv (n + 1) (A.deeper env) :=
  ⟨h.hd, by have := h.dp; show A.depth + 1 ≤ _; omega, by have := h.un; show A.units + 3 ≤ _; omega⟩
theorem Lv.mono {n k : Nat} {A : Around} (h : Lv n A) (hk : n ≤ k) : Lv k A := ⟨h.hd, by have := h.dp; omega, by have := h.un; omega⟩
theorem Lv.line {n : Nat} {A : Around} (h : Lv n A) (hn : n ≤ 20 := by omega) : A.units + 64 < cLine := by
  have := h.un; show A.units + 64 < 9900; omega

section
variable {prog : Program} {w : World} {A : Around} {E : Value → Shared → Prop} {s : Shared} {Q : Value → Shared → Prop}

/-- a global name of the text's -/
theorem nmK {env : Env} {x : Str} {pos : Pos} {v : Value} (B : Base w s.heap) (e : nsIn (hd.heap_39 w.params) mainGlobals x = some (some v)) (h : Q v s)
    (hg : env.globals = mainGlobals := by rfl) (hk : env.scope.kind = .function := by rfl) (hx : env.kindOf x = some .globalImplicit := by rfl) (hd : (x == ("__debug__" : Str)) = false := by decide) :
    wpAny (model prog w) A (eval (.Name x pos) env) Q E s := by
  obtain ⟨mg, mb, a, b, c⟩ := B.glob
  exact Name_function_global hk hx (loadGlobal_global (hg ▸ a) (mg_of B.K a e) h) hd
theorem nmB {env : Env} {x : Str} {pos : Pos} {v : Value} (B : Base w s.heap) (e : nsIn (hd.heap_39 w.params) mainGlobals x = some none) (hv : bootBuiltins x = some v) (hn : x ≠ "__name__") (h : Q v s)
    (hg : env.globals = mainGlobals := by rfl) (hb : env.builtins = builtinsNs := by rfl) (hk : env.scope.kind = .function := by rfl) (hx : env.kindOf x = some .globalImplicit := by rfl) (hd : (x == ("__debug__" : Str)) = false := by decide) :
    wpAny (model prog w) A (eval (.Name x pos) env) Q E s := by
  obtain ⟨mg, mb, a, b, c⟩ := B.glob
  exact Name_function_global hk hx (loadGlobal_builtin (hg ▸ a) (mg_none_of B.K a e) (hb ▸ b) ((c x hn).trans hv) h) hd
end

example (P : Params) : nsIn (hd.heap_39 P) mainGlobals (Str.ofString "not_") = some (some (.ref 57)) := by kernel_rfl
example (P : Params) : nsIn (hd.heap_39 P) mainGlobals (Str.ofString "len") = some none := by kernel_rfl
example  : bootBuiltins (Str.ofString "len") = some (.builtin "len") := by kernel_rfl
end Mine
end

section
open PySem PySem.W PyProof.Rows PySem.Calls
set_option Elab.async false
set_option maxRecDepth 100000
set_option linter.unusedVariables false
namespace Mine

def stAt (i : Nat) : Stmt := (PySem.Challenge.pw_wr0004_01.main.body[i]?).getD (.Pass default)
def bodyAt (i : Nat) : List Stmt := match stAt i with | .FunctionDef _ _ b _ _ _ _ _ _ _ => b | _ => []
def scopeAt (i : Nat) : Scope := match stAt i with | .FunctionDef _ _ _ _ _ _ s _ _ _ => s | _ => default
def paramsAt (i : Nat) : Arguments := match stAt i with | .FunctionDef _ a _ _ _ _ _ _ _ _ => a | _ => default
def nameAt (i : Nat) : Str := match stAt i with | .FunctionDef n _ _ _ _ _ _ _ _ _ => n | _ => default
noncomputable def objIn (P : Params) (f : Addr) : Obj := ((hd.heap_39 P).lookup f).getD default
/-- the text's i-th row is a def, made as object f with code c and module word pm -/
structure IsDef (P : Params) (i : Nat) (f c : Addr) (pm : Value) : Prop where
  fn : (hd.heap_39 P).lookup f = some (objIn P f)
  fd : (objIn P f).data = .func (docDef (nameAt i) (paramsAt i) (bodyAt i) (scopeAt i) pm (.ref c) .none)
  cd : codeIn (hd.heap_39 P) (.ref c) (nameAt i) = true

/-! ### values -/
def IsStr (v : Value) (x : Str) : Prop := ∃ t, v = .str x t
def IsInt (v : Value) (i : Int) : Prop := ∃ t, v = .int i t
def IsByt (v : Value) (b : Array UInt8) : Prop := ∃ t, v = .bytes b t

def Solid (o : Obj) : Prop := match o.data with | .dict _ _ => False | .cell _ => False | _ => True
/-- what is neither a namespace nor a cell, and not in X, stands -/
def Kp (X : Addr → Prop) (h h' : Heap) : Prop := ∀ b o, ¬ X b → h.get? b = some o → Solid o → h'.get? b = some o
theorem Kp.refl (X : Addr → Prop) (h : Heap) : Kp X h h := fun _ _ _ e _ => e
theorem Kp.trans {X : Addr → Prop} {h₁ h₂ h₃ : Heap} (x : Kp X h₁ h₂) (y : Kp X h₂ h₃) : Kp X h₁ h₃ := fun b o n e q => y b o n (x b o n e q) q
theorem Ext.kp {X : Addr → Prop} {h h' : Heap} (x : Ext h h') : Kp X h h' := fun b o _ e _ => x b o e

abbrev Pred := (Addr → Prop) → Heap → Prop
/-- a fact that speaks of solid objects outside X alone -/
structure Fa (P : Pred) : Prop where
  mono : ∀ X h h', Kp X h h' → P X h → P X h'
  grow : ∀ (X X' : Addr → Prop) h, (∀ b, X' b → X b ∨ h.get? b = none) → P X h → P X' h
theorem Fa.and {P Q : Pred} (p : Fa P) (q : Fa Q) : Fa (fun X h => P X h ∧ Q X h) :=
  ⟨fun X h h' k x => ⟨p.mono X h h' k x.1, q.mono X h h' k x.2⟩, fun X X' h k x => ⟨p.grow X X' h k x.1, q.grow X X' h k x.2⟩⟩
theorem Fa.const (p : Prop) : Fa (fun _ _ => p) := ⟨fun _ _ _ _ x => x, fun _ _ _ _ x => x⟩
/-- the address of an object of h -/
def Old (h : Heap) (a : Addr) : Prop := ∃ o, h.get? a = some o
theorem Old.ext {h h' : Heap} (e : Ext h h') {a : Addr} (x : Old h a) : Old h' a := let ⟨o, q⟩ := x; ⟨o, e a o q⟩
/-- the same, of objects that k does not hold -/
def Fz (k : Heap) (P : Pred) : Pred := fun X h => P (fun a => X a ∨ Old k a) h
theorem Fa.fz {P : Pred} (p : Fa P) (N : Heap) : Fa (Fz N P) :=
  ⟨fun X h h' k x => p.mono _ h h' (fun b o n e q => k b o (fun m => n (.inl m)) e q) x,
   fun X X' h k x => p.grow _ _ h (fun b m => m.elim (fun m => (k b m).imp .inl id) (fun m => .inl (.inr m))) x⟩

def Lst (v : Value) (vs : List Value) : Pred := fun X h => ∃ a, v = .ref a ∧ ¬ X a ∧ h.IsList a vs.toArray
def Tpl (v : Value) (vs : List Value) : Pred := fun X h => ∃ a, v = .ref a ∧ ¬ X a ∧ h.IsTuple a vs.toArray
theorem solid_seq {o : Obj} {xs : Array Value} {n : Nat} (h : o.data = .seq xs n) : Solid o := by unfold Solid; rw [h]; trivial
theorem solid_fields {o : Obj} {xs : Array Value} (h : o.data = .fields xs) : Solid o := by unfold Solid; rw [h]; trivial
theorem not_solid_dict {o : Obj} {es : Array DictEntry} {n : Nat} (h : o.data = .dict es n) : ¬ Solid o := by unfold Solid; rw [h]; exact id
theorem not_solid_cell {o : Obj} {v : Option Value} (h : o.data = .cell v) : ¬ Solid o := by unfold Solid; rw [h]; exact id
theorem Lst.fa (v : Value) (vs : List Value) : Fa (Lst v vs) :=
  ⟨fun X h h' k ⟨a, e, n, o, ho, hc, ep, hd⟩ => ⟨a, e, n, o, k a o n ho (solid_seq hd), hc, ep, hd⟩,
   fun X X' h k ⟨a, e, n, o, ho, r⟩ => ⟨a, e, fun m => (k a m).elim n (fun q => by rw [q] at ho; cases ho), o, ho, r⟩⟩
theorem Tpl.fa (v : Value) (vs : List Value) : Fa (Tpl v vs) :=
  ⟨fun X h h' k ⟨a, e, n, o, ho, hc, ep, hd⟩ => ⟨a, e, n, o, k a o n ho (solid_seq hd), hc, ep, hd⟩,
   fun X X' h k ⟨a, e, n, o, ho, r⟩ => ⟨a, e, fun m => (k a m).elim n (fun q => by rw [q] at ho; cases ho), o, ho, r⟩⟩

/-- two lists, item by item, at a heap -/
def All {α : Type} (R : Value → α → Pred) (vs : List Value) (xs : List α) : Pred := fun X h => Paired (fun v x => R v x X h) vs xs
theorem All.fa {α : Type} {R : Value → α → Pred} (f : ∀ v x, Fa (R v x)) (vs : List Value) (xs : List α) : Fa (All R vs xs) :=
  ⟨fun X h h' k p => Paired.mono (fun v x => (f v x).mono X h h' k) p, fun X X' h k p => Paired.mono (fun v x => (f v x).grow X X' h k) p⟩
/-- a list of so many, each R -/
def LOf {α : Type} (R : Value → α → Pred) (v : Value) (xs : List α) : Pred := fun X h => ∃ vs, Lst v vs X h ∧ All R vs xs X h
def TOf {α : Type} (R : Value → α → Pred) (v : Value) (xs : List α) : Pred := fun X h => ∃ vs, Tpl v vs X h ∧ All R vs xs X h
theorem LOf.fa {α : Type} {R : Value → α → Pred} (f : ∀ v x, Fa (R v x)) (v : Value) (xs : List α) : Fa (LOf R v xs) :=
  ⟨fun X h h' k ⟨vs, l, p⟩ => ⟨vs, (Lst.fa v vs).mono X h h' k l, (All.fa f vs xs).mono X h h' k p⟩,
   fun X X' h k ⟨vs, l, p⟩ => ⟨vs, (Lst.fa v vs).grow X X' h k l, (All.fa f vs xs).grow X X' h k p⟩⟩
theorem TOf.fa {α : Type} {R : Value → α → Pred} (f : ∀ v x, Fa (R v x)) (v : Value) (xs : List α) : Fa (TOf R v xs) :=
  ⟨fun X h h' k ⟨vs, l, p⟩ => ⟨vs, (Tpl.fa v vs).mono X h h' k l, (All.fa f vs xs).mono X h h' k p⟩,
   fun X X' h k ⟨vs, l, p⟩ => ⟨vs, (Tpl.fa v vs).grow X X' h k l, (All.fa f vs xs).grow X X' h k p⟩⟩
def cS (v : Value) (x : Str) : Pred := fun _ _ => IsStr v x
def cI (v : Value) (x : Int) : Pred := fun _ _ => IsInt v x
def cB (v : Value) (x : Array UInt8) : Pred := fun _ _ => IsByt v x
theorem cS.fa (v : Value) (x : Str) : Fa (cS v x) := Fa.const _
theorem cI.fa (v : Value) (x : Int) : Fa (cI v x) := Fa.const _
theorem cB.fa (v : Value) (x : Array UInt8) : Fa (cB v x) := Fa.const _
abbrev Strs (v : Value) (xs : List Str) : Pred := LOf cS v xs
abbrev Ints (v : Value) (xs : List Int) : Pred := LOf cI v xs
abbrev Rows (v : Value) (rs : List (List Str)) : Pred := LOf Strs v rs
abbrev Byts (v : Value) (xs : List (Array UInt8)) : Pred := TOf cB v xs
theorem Strs.fa (v : Value) (xs : List Str) : Fa (Strs v xs) := LOf.fa cS.fa v xs
theorem Ints.fa (v : Value) (xs : List Int) : Fa (Ints v xs) := LOf.fa cI.fa v xs
theorem Rows.fa (v : Value) (rs : List (List Str)) : Fa (Rows v rs) := LOf.fa Strs.fa v rs
theorem Byts.fa (v : Value) (xs : List (Array UInt8)) : Fa (Byts v xs) := TOf.fa cB.fa v xs

/-! ### the state of a frame -/
def Sm (s₀ s : Shared) : Prop := ∃ h tk, s = { s₀ with heap := h, toks := tk }
theorem Sm.refl (s : Shared) : Sm s s := ⟨s.heap, s.toks, rfl⟩
theorem Sm.trans {a b c : Shared} (x : Sm a b) (y : Sm b c) : Sm a c := by
  obtain ⟨h, t, rfl⟩ := x; obtain ⟨h', t', rfl⟩ := y; exact ⟨h', t', rfl⟩
theorem Sm.set {s₀ s : Shared} (x : Sm s₀ s) (h : Heap) (t : Nat) : Sm s₀ { s with heap := h, toks := t } := x.trans ⟨h, t, rfl⟩

/-- what the frame holds at a fixed place: a cell, or an object to the letter -/
inductive Held where
  | cell (v : Option Value)
  | pin (o : Obj)
def Held.At (h : Heap) (a : Addr) : Held → Prop
  | .cell v => h.IsCell a v
  | .pin o => h.get? a = some o
theorem Held.At.by {h h' : Heap} {a : Addr} : ∀ {x : Held}, x.At h a → (∀ o, h.get? a = some o → h'.get? a = some o) → x.At h' a
  | .cell _, ⟨o, ho, hd⟩, k => ⟨o, k o ho, hd⟩
  | .pin o, ho, k => k o ho
theorem Held.At.live {h : Heap} {a : Addr} : ∀ {x : Held}, x.At h a → Old h a
  | .cell _, ⟨o, ho, hd⟩ => ⟨o, ho⟩
  | .pin o, ho => ⟨o, ho⟩
/-- the addresses of which no fact speaks -/
abbrev Xs (C : List (Addr × Held)) (O : List (Addr × List Value)) : Addr → Prop := (· ∈ C.map (·.1) ++ O.map (·.1))

structure St (r : Bool) (w : World) (s₀ : Shared) (L : Addr) (C : List (Addr × Held)) (O : List (Addr × List Value)) (loc : List (Str × Value)) (Γ : Pred) (s : Shared) : Prop where
  sm : Sm s₀ s
  base : Base w s₀.heap
  keep : Ext s₀.heap s.heap
  ns : ∃ m, s.heap.Ns L m ∧ ∀ x v, loc.lookup x = some v → m x = some v
  cells : ∀ p ∈ C, p.2.At s.heap p.1
  apart : ∀ p ∈ C, p.1 ≠ L
  apO : ∀ p ∈ C, p.1 ∉ O.map (·.1)
  cnd : (C.map (·.1)).Nodup
  own : ∀ p ∈ O, s.heap.PlainList p.1 p.2.toArray
  ond : (O.map (·.1)).Nodup
  new : r = true → ¬ Old s₀.heap L ∧ (∀ p ∈ C, ¬ Old s₀.heap p.1)
  newO : ∀ p ∈ O, ¬ Old s₀.heap p.1
  fa : Fa Γ
  g : Γ (Xs C O) s.heap

section
variable {r : Bool} {w : World} {s₀ s s' : Shared} {L : Addr} {C : List (Addr × Held)} {O : List (Addr × List Value)} {loc : List (Str × Value)} {Γ : Pred}

theorem St.b (S : St r w s₀ L C O loc Γ s) : Base w s.heap := S.base.ext S.keep

theorem St.ext (S : St r w s₀ L C O loc Γ s) (sm : Sm s s') (e : Ext s.heap s'.heap) : St r w s₀ L C O loc Γ s' where
  sm := S.sm.trans sm
  base := S.base
  keep := S.keep.trans e
  ns := let ⟨m, a, b⟩ := S.ns; ⟨m, a.keeps e, b⟩
  cells := fun p hp => (S.cells p hp).by (e _)
  apart := S.apart
  apO := S.apO
  cnd := S.cnd
  own := fun p hp => let ⟨n, q⟩ := S.own p hp; ⟨n, e _ _ q⟩
  ond := S.ond
  new := S.new
  newO := S.newO
  fa := S.fa
  g := S.fa.mono _ _ _ e.kp S.g
/-- the counter of tokens alone turns -/
theorem St.tk (S : St r w s₀ L C O loc Γ s) (t : Nat) : St r w s₀ L C O loc Γ { s with toks := t } := S.ext ⟨s.heap, t, rfl⟩ (Ext.refl _)

theorem St.add {P : Pred} (S : St r w s₀ L C O loc Γ s) (f : Fa P) (p : P (Xs C O) s.heap) : St r w s₀ L C O loc (fun X h => P X h ∧ Γ X h) s :=
  { S with fa := f.and S.fa, g := ⟨p, S.g⟩ }
theorem St.drop {Γ' : Pred} (S : St r w s₀ L C O loc Γ s) (f : Fa Γ') (p : ∀ X h, Γ X h → Γ' X h) : St r w s₀ L C O loc Γ' s :=
  { S with fa := f, g := p _ _ S.g }
theorem St.forget {loc' : List (Str × Value)} (S : St r w s₀ L C O loc Γ s) (p : ∀ x v, loc'.lookup x = some v → loc.lookup x = some v) : St r w s₀ L C O loc' Γ s :=
  { S with ns := let ⟨m, a, b⟩ := S.ns; ⟨m, a, fun x v e => b x v (p x v e)⟩ }

/-- what is fresh to a state is none of the lists that it owns, and new to the frame -/
theorem St.live (S : St r w s₀ L C O loc Γ s) {b : Addr} (hb : Xs C O b) : Old s.heap b := by
  rcases List.mem_append.mp hb with hb | hb
  · obtain ⟨p, hp, rfl⟩ := List.mem_map.mp hb; exact (S.cells p hp).live
  · obtain ⟨p, hp, rfl⟩ := List.mem_map.mp hb; obtain ⟨n, q⟩ := S.own p hp; exact ⟨_, q⟩
theorem St.fresh {P : Pred} (S : St r w s₀ L C O loc Γ s) (f : Fa P) {h : Heap} (hp : P (Old s.heap) h) : Fz s₀.heap P (Xs C O) h :=
  f.grow _ _ h (fun b hb => .inl (hb.elim S.live fun hb => hb.ext S.keep)) hp
theorem Fz.out {P : Pred} (f : Fa P) {N : Heap} {X : Addr → Prop} {h : Heap} (hp : Fz N P X h) : P X h := f.grow _ _ h (fun _ hb => .inl (.inl hb)) hp
theorem Fz.fresh {P : Pred} (f : Fa P) {N : Heap} {X : Addr → Prop} {h : Heap} (hp : Fz N P X h) : P (Old N) h := f.grow _ _ h (fun _ hb => .inl (.inr hb)) hp
end

section
variable {r : Bool} {prog : Program} {w : World} {A : Around} {E : Value → Shared → Prop} {s₀ s s' : Shared} {L : Addr} {C : List (Addr × Held)} {O : List (Addr × List Value)} {loc : List (Str × Value)} {Γ : Pred} {env : Env}

theorem St.local (S : St true w s₀ L C O loc Γ s) {x : Str} {v : Value} {h' : Heap} {t : Nat} (hn : ∃ m : Str → Option Value, h'.Ns L (fun y => if y = x then some v else m y) ∧ ∀ x v, loc.lookup x = some v → m x = some v) (hs : Heap.ExtBut L s.heap h') :
    St true w s₀ L C O ((x, v) :: loc) Γ { s with heap := h', toks := t } where
  sm := S.sm.set h' t
  base := S.base
  keep := fun b o e => hs b o (fun q => (S.new rfl).1 (q ▸ ⟨o, e⟩)) (S.keep b o e)
  ns := by
    obtain ⟨m, a, b⟩ := hn
    refine ⟨_, a, fun y u e => ?_⟩
    rw [List.lookup_cons] at e
    by_cases hy : y = x
    · subst hy; simpa using e
    · have : (y == x) = false := by simpa using hy
      rw [this] at e
      simp only [if_neg hy]; exact b y u e
  cells := fun p hp => (S.cells p hp).by fun o => hs p.1 o (S.apart p hp)
  apart := S.apart
  apO := S.apO
  cnd := S.cnd
  own := fun p hp => by
    obtain ⟨n, ho⟩ := S.own p hp
    obtain ⟨m, ⟨o', es, ep, ho', hd', _⟩, _⟩ := S.ns
    refine ⟨n, hs p.1 _ ?_ ho⟩
    rintro e
    rw [e, ho'] at ho; cases ho; cases hd'
  ond := S.ond
  new := S.new
  newO := S.newO
  fa := S.fa
  g := S.fa.mono _ _ _ (fun b o _ e q => by
    refine hs b o ?_ e
    rintro rfl
    obtain ⟨m, ⟨o', es, ep, ho', hd', _⟩, _⟩ := S.ns
    rw [ho'] at e; cases e; exact not_solid_dict hd' q) S.g

/-- a local is read -/
theorem rd {x : Str} {pos : Pos} {v : Value} {Q : Value → Shared → Prop} (S : St r w s₀ env.locals C O loc Γ s) (hv : loc.lookup x = some v) (h : Q v s)
    (hk : env.scope.kind = .function := by rfl) (hl : env.kindOf x = some .local := by rfl) (hd : (x == ("__debug__" : Str)) = false := by decide) :
    wpAny (model prog w) A (eval (.Name x pos) env) Q E s := by
  obtain ⟨m, a, b⟩ := S.ns
  exact wpAny_Name (wpAny_loadName_local hk hl a (b x v hv) h) hd
theorem rdn {x : Str} {v : Value} {Q : Value → Shared → Prop} (S : St r w s₀ env.locals C O loc Γ s) (hv : loc.lookup x = some v) (h : Q v s)
    (hk : env.scope.kind = .function := by rfl) (hl : env.kindOf x = some .local := by rfl) :
    wpAny (model prog w) A (loadName env x) Q E s := by
  obtain ⟨m, a, b⟩ := S.ns
  exact wpAny_loadName_local hk hl a (b x v hv) h
/-- a local is stored -/
theorem sto {x : Str} {v : Value} {Q : Unit → Shared → Prop} (S : St true w s₀ env.locals C O loc Γ s) (h : ∀ s', St true w s₀ env.locals C O ((x, v) :: loc) Γ s' → Q () s')
    (hk : env.scope.kind = .function := by rfl) (hl : env.kindOf x = some .local := by rfl) :
    wpAny (model prog w) A (storeName env x v) Q E s := by
  obtain ⟨m, a, b⟩ := S.ns
  exact wpAny_storeName_local hl a (fun h' hn hs => h _ (S.local ⟨m, hn, b⟩ hs.extBut)) (by rw [hk]; rfl)
theorem kint {i : Int} {k : Nat} {pos : Pos} {Q : Value → Shared → Prop} (S : St r w s₀ L C O loc Γ s) (h : ∀ s' t, St r w s₀ L C O loc Γ s' → Q (.int i t) s') :
    wpAny (model prog w) A (eval (.Constant (.int i) k pos) env) Q E s := wpAny_Constant_int (h _ _ (S.tk _))
theorem kstr {x : Str} {k : Nat} {pos : Pos} {Q : Value → Shared → Prop} (S : St r w s₀ L C O loc Γ s) (h : ∀ s' t, St r w s₀ L C O loc Γ s' → Q (.str x t) s') :
    wpAny (model prog w) A (eval (.Constant (.str x) k pos) env) Q E s := Constant_str (h _ _ (S.tk _))
end
end Mine
end

section
open PySem PySem.W PyProof.Rows PySem.Calls PySem.SeqAt
set_option Elab.async false
set_option maxRecDepth 100000
set_option linter.unusedVariables false
namespace Mine
section
variable {prog : Program} {w : World} {A : Around} {E : Value → Shared → Prop} {s : Shared} {Q : Value → Shared → Prop} {n : Nat}

abbrev envAt (i : Nat) (f c L : Addr) : Env := envOf (nameAt i) (scopeAt i) L f (.ref c)

def none_ : Pred := fun _ _ => True
theorem none_.fa : Fa none_ := Fa.const _

theorem callP {i : Nat} {f c : Addr} {pm : Value} {args : List Value} (binds : List (Str × Value)) (D : IsDef w.params i f c pm) (B : Base w s.heap) (hA : Lv n A) (hn : n ≤ 20)
    (hbind : bindArgs (docDef (nameAt i) (paramsAt i) (bodyAt i) (scopeAt i) pm (.ref c) .none) ⟨args, []⟩ = pure binds)
    (hloc : (binds.all fun x => decide ((scopeAt i).names.lookup x.1 = some .local)) = true)
    (h : ∀ s₁ L, St true w s L [] [] binds.reverse none_ s₁ → Lv (n + 1) (A.deeper (envAt i f c L)) →
      wpAny (model prog w) (A.deeper (envAt i f c L)) (execs (bodyAt i) (envAt i f c L)) (fun fl s' => Q (match fl with | .ret v => v | _ => .none) s') (fun _ _ => False) s₁)
    (hco : (scopeAt i).isCoroutine = false := by rfl) (hgen : (scopeAt i).isGenerator = false := by rfl) (hk : (scopeAt i).kind = .function := by rfl)
    (hcell : ∀ x ∈ (scopeAt i).names, x.2 ≠ .cell := by decide) :
    wpAny (model prog w) A (call (.ref f) args) Q E s := by
  refine wpAny_call (call_plain_ret (hA.room) (B.K f _ D.fn) D.fd B.lim (codeRec_of B.K D.cd) hbind (locs hloc) (fun h₁ F => ?_) hco hgen hk hcell)
  refine wpAny_mono (h _ _ ?_ (hA.deeper _)) (fun fl s' q => q) (fun _ _ q => q)
  exact { sm := ⟨_, _, rfl⟩, base := B, keep := F.keep, ns := ⟨_, F.ns, fun _ _ e => e⟩, cells := (fun _ h => nomatch h), apart := (fun _ h => nomatch h), apO := (fun _ h => nomatch h), cnd := .nil, own := (fun _ h => nomatch h), ond := .nil, new := (fun _ => ⟨fun ⟨o, e⟩ => absurd (Heap.lt_size e) (Nat.lt_irrefl _), fun _ h => nomatch h⟩), newO := (fun _ h => nomatch h), fa := none_.fa, g := trivial }

/-- the value handed on, with the objects kept -/
abbrev Back (s : Shared) (R : Value → Heap → Prop) (Q : Value → Shared → Prop) : Prop := ∀ v s', Sm s s' → Ext s.heap s'.heap → R v s'.heap → Q v s'

theorem d_not (P : Params) : IsDef P 7 57 56 (.str (Str.ofString "cpy313.operator") 353) := ⟨by kernel_rfl, by kernel_rfl, by kernel_rfl⟩
theorem d_contains (P : Params) : IsDef P 8 64 63 (.str (Str.ofString "cpy313.operator") 353) := ⟨by kernel_rfl, by kernel_rfl, by kernel_rfl⟩
theorem d_iadd (P : Params) : IsDef P 10 78 77 (.str (Str.ofString "cpy313.operator") 353) := ⟨by kernel_rfl, by kernel_rfl, by kernel_rfl⟩
theorem d_ixor (P : Params) : IsDef P 11 85 84 (.str (Str.ofString "cpy313.operator") 353) := ⟨by kernel_rfl, by kernel_rfl, by kernel_rfl⟩

theorem c_not {b : Bool} (B : Base w s.heap) (hA : Lv n A) (hn : n ≤ 19) (h : Back s (fun v _ => v = .bool (!b)) Q) :
    wpAny (model prog w) A (call (.ref 57) [.bool b]) Q E s := by
  refine callP [(Str.ofString "a", .bool b)] (d_not _) B hA (by omega) (by rfl) (by rfl) fun s₁ L S hA' => ?_
  refine wpAny_execs_cons (wpAny_Return_some (wpAny_UnaryOp (rd S rfl (not_of (wpAny_truthy_bool ?_)))))
  exact h _ _ S.sm S.keep rfl

def isS (x : Str) : Value → Bool | .str a _ => a == x | _ => false
def isI (x : Int) : Value → Bool | .int a _ => a == x | _ => false
theorem any_isS {X : Addr → Prop} {h : Heap} {x : Str} {vs : List Value} {xs : List Str} (p : All cS vs xs X h) : vs.any (isS x) = xs.contains x := by
  unfold All at p
  induction p with
  | nil => rfl
  | cons h _ ih => obtain ⟨t, rfl⟩ := h; simp only [List.any_cons, List.contains_cons, ih, isS]; rw [Bool.beq_comm]
theorem any_isI {X : Addr → Prop} {h : Heap} {x : Int} {vs : List Value} {xs : List Int} (p : All cI vs xs X h) : vs.any (isI x) = xs.contains x := by
  unfold All at p
  induction p with
  | nil => rfl
  | cons h _ ih => obtain ⟨t, rfl⟩ := h; simp only [List.any_cons, List.contains_cons, ih, isI]; rw [Bool.beq_comm]
theorem all_mem {α : Type} {R : Value → α → Pred} {X : Addr → Prop} {h : Heap} {vs : List Value} {xs : List α} (p : All R vs xs X h) : ∀ v ∈ vs, ∃ x, R v x X h := by
  unfold All at p
  induction p with
  | nil => intro v hv; cases hv
  | cons h _ ih => intro v hv; rcases List.mem_cons.mp hv with rfl | hv; exact ⟨_, h⟩; exact ih v hv

theorem inS {X : Addr → Prop} {a b : Value} {xs : List Str} {x : Str} (ha : Strs a xs X s.heap) (hb : IsStr b x) (h : Q (.bool (xs.contains x)) s) : wpAny (model prog w) A (compareOp .In b a) Q E s := by
  obtain ⟨vs, ⟨l, rfl, _, hl⟩, p⟩ := ha
  obtain ⟨t, rfl⟩ := hb
  refine in_listAt (isS x) hl (fun y hy => ?_) ?_
  · obtain ⟨z, u, rfl⟩ := all_mem p y (by simpa using hy)
    exact EqAt.str_str _ _ _ _
  · rw [← Array.any_toList]
    exact (any_isS (x := x) p).symm ▸ h
theorem inI {X : Addr → Prop} {a b : Value} {xs : List Int} {x : Int} (ha : Ints a xs X s.heap) (hb : IsInt b x) (h : Q (.bool (xs.contains x)) s) : wpAny (model prog w) A (compareOp .In b a) Q E s := by
  obtain ⟨vs, ⟨l, rfl, _, hl⟩, p⟩ := ha
  obtain ⟨t, rfl⟩ := hb
  refine in_listAt (isI x) hl (fun y hy => ?_) ?_
  · obtain ⟨z, u, rfl⟩ := all_mem p y (by simpa using hy)
    exact EqAt.int_int _ _ _ _
  · rw [← Array.any_toList]
    exact (any_isI (x := x) p).symm ▸ h

theorem c_inS {a b : Value} {X : Addr → Prop} {xs : List Str} {x : Str} (B : Base w s.heap) (hA : Lv n A) (hn : n ≤ 19) (ha : Strs a xs X s.heap) (hb : IsStr b x) (h : Back s (fun v _ => v = .bool (xs.contains x)) Q) :
    wpAny (model prog w) A (call (.ref 64) [a, b]) Q E s := by
  refine callP [(Str.ofString "a", a), (Str.ofString "b", b)] (d_contains _) B hA (by omega) (by rfl) (by rfl) fun s₁ L S hA' => ?_
  refine wpAny_execs_cons (wpAny_Return_some (wpAny_Compare1 (rd S rfl (rd S rfl (inS ((Strs.fa _ _).mono _ _ _ S.keep.kp ha) hb ?_)))))
  exact h _ _ S.sm S.keep rfl
theorem c_inI {a b : Value} {X : Addr → Prop} {xs : List Int} {x : Int} (B : Base w s.heap) (hA : Lv n A) (hn : n ≤ 19) (ha : Ints a xs X s.heap) (hb : IsInt b x) (h : Back s (fun v _ => v = .bool (xs.contains x)) Q) :
    wpAny (model prog w) A (call (.ref 64) [a, b]) Q E s := by
  refine callP [(Str.ofString "a", a), (Str.ofString "b", b)] (d_contains _) B hA (by omega) (by rfl) (by rfl) fun s₁ L S hA' => ?_
  refine wpAny_execs_cons (wpAny_Return_some (wpAny_Compare1 (rd S rfl (rd S rfl (inI ((Ints.fa _ _).mono _ _ _ S.keep.kp ha) hb ?_)))))
  exact h _ _ S.sm S.keep rfl
theorem c_iadd {a b : Value} {x y : Int} (B : Base w s.heap) (hA : Lv n A) (hn : n ≤ 19) (ha : IsInt a x) (hb : IsInt b y) (h : Back s (fun v _ => IsInt v (x + y)) Q) :
    wpAny (model prog w) A (call (.ref 78) [a, b]) Q E s := by
  obtain ⟨t, rfl⟩ := ha; obtain ⟨u, rfl⟩ := hb
  refine callP [(Str.ofString "a", .int x t), (Str.ofString "b", .int y u)] (d_iadd _) B hA (by omega) (by rfl) (by rfl) fun s₁ L S hA' => ?_
  refine wpAny_execs_cons (wpAny_AugAssign_Name (rdn S rfl (rd S rfl (iadd_int (sto (S.tk _) (fun s₂ S => ?_))))))
  refine wpAny_execs_cons (wpAny_Return_some (rd S rfl ?_))
  exact h _ _ S.sm S.keep ⟨_, rfl⟩
theorem c_ixor {a b : Value} {x y : Int} (B : Base w s.heap) (hA : Lv n A) (hn : n ≤ 19) (ha : IsInt a x) (hb : IsInt b y) (h : Back s (fun v _ => IsInt v (Builtin.bitXor x y)) Q) :
    wpAny (model prog w) A (call (.ref 85) [a, b]) Q E s := by
  obtain ⟨t, rfl⟩ := ha; obtain ⟨u, rfl⟩ := hb
  refine callP [(Str.ofString "a", .int x t), (Str.ofString "b", .int y u)] (d_ixor _) B hA (by omega) (by rfl) (by rfl) fun s₁ L S hA' => ?_
  refine wpAny_execs_cons (wpAny_AugAssign_Name (rdn S rfl (rd S rfl (ixor_int (sto (S.tk _) (fun s₂ S => ?_))))))
  refine wpAny_execs_cons (wpAny_Return_some (rd S rfl ?_))
  exact h _ _ S.sm S.keep ⟨_, rfl⟩
end
end Mine
end

section
open PySem PySem.W PyProof.Rows PySem.Calls PySem.SeqAt PySem.StrLaws PySem.Builtin PySem.Builtin.Str
set_option Elab.async false
set_option maxRecDepth 100000
set_option linter.unusedVariables false
namespace Mine
/-- the text of these signs -/
def T (l : List Nat) : Str := ⟨l.toArray⟩
theorem T_of (x : Str) : x = T x.cps.toList := by obtain ⟨⟨l⟩⟩ := x; rfl
theorem T_len (l : List Nat) : (T l).length = l.length := by simp [T, Str.length]
theorem T_add (a b : List Nat) : T a ++ T b = T (a ++ b) := by show Str.append _ _ = _; simp [T, Str.append]
theorem T_inj {a b : List Nat} (h : T a = T b) : a = b := by
  have : (T a).cps.toList = (T b).cps.toList := by rw [h]
  simpa [T] using this
theorem T_list (l : List Nat) : (T l).cps.toList = l := by simp [T]

theorem at1 (l : List Nat) (c e i : Nat) : At (T l) (T [c]) e i ↔ i + 1 ≤ e ∧ l[i]? = some c := by
  unfold At
  rw [subAt_eq, T_len, T_list, T_list]
  refine and_congr Iff.rfl ?_
  simp only [List.length_singleton, beq_iff_eq]
  constructor
  · intro h
    have := congrArg (fun z : List Nat => z[0]?) h
    simpa [List.getElem?_take] using this
  · intro h
    obtain ⟨hi, h2⟩ := List.getElem?_eq_some_iff.mp h
    rw [List.drop_eq_getElem_cons hi, h2]; rfl

theorem occ1 (l : List Nat) (c e : Nat) :
    (occurrences (T l) (T [c]) 0 e 1 = [] ∧ ∀ k, k < e → l[k]? ≠ some c) ∨ ∃ i r, occurrences (T l) (T [c]) 0 e 1 = i :: r ∧ i < e ∧ l[i]? = some c ∧ ∀ k, k < i → l[k]? ≠ some c := by
  rw [occ_eq]
  rcases occ_first (T l) (T [c]) e 1 (Nat.le_refl _) (List.range' 0 (e + 1 - 0)) 0 (fun _ _ => Nat.zero_le _) with ⟨h0, hn⟩ | ⟨pre, a, post, q, h0, ha, hn⟩
  · exact .inl ⟨by rw [h0], fun i hi hk => hn i (by simp [List.mem_range'] <;> omega) ((at1 l c e i).mpr ⟨hi, hk⟩)⟩
  · refine .inr ⟨a, ((forIn (List.range' 0 (e + 1 - 0)) ((#[] : Array Nat), 0) (occBody (T l) (T [c]) e 1)).run.fst.toList).tail, ?_, ((at1 l c e a).mp ha).1, ((at1 l c e a).mp ha).2, fun k hk hc =>
      hn k (range'_split q k hk) ((at1 l c e k).mpr ⟨by have := ((at1 l c e a).mp ha).1; omega, hc⟩)⟩
    generalize (forIn (List.range' 0 (e + 1 - 0)) ((#[] : Array Nat), 0) (occBody (T l) (T [c]) e 1)).run.fst = arr at h0
    have h1 : arr.toList[0]? = some a := by simpa using h0
    cases hL : arr.toList with
    | nil => rw [hL] at h1; cases h1
    | cons b t => rw [hL] at h1; simp at h1; rw [h1]; rfl
theorem lst1 (l : List Nat) (c e : Nat) :
    (lastOccurrence (T l) (T [c]) 0 e = none ∧ ∀ k, k < e → l[k]? ≠ some c) ∨ ∃ i, lastOccurrence (T l) (T [c]) 0 e = some i ∧ i < e ∧ l[i]? = some c ∧ ∀ k, i < k → k < e → l[k]? ≠ some c := by
  rw [last_eq]
  have key := last_run (T l) (T [c]) e (List.range' 0 (e + 1 - 0)) [] none (fun _ h => nomatch h) (fun _ h => nomatch h) (by simpa using List.pairwise_lt_range' (s := 0) (n := e + 1 - 0))
  have mem : ∀ i, i < e → i ∈ [] ++ List.range' 0 (e + 1 - 0) := fun i hi => by simp [List.mem_range'] <;> omega
  cases hr : (forIn (List.range' 0 (e + 1 - 0)) none (lastBody (T l) (T [c]) e)).run with
  | none => rw [hr] at key; exact .inl ⟨rfl, fun i hi hc => key i (mem i hi) ((at1 l c e i).mpr ⟨hi, hc⟩)⟩
  | some a =>
    rw [hr] at key
    have := (at1 l c e a).mp key.1
    exact .inr ⟨a, rfl, this.1, this.2, fun k hk hke hA => key.2 k (mem k hke) hk ((at1 l c e k).mpr ⟨hke, hA⟩)⟩

/-- where c stands first among the first e signs, or -1 -/
def fst (l : List Nat) (c e : Nat) : Int := match occurrences (T l) (T [c]) 0 e 1 with | k :: _ => (k : Int) | [] => -1
def lst (l : List Nat) (c e : Nat) : Int := match lastOccurrence (T l) (T [c]) 0 e with | some k => (k : Int) | none => -1
theorem fst_none {l : List Nat} {c e : Nat} (h : ∀ k, k < e → l[k]? ≠ some c) : fst l c e = -1 := by
  unfold fst
  rcases occ1 l c e with ⟨h0, _⟩ | ⟨i, r, h0, h1, h2, _⟩
  · rw [h0]
  · exact absurd h2 (h i h1)
theorem fst_some {l : List Nat} {c e i : Nat} (hi : i < e) (hc : l[i]? = some c) (h : ∀ k, k < i → l[k]? ≠ some c) : fst l c e = (i : Int) := by
  unfold fst
  rcases occ1 l c e with ⟨h0, h1⟩ | ⟨j, r, h0, h1, h2, h3⟩
  · exact absurd hc (h1 i hi)
  · rw [h0]
    have : j = i := by
      rcases Nat.lt_trichotomy j i with q | q | q
      · exact absurd h2 (h j q)
      · exact q
      · exact absurd hc (h3 i q)
    simp [this]
theorem lst_none {l : List Nat} {c e : Nat} (h : ∀ k, k < e → l[k]? ≠ some c) : lst l c e = -1 := by
  unfold lst
  rcases lst1 l c e with ⟨h0, _⟩ | ⟨i, h0, h1, h2, _⟩
  · rw [h0]
  · exact absurd h2 (h i h1)
theorem lst_some {l : List Nat} {c e i : Nat} (hi : i < e) (hc : l[i]? = some c) (h : ∀ k, i < k → k < e → l[k]? ≠ some c) : lst l c e = (i : Int) := by
  unfold lst
  rcases lst1 l c e with ⟨h0, h1⟩ | ⟨j, h0, h1, h2, h3⟩
  · exact absurd hc (h1 i hi)
  · rw [h0]
    have : j = i := by
      rcases Nat.lt_trichotomy j i with q | q | q
      · exact absurd hc (h3 i q hi)
      · exact q
      · exact absurd h2 (h j q h1)
    simp [this]

theorem gives_find2 (l : List Nat) (c : Nat) (t u : Tok) : Gives («str.find» ⟨[.str (T l) t, .str (T [c]) u], []⟩) (.int (fst l c l.length)) := by
  have := gives_str_find (T l) (T [c]) t u
  rw [T_len] at this
  exact this
theorem gives_find4 (l : List Nat) (c e : Nat) (he : e ≤ l.length) (t u v v' : Tok) : Gives («str.find» ⟨[.str (T l) t, .str (T [c]) u, .int 0 v, .int (e : Int) v'], []⟩) (.int (fst l c e)) := by
  show Gives (match occurrences (T l) (T [c]) 0 (min (max 0 (if (e : Int) < 0 then (e : Int) + (T l).length else (e : Int))).toNat (T l).length) 1 with | k :: _ => retInt k | [] => (do rule "str.find.not-found"; retInt (-1))) _
  have q : min (max 0 (if (e : Int) < 0 then (e : Int) + (T l).length else (e : Int))).toNat (T l).length = e := by rw [T_len]; split <;> omega
  rw [q]
  unfold fst
  cases occurrences (T l) (T [c]) 0 e 1 with
  | nil => exact .rule (.of_eq rfl)
  | cons k _ => exact .of_eq rfl
theorem gives_rfind4 (l : List Nat) (c e : Nat) (he : e ≤ l.length) (t u v v' : Tok) : Gives («str.rfind» ⟨[.str (T l) t, .str (T [c]) u, .int 0 v, .int (e : Int) v'], []⟩) (.int (lst l c e)) := by
  show Gives (match lastOccurrence (T l) (T [c]) 0 (min (max 0 (if (e : Int) < 0 then (e : Int) + (T l).length else (e : Int))).toNat (T l).length) with | some k => retInt k | none => (do rule "str.rfind.not-found"; retInt (-1))) _
  have q : min (max 0 (if (e : Int) < 0 then (e : Int) + (T l).length else (e : Int))).toNat (T l).length = e := by rw [T_len]; split <;> omega
  rw [q]
  unfold lst
  cases lastOccurrence (T l) (T [c]) 0 e with
  | none => exact .rule (.of_eq rfl)
  | some k => exact .of_eq rfl
theorem args_find4 (a b c d : Value) : argsOk "str.find" ⟨[a, b, c, d], []⟩ := by unfold argsOk; kernel_rfl
theorem args_rfind4 (a b c d : Value) : argsOk "str.rfind" ⟨[a, b, c, d], []⟩ := by unfold argsOk; kernel_rfl
end Mine
end

section
open PySem PySem.W PyProof.Rows PySem.Calls PySem.SeqAt PySem.StrLaws PySem.Builtin PySem.Builtin.Str
set_option Elab.async false
set_option maxRecDepth 100000
set_option linter.unusedVariables false
namespace Mine
section
variable {prog : Program} {w : World} {A : Around} {E : Value → Shared → Prop} {s : Shared} {Q : Value → Shared → Prop} {env : Env}

theorem nm_len {pos : Pos} (B : Base w s.heap) (h : Q (.builtin "len") s)
    (hg : env.globals = mainGlobals := by rfl) (hb : env.builtins = builtinsNs := by rfl) (hk : env.scope.kind = .function := by rfl) (hx : env.kindOf (Str.ofString "len") = some .globalImplicit := by rfl) :
    wpAny (model prog w) A (eval (.Name (Str.ofString "len") pos) env) Q E s := nmB B (by kernel_rfl) (v := .builtin "len") (by kernel_rfl) (by decide) h hg hb hk hx (by decide)
theorem nm_chr {pos : Pos} (B : Base w s.heap) (h : Q (.builtin "chr") s)
    (hg : env.globals = mainGlobals := by rfl) (hb : env.builtins = builtinsNs := by rfl) (hk : env.scope.kind = .function := by rfl) (hx : env.kindOf (Str.ofString "chr") = some .globalImplicit := by rfl) :
    wpAny (model prog w) A (eval (.Name (Str.ofString "chr") pos) env) Q E s := nmB B (by kernel_rfl) (v := .builtin "chr") (by kernel_rfl) (by decide) h hg hb hk hx (by decide)
theorem nm_ord {pos : Pos} (B : Base w s.heap) (h : Q (.builtin "ord") s)
    (hg : env.globals = mainGlobals := by rfl) (hb : env.builtins = builtinsNs := by rfl) (hk : env.scope.kind = .function := by rfl) (hx : env.kindOf (Str.ofString "ord") = some .globalImplicit := by rfl) :
    wpAny (model prog w) A (eval (.Name (Str.ofString "ord") pos) env) Q E s := nmB B (by kernel_rfl) (v := .builtin "ord") (by kernel_rfl) (by decide) h hg hb hk hx (by decide)
theorem nm_sum {pos : Pos} (B : Base w s.heap) (h : Q (.builtin "sum") s)
    (hg : env.globals = mainGlobals := by rfl) (hb : env.builtins = builtinsNs := by rfl) (hk : env.scope.kind = .function := by rfl) (hx : env.kindOf (Str.ofString "sum") = some .globalImplicit := by rfl) :
    wpAny (model prog w) A (eval (.Name (Str.ofString "sum") pos) env) Q E s := nmB B (by kernel_rfl) (v := .builtin "sum") (by kernel_rfl) (by decide) h hg hb hk hx (by decide)
theorem nm_max {pos : Pos} (B : Base w s.heap) (h : Q (.builtin "max") s)
    (hg : env.globals = mainGlobals := by rfl) (hb : env.builtins = builtinsNs := by rfl) (hk : env.scope.kind = .function := by rfl) (hx : env.kindOf (Str.ofString "max") = some .globalImplicit := by rfl) :
    wpAny (model prog w) A (eval (.Name (Str.ofString "max") pos) env) Q E s := nmB B (by kernel_rfl) (v := .builtin "max") (by kernel_rfl) (by decide) h hg hb hk hx (by decide)
theorem nm_tuple {pos : Pos} (B : Base w s.heap) (h : Q (.type "tuple") s)
    (hg : env.globals = mainGlobals := by rfl) (hb : env.builtins = builtinsNs := by rfl) (hk : env.scope.kind = .function := by rfl) (hx : env.kindOf (Str.ofString "tuple") = some .globalImplicit := by rfl) :
    wpAny (model prog w) A (eval (.Name (Str.ofString "tuple") pos) env) Q E s := nmB B (by kernel_rfl) (v := .type "tuple") (by kernel_rfl) (by decide) h hg hb hk hx (by decide)
theorem nm_bytes {pos : Pos} (B : Base w s.heap) (h : Q (.type "bytes") s)
    (hg : env.globals = mainGlobals := by rfl) (hb : env.builtins = builtinsNs := by rfl) (hk : env.scope.kind = .function := by rfl) (hx : env.kindOf (Str.ofString "bytes") = some .globalImplicit := by rfl) :
    wpAny (model prog w) A (eval (.Name (Str.ofString "bytes") pos) env) Q E s := nmB B (by kernel_rfl) (v := .type "bytes") (by kernel_rfl) (by decide) h hg hb hk hx (by decide)
theorem nm_range {pos : Pos} (B : Base w s.heap) (h : Q (.type "range") s)
    (hg : env.globals = mainGlobals := by rfl) (hb : env.builtins = builtinsNs := by rfl) (hk : env.scope.kind = .function := by rfl) (hx : env.kindOf (Str.ofString "range") = some .globalImplicit := by rfl) :
    wpAny (model prog w) A (eval (.Name (Str.ofString "range") pos) env) Q E s := nmB B (by kernel_rfl) (v := .type "range") (by kernel_rfl) (by decide) h hg hb hk hx (by decide)
theorem nm_zip {pos : Pos} (B : Base w s.heap) (h : Q (.type "zip") s)
    (hg : env.globals = mainGlobals := by rfl) (hb : env.builtins = builtinsNs := by rfl) (hk : env.scope.kind = .function := by rfl) (hx : env.kindOf (Str.ofString "zip") = some .globalImplicit := by rfl) :
    wpAny (model prog w) A (eval (.Name (Str.ofString "zip") pos) env) Q E s := nmB B (by kernel_rfl) (v := .type "zip") (by kernel_rfl) (by decide) h hg hb hk hx (by decide)
theorem nm_gFlags {pos : Pos} (B : Base w s.heap) (h : Q (.ref 36) s)
    (hg : env.globals = mainGlobals := by rfl) (hk : env.scope.kind = .function := by rfl) (hx : env.kindOf (Str.ofString "Flags") = some .globalImplicit := by rfl) :
    wpAny (model prog w) A (eval (.Name (Str.ofString "Flags") pos) env) Q E s := nmK B (v := .ref 36) (by kernel_rfl) h hg hk hx (by decide)
theorem nm_gParseFlags {pos : Pos} (B : Base w s.heap) (h : Q (.ref 43) s)
    (hg : env.globals = mainGlobals := by rfl) (hk : env.scope.kind = .function := by rfl) (hx : env.kindOf (Str.ofString "ParseFlags") = some .globalImplicit := by rfl) :
    wpAny (model prog w) A (eval (.Name (Str.ofString "ParseFlags") pos) env) Q E s := nmK B (v := .ref 43) (by kernel_rfl) h hg hk hx (by decide)
theorem nm_g_strip {pos : Pos} (B : Base w s.heap) (h : Q (.ref 50) s)
    (hg : env.globals = mainGlobals := by rfl) (hk : env.scope.kind = .function := by rfl) (hx : env.kindOf (Str.ofString "_strip_exception_details") = some .globalImplicit := by rfl) :
    wpAny (model prog w) A (eval (.Name (Str.ofString "_strip_exception_details") pos) env) Q E s := nmK B (v := .ref 50) (by kernel_rfl) h hg hk hx (by decide)
theorem nm_gnot_ {pos : Pos} (B : Base w s.heap) (h : Q (.ref 57) s)
    (hg : env.globals = mainGlobals := by rfl) (hk : env.scope.kind = .function := by rfl) (hx : env.kindOf (Str.ofString "not_") = some .globalImplicit := by rfl) :
    wpAny (model prog w) A (eval (.Name (Str.ofString "not_") pos) env) Q E s := nmK B (v := .ref 57) (by kernel_rfl) h hg hk hx (by decide)
theorem nm_gcontains {pos : Pos} (B : Base w s.heap) (h : Q (.ref 64) s)
    (hg : env.globals = mainGlobals := by rfl) (hk : env.scope.kind = .function := by rfl) (hx : env.kindOf (Str.ofString "contains") = some .globalImplicit := by rfl) :
    wpAny (model prog w) A (eval (.Name (Str.ofString "contains") pos) env) Q E s := nmK B (v := .ref 64) (by kernel_rfl) h hg hk hx (by decide)
theorem nm_gsetitem {pos : Pos} (B : Base w s.heap) (h : Q (.ref 71) s)
    (hg : env.globals = mainGlobals := by rfl) (hk : env.scope.kind = .function := by rfl) (hx : env.kindOf (Str.ofString "setitem") = some .globalImplicit := by rfl) :
    wpAny (model prog w) A (eval (.Name (Str.ofString "setitem") pos) env) Q E s := nmK B (v := .ref 71) (by kernel_rfl) h hg hk hx (by decide)
theorem nm_giadd {pos : Pos} (B : Base w s.heap) (h : Q (.ref 78) s)
    (hg : env.globals = mainGlobals := by rfl) (hk : env.scope.kind = .function := by rfl) (hx : env.kindOf (Str.ofString "iadd") = some .globalImplicit := by rfl) :
    wpAny (model prog w) A (eval (.Name (Str.ofString "iadd") pos) env) Q E s := nmK B (v := .ref 78) (by kernel_rfl) h hg hk hx (by decide)
theorem nm_gixor {pos : Pos} (B : Base w s.heap) (h : Q (.ref 85) s)
    (hg : env.globals = mainGlobals := by rfl) (hk : env.scope.kind = .function := by rfl) (hx : env.kindOf (Str.ofString "ixor") = some .globalImplicit := by rfl) :
    wpAny (model prog w) A (eval (.Name (Str.ofString "ixor") pos) env) Q E s := nmK B (v := .ref 85) (by kernel_rfl) h hg hk hx (by decide)
theorem nm_gL_numbers {pos : Pos} (B : Base w s.heap) (h : Q (.ref 90) s)
    (hg : env.globals = mainGlobals := by rfl) (hk : env.scope.kind = .function := by rfl) (hx : env.kindOf (Str.ofString "_law_numbers") = some .globalImplicit := by rfl) :
    wpAny (model prog w) A (eval (.Name (Str.ofString "_law_numbers") pos) env) Q E s := nmK B (v := .ref 90) (by kernel_rfl) h hg hk hx (by decide)
theorem nm_gL_tree {pos : Pos} (B : Base w s.heap) (h : Q (.ref 97) s)
    (hg : env.globals = mainGlobals := by rfl) (hk : env.scope.kind = .function := by rfl) (hx : env.kindOf (Str.ofString "_law_tree") = some .globalImplicit := by rfl) :
    wpAny (model prog w) A (eval (.Name (Str.ofString "_law_tree") pos) env) Q E s := nmK B (v := .ref 97) (by kernel_rfl) h hg hk hx (by decide)
theorem nm_gL_octets {pos : Pos} (B : Base w s.heap) (h : Q (.ref 102) s)
    (hg : env.globals = mainGlobals := by rfl) (hk : env.scope.kind = .function := by rfl) (hx : env.kindOf (Str.ofString "_law_octets") = some .globalImplicit := by rfl) :
    wpAny (model prog w) A (eval (.Name (Str.ofString "_law_octets") pos) env) Q E s := nmK B (v := .ref 102) (by kernel_rfl) h hg hk hx (by decide)
theorem nm_gL_names {pos : Pos} (B : Base w s.heap) (h : Q (.ref 107) s)
    (hg : env.globals = mainGlobals := by rfl) (hk : env.scope.kind = .function := by rfl) (hx : env.kindOf (Str.ofString "_law_names") = some .globalImplicit := by rfl) :
    wpAny (model prog w) A (eval (.Name (Str.ofString "_law_names") pos) env) Q E s := nmK B (v := .ref 107) (by kernel_rfl) h hg hk hx (by decide)
theorem nm_gL_line {pos : Pos} (B : Base w s.heap) (h : Q (.ref 114) s)
    (hg : env.globals = mainGlobals := by rfl) (hk : env.scope.kind = .function := by rfl) (hx : env.kindOf (Str.ofString "_law_line") = some .globalImplicit := by rfl) :
    wpAny (model prog w) A (eval (.Name (Str.ofString "_law_line") pos) env) Q E s := nmK B (v := .ref 114) (by kernel_rfl) h hg hk hx (by decide)
theorem nm_gL_chain {pos : Pos} (B : Base w s.heap) (h : Q (.ref 119) s)
    (hg : env.globals = mainGlobals := by rfl) (hk : env.scope.kind = .function := by rfl) (hx : env.kindOf (Str.ofString "_law_chain") = some .globalImplicit := by rfl) :
    wpAny (model prog w) A (eval (.Name (Str.ofString "_law_chain") pos) env) Q E s := nmK B (v := .ref 119) (by kernel_rfl) h hg hk hx (by decide)
theorem nm_gL_worth {pos : Pos} (B : Base w s.heap) (h : Q (.ref 124) s)
    (hg : env.globals = mainGlobals := by rfl) (hk : env.scope.kind = .function := by rfl) (hx : env.kindOf (Str.ofString "_law_worth") = some .globalImplicit := by rfl) :
    wpAny (model prog w) A (eval (.Name (Str.ofString "_law_worth") pos) env) Q E s := nmK B (v := .ref 124) (by kernel_rfl) h hg hk hx (by decide)
end
theorem d_parse (P : Params) : IsDef P 3 43 42 (.str (Str.ofString "cpy313.imaplib") 282) := ⟨by kernel_rfl, by kernel_rfl, by kernel_rfl⟩
theorem d_strip (P : Params) : IsDef P 5 50 49 (.str (Str.ofString "cpy313.doctest") 341) := ⟨by kernel_rfl, by kernel_rfl, by kernel_rfl⟩
theorem d_setitem (P : Params) : IsDef P 9 71 70 (.str (Str.ofString "cpy313.operator") 353) := ⟨by kernel_rfl, by kernel_rfl, by kernel_rfl⟩
theorem d_numbers (P : Params) : IsDef P 13 90 89 (.str (Str.ofString "law_wr0004_01") 395) := ⟨by kernel_rfl, by kernel_rfl, by kernel_rfl⟩
theorem d_tree (P : Params) : IsDef P 14 97 96 (.str (Str.ofString "law_wr0004_01") 395) := ⟨by kernel_rfl, by kernel_rfl, by kernel_rfl⟩
theorem d_octets (P : Params) : IsDef P 15 102 101 (.str (Str.ofString "law_wr0004_01") 395) := ⟨by kernel_rfl, by kernel_rfl, by kernel_rfl⟩
theorem d_names (P : Params) : IsDef P 16 107 106 (.str (Str.ofString "law_wr0004_01") 395) := ⟨by kernel_rfl, by kernel_rfl, by kernel_rfl⟩
theorem d_line (P : Params) : IsDef P 17 114 113 (.str (Str.ofString "law_wr0004_01") 395) := ⟨by kernel_rfl, by kernel_rfl, by kernel_rfl⟩
theorem d_chain (P : Params) : IsDef P 18 119 118 (.str (Str.ofString "law_wr0004_01") 395) := ⟨by kernel_rfl, by kernel_rfl, by kernel_rfl⟩
theorem d_worth (P : Params) : IsDef P 19 124 123 (.str (Str.ofString "law_wr0004_01") 395) := ⟨by kernel_rfl, by kernel_rfl, by kernel_rfl⟩
theorem d_law (P : Params) : IsDef P 20 129 128 (.str (Str.ofString "law_wr0004_01") 395) := ⟨by kernel_rfl, by kernel_rfl, by kernel_rfl⟩
end Mine
end

section
open PySem PySem.W PyProof.Rows PySem.Calls PySem.SeqAt PySem.StrLaws PySem.Builtin PySem.Builtin.Str
set_option Elab.async false
set_option maxRecDepth 100000
set_option linter.unusedVariables false
namespace Mine
section
variable {r : Bool} {prog : Program} {w : World} {A : Around} {E : Value → Shared → Prop} {s₀ s s' : Shared} {Q : Value → Shared → Prop} {n : Nat} {L : Addr} {C : List (Addr × Held)} {O : List (Addr × List Value)} {loc : List (Str × Value)} {Γ : Pred} {env : Env}

theorem cwB2 {M : Model} {env : Env} {pos : Pos} {id : String} {e₁ e₂ : Expr} (he₁ : starEach [e₁, e₂] env = (false, eval e₁ env) :: starEach [e₂] env) (he₂ : starEach [e₂] env = [(false, eval e₂ env)])
    (h : wpAny M A (eval e₁ env) (fun v₁ s₁ => wpAny M A (eval e₂ env) (fun v₂ s₂ => wpAny M A (call (.builtin id) [v₁, v₂]) Q E s₂) E s₁) E s) :
    wpAny M A (callWith pos (.builtin id) [] (backTo pos (starEach [e₁, e₂] env)) []) Q E s :=
  PyProof.Rows.callWith_builtin1 (args_cons (wpAny_mono h (fun _ _ h₁ => args_cons (wpAny_mono h₁ (fun _ _ h₂ => args_nil h₂) fun _ _ e => e) (by rw [he₂]; rfl)) fun _ _ e => e) he₁) he₁ (by rw [he₂]; rfl)
theorem cwB1 {M : Model} {env : Env} {pos : Pos} {id : String} {e₁ : Expr} (he₁ : starEach [e₁] env = [(false, eval e₁ env)])
    (h : wpAny M A (eval e₁ env) (fun v₁ s₁ => wpAny M A (call (.builtin id) [v₁]) Q E s₁) E s) :
    wpAny M A (callWith pos (.builtin id) [] (backTo pos (starEach [e₁] env)) []) Q E s :=
  PyProof.Rows.callWith_builtin1 (args_cons (wpAny_mono h (fun _ _ h₁ => args_nil h₁) fun _ _ e => e) (by rw [he₁]; rfl)) (by rw [he₁]; rfl) (by rfl)
theorem partN {M : Model} {env : Env} (h : Q .none s) : wpAny M A (evalPart none env) Q E s := by rw [evalPart_none]; exact wpAny_pure h
theorem partS {M : Model} {env : Env} {e : Expr} (h : wpAny M A (eval e env) Q E s) : wpAny M A (evalPart (some e) env) Q E s := h
theorem St.alloc (S : St r w s₀ L C O loc Γ s) (o : Obj) : St r w s₀ L C O loc Γ { s with heap := s.heap.push o } := S.ext ⟨_, _, rfl⟩ (Ext.push _ _)

theorem ifGe0 {x : Str} {px pk pc pos : Pos} {k : Nat} {i : Int} {t : Tok} {body orelse : List Stmt} {Q : Flow → Shared → Prop} (S : St r w s₀ env.locals C O loc Γ s) (hx : loc.lookup x = some (.int i t))
    (h : ∀ s', St r w s₀ env.locals C O loc Γ s' → if 0 ≤ i then wpAny (model prog w) A (execs body env) Q E s' else wpAny (model prog w) A (execs orelse env) Q E s')
    (hk : env.scope.kind = .function := by rfl) (hl : env.kindOf x = some .local := by rfl) (hd : (x == ("__debug__" : Str)) = false := by decide) :
    wpAny (model prog w) A (exec (.If (.Compare (.Name x px) [.GtE] [.Constant (.int 0) k pk] pc) body orelse pos) env) Q E s := by
  refine wpAny_If (wpAny_isTrue_Compare1 (rd S hx (kint S fun s₁ t' S => PyProof.Rows.ge_int (wpAny_truthy_bool ?_)) hk hl hd) (by rfl))
  have := h _ S
  by_cases q : 0 ≤ i
  · simpa [q] using this
  · simpa [q] using this

/-- len of a text -/
theorem lenT {l : List Nat} {t : Tok} (S : St r w s₀ L C O loc Γ s) (hz : l.length ≤ 1000000) (h : ∀ s' t', St r w s₀ L C O loc Γ s' → Q (.int l.length t') s') :
    wpAny (model prog w) A (call (.builtin "len") [.str (T l) t]) Q E s :=
  len_str (by rw [T_len]; omega) (by rw [T_len]; exact h _ _ (S.tk _))

/-- a cut of a text -/
theorem sliced {x : List Nat} {t : Tok} {a b : Nat} {l u : Option (Int × Tok)} (hl : (l.map (·.1)) = some (a : Int) ∨ (l = none ∧ a = 0)) (hu : (u.map (·.1)) = some (b : Int) ∨ (u = none ∧ b = x.length))
    (hab : a ≤ b) (hb : b ≤ x.length) (S : St r w s₀ L C O loc Γ s) (hz : x.length ≤ 1000000) (h : ∀ s' t', St r w s₀ L C O loc Γ s' → Q (.str (T ((x.drop a).take (b - a))) t') s') :
    (sliceMade (T x) t l u none).post Q s := by
  have e0 : slicePicked (T x) l u none = (List.range (b - a)).map (fun k => a + k) := by
    unfold slicePicked
    rw [T_len]
    have : strSliceIndices (l.map (·.1)) (u.map (·.1)) (((none : Option (Int × Tok)).map (·.1)).getD 1) x.length = strSliceIndices (some (a : Int)) (some (b : Int)) 1 x.length := by
      have e : Max.max (0 : Int) (Min.min (if (x.length : Int) < 0 then (x.length : Int) + x.length else x.length) x.length) = x.length := by split <;> omega
      have z : Max.max (0 : Int) (Min.min 0 (x.length : Int)) = 0 := by omega
      rcases hl with hl | ⟨rfl, rfl⟩ <;> rcases hu with hu | ⟨rfl, rfl⟩
      · rw [hl, hu]; rfl
      · rw [hl]; unfold strSliceIndices; simp [e]
      · rw [hu]; unfold strSliceIndices; simp [z]
      · unfold strSliceIndices; simp [e, z]
    rw [this, strSliceIndices_plain hab hb]
  have e1 : ((slicePicked (T x) l u none).filterMap ((T x).cps[·]?)) = (x.drop a).take (b - a) := by
    have := sliced_plain (T x) hab (by rw [T_len]; exact hb)
    rw [T_len, strSliceIndices_plain hab hb, T_list] at this
    rw [e0, this]
  unfold sliceMade
  split
  · rename_i hc
    have hlen : b - a = x.length := by
      rw [e0] at hc; simpa [T_len] using hc
    have : (x.drop a).take (b - a) = x := by
      have ha : a = 0 := by omega
      subst ha
      simp [hlen]
    rw [this] at h
    exact h _ _ S
  · rw [e1]
    refine (?_ : Made.post (.str (T ((x.drop a).take (b - a)))) Q s)
    exact ⟨by rw [T_len]; simp; show _ ≤ 16777216; omega, h _ _ (S.tk _)⟩
end
end Mine
end

section
open PySem PySem.W PyProof.Rows PySem.Calls PySem.SeqAt PySem.StrLaws PySem.Builtin PySem.Builtin.Str
set_option Elab.async false
set_option maxRecDepth 100000
set_option linter.unusedVariables false
namespace Mine
section
variable {r : Bool} {prog : Program} {w : World} {A : Around} {E : Value → Shared → Prop} {s₀ s s' : Shared} {Q : Value → Shared → Prop} {n : Nat} {L : Addr} {C : List (Addr × Held)} {O : List (Addr × List Value)} {loc : List (Str × Value)} {Γ : Pred}
theorem lit1 : Str.ofString "\n" = T [10] := by decide +kernel
theorem lit2 : Str.ofString ":" = T [58] := by decide +kernel
theorem lit3 : Str.ofString "." = T [46] := by decide +kernel

theorem find4 {l : List Nat} {c e : Nat} {t u v v' : Tok} (S : St r w s₀ L C O loc Γ s) (he : e ≤ l.length) (h : ∀ s' t', St r w s₀ L C O loc Γ s' → Q (.int (fst l c e) t') s') :
    wpAny (model prog w) A (call (.builtin "str.find") [.str (T l) t, .str (T [c]) u, .int 0 v, .int (e : Int) v']) Q E s :=
  call_gives F.slot_str_find (typeIs_str _ _ _) F.entry_str_find (args_find4 _ _ _ _) (gives_find4 l c e he t u v v') (h _ _ (S.tk _))
theorem rfind4 {l : List Nat} {c e : Nat} {t u v v' : Tok} (S : St r w s₀ L C O loc Γ s) (he : e ≤ l.length) (h : ∀ s' t', St r w s₀ L C O loc Γ s' → Q (.int (lst l c e) t') s') :
    wpAny (model prog w) A (call (.builtin "str.rfind") [.str (T l) t, .str (T [c]) u, .int 0 v, .int (e : Int) v']) Q E s :=
  call_gives F.slot_str_rfind (typeIs_str _ _ _) F.entry_str_rfind (args_rfind4 _ _ _ _) (gives_rfind4 l c e he t u v v') (h _ _ (S.tk _))
theorem find2 {l : List Nat} {c : Nat} {t u : Tok} (S : St r w s₀ L C O loc Γ s) (h : ∀ s' t', St r w s₀ L C O loc Γ s' → Q (.int (fst l c l.length) t') s') :
    wpAny (model prog w) A (call (.builtin "str.find") [.str (T l) t, .str (T [c]) u]) Q E s :=
  call_gives F.slot_str_find (typeIs_str _ _ _) F.entry_str_find (F.args_str_find_2 _ _) (gives_find2 l c t u) (h _ _ (S.tk _))

theorem strip4 {p rr wd : List Nat} {t t1 t2 : Tok} {Q : Flow → Shared → Prop} (hw : p = wd ∨ ∃ q, p = q ++ 46 :: wd) (hw' : 46 ∉ wd) (hz : (p ++ rr).length ≤ 100000)
    (hm : loc.lookup (Str.ofString "msg") = some (.str (T (p ++ rr)) t)) (hs : loc.lookup (Str.ofString "start") = some (.int 0 t1)) (he : loc.lookup (Str.ofString "end") = some (.int p.length t2))
    (S : St true w s₀ L C O loc Γ s) (h : ∀ v s', Sm s₀ s' → Ext s₀.heap s'.heap → IsStr v (T wd) → Q (.ret v) s') :
    wpAny (model prog w) A (execs ((bodyAt 5).drop 5) (envAt 5 50 49 L)) Q E s := by
  refine wpAny_execs_cons (wpAny_Assign_Name ?_)
  refine wpAny_Call_method_lateS rfl rfl rfl (rd S hm ⟨"str", "str.rfind", F.plainAttrs_str, F.slot_str_rfind, F.type_str_rfind, typeIs_str _ _ _, (fun _ e => nomatch e), ?_⟩)
  refine callWith_method1 (args_cons (kstr S fun s₂ t3 S => args_cons (kint S fun s₃ t4 S => args_cons (rd S he (args_nil ?_)))))
  rw [lit3]
  refine rfind4 S (by simp) fun s₄ t5 S => sto S fun s₅ S => ?_
  have hlen : ((p ++ rr).take p.length) = p := by simp
  have back : ∀ k, k < p.length → (p ++ rr)[k]? = p[k]? := fun k hk => List.getElem?_append_left hk
  refine wpAny_execs_cons (ifGe0 S rfl fun s₆ S => ?_)
  rcases hw with rfl | ⟨q, rfl⟩
  · have e : lst (p ++ rr) 46 p.length = -1 := lst_none fun k hk hc => by rw [back k hk] at hc; exact hw' (List.mem_of_getElem? hc)
    rw [e, if_neg (by omega)]
    refine wpAny_execs_nil (wpAny_execs_cons (wpAny_Return_some (wpAny_Subscript_str_slice (rd S hm ?_))))
    refine rd S hs (rd S he ⟨T (p ++ rr), t, some (0, t1), some (p.length, t2), rfl, rfl, rfl, ?_⟩)
    refine sliced (a := 0) (b := p.length) (.inl rfl) (.inl rfl) (by omega) (by simp) (S.alloc _) (by omega) fun s₇ t6 S => ?_
    exact h _ _ S.sm S.keep ⟨t6, by simp⟩
  · have e : lst (q ++ 46 :: wd ++ rr) 46 (q ++ 46 :: wd).length = q.length := lst_some (by simp) (by simp) fun k hk hk' hc => by
      rw [back k hk'] at hc
      rw [List.getElem?_append_right (by omega)] at hc
      have : k - q.length = (k - q.length - 1) + 1 := by omega
      rw [this, List.getElem?_cons_succ] at hc
      exact hw' (List.mem_of_getElem? hc)
    rw [e, if_pos (by omega)]
    refine wpAny_execs_cons (wpAny_Assign_Name (wpAny_BinOp (rd S (by rw [e]; rfl) (kint S fun s₇ t6 S => PyProof.Rows.add_int (sto (S.tk _) fun s₈ S => ?_)))))
    refine wpAny_execs_nil (wpAny_execs_cons (wpAny_Return_some (wpAny_Subscript_str_slice (rd S hm ?_))))
    refine rd S rfl (rd S he ⟨T (q ++ 46 :: wd ++ rr), t, some ((q.length : Int) + 1, _), some ((q ++ 46 :: wd).length, t2), rfl, rfl, rfl, ?_⟩)
    refine sliced (a := q.length + 1) (b := (q ++ 46 :: wd).length) (.inl rfl) (.inl rfl) (by simp) (by simp) (S.alloc _) (by omega) fun s₇ t6 S => ?_
    refine h _ _ S.sm S.keep ⟨t6, ?_⟩
    congr 2
    have e1 : (q ++ 46 :: wd).length - (q.length + 1) = wd.length := by simp; omega
    rw [e1]
    have e2 : (q ++ 46 :: wd ++ rr) = (q ++ [46]) ++ (wd ++ rr) := by simp
    rw [e2, List.drop_append_of_le_length (by simp)]
    simp

theorem strip3 {p nt tl wd : List Nat} {t t1 t2 : Tok} {Q : Flow → Shared → Prop} (hp : ∀ c ∈ p, c ≠ 58) (hnt : nt = [] ∨ ∃ r, nt = 58 :: r) (hw : p = wd ∨ ∃ q, p = q ++ 46 :: wd) (hw' : 46 ∉ wd) (hz : (p ++ (nt ++ tl)).length ≤ 100000)
    (hm : loc.lookup (Str.ofString "msg") = some (.str (T (p ++ (nt ++ tl))) t)) (hs : loc.lookup (Str.ofString "start") = some (.int 0 t1)) (he : loc.lookup (Str.ofString "end") = some (.int (p ++ nt).length t2))
    (S : St true w s₀ L C O loc Γ s) (h : ∀ v s', Sm s₀ s' → Ext s₀.heap s'.heap → IsStr v (T wd) → Q (.ret v) s') :
    wpAny (model prog w) A (execs ((bodyAt 5).drop 3) (envAt 5 50 49 L)) Q E s := by
  refine wpAny_execs_cons (wpAny_Assign_Name ?_)
  refine wpAny_Call_method_lateS rfl rfl rfl (rd S hm ⟨"str", "str.find", F.plainAttrs_str, F.slot_str_find, F.type_str_find, typeIs_str _ _ _, (fun _ e => nomatch e), ?_⟩)
  refine callWith_method1 (args_cons (kstr S fun s₂ t3 S => args_cons (kint S fun s₃ t4 S => args_cons (rd S he (args_nil ?_)))))
  rw [lit2]
  refine find4 S (by simp) fun s₄ t5 S => sto S fun s₅ S => ?_
  have back : ∀ k, k < p.length → (p ++ (nt ++ tl))[k]? = p[k]? := fun k hk => List.getElem?_append_left hk
  have noP : ∀ k, k < p.length → (p ++ (nt ++ tl))[k]? ≠ some 58 := fun k hk hc => by rw [back k hk] at hc; exact hp _ (List.mem_of_getElem? hc) rfl
  refine wpAny_execs_cons (ifGe0 S rfl fun s₆ S => ?_)
  rcases hnt with rfl | ⟨r, rfl⟩
  · have e : fst (p ++ ([] ++ tl)) 58 (p ++ []).length = -1 := fst_none fun k hk => noP k (by simpa using hk)
    rw [e, if_neg (by omega)]
    refine wpAny_execs_nil (strip4 (t2 := t2) hw hw' hz (by exact hm) (by exact hs) ?_ S h)
    exact (by simpa using he : loc.lookup (Str.ofString "end") = some (.int p.length t2))
  · have e : fst (p ++ (58 :: r ++ tl)) 58 (p ++ 58 :: r).length = p.length := fst_some (by simp) (by simp) fun k hk => noP k hk
    rw [e, if_pos (by omega)]
    refine wpAny_execs_cons (wpAny_Assign_Name (rd S rfl (sto S fun s₈ S => ?_)))
    refine wpAny_execs_nil (strip4 (t2 := t5) hw hw' hz (by exact hm) (by exact hs) ?_ S h)
    rw [e]; rfl

theorem c_strip {msg : Value} {p nt tl wd : List Nat} (hm : IsStr msg (T (p ++ (nt ++ tl)))) (hp : ∀ c ∈ p, c ≠ 10 ∧ c ≠ 58) (hnt : nt = [] ∨ ∃ r, nt = 58 :: r) (hnt' : 10 ∉ nt) (htl : tl = [] ∨ ∃ r, tl = 10 :: r)
    (hw : p = wd ∨ ∃ q, p = q ++ 46 :: wd) (hw' : 46 ∉ wd) (hz : (p ++ (nt ++ tl)).length ≤ 100000)
    (B : Base w s.heap) (hA : Lv n A) (hn : n ≤ 19) (h : Back s (fun v _ => IsStr v (T wd)) Q) :
    wpAny (model prog w) A (call (.ref 50) [msg]) Q E s := by
  obtain ⟨t, rfl⟩ := hm
  refine callP [(Str.ofString "msg", _)] (d_strip _) B hA (by omega) (by rfl) (by rfl) fun s₁ L S hA' => ?_
  refine wpAny_execs_cons (Assign_Tuple_swapped (names := [Str.ofString "start", Str.ofString "end"]) ?_ (by rfl) (by rfl))
  refine Tuple_ (args_cons (kint S fun s₂ t₀ S => args_cons (Call_ (nm_len S.b (callWith_builtin1 (args_cons (rd S rfl (args_nil (lenT S (by omega) fun s₃ te S => ?_)))))))))
  refine args_nil (wpAny_newObj_type ?_ (by size_fits))
  have S := S.alloc { cls := .type "tuple", data := .seq #[.int 0 t₀, .int (p ++ (nt ++ tl)).length te] }
  refine unpackItems_tuple hA'.hd (items := #[.int 0 t₀, .int (p ++ (nt ++ tl)).length te]) ⟨_, Heap.get?_push_size _ rfl, rfl, _, rfl⟩ fun h' he => ?_
  have S := S.ext (s' := { s₃ with heap := h' }) ⟨_, _, rfl⟩ (fun b o e => he b o (Nat.ne_of_lt (Heap.lt_size e)) e)
  refine assignInOrder_cons (wpAny_bindName (sto S fun s₅ S => assignInOrder_cons (wpAny_bindName (sto S fun s₆ S => assignInOrder_nil ?_))))
  refine wpAny_execs_cons (wpAny_Assign_Name ?_)
  refine wpAny_Call_method_lateS rfl rfl rfl (rd S rfl ⟨"str", "str.find", F.plainAttrs_str, F.slot_str_find, F.type_str_find, typeIs_str _ _ _, (fun _ e => nomatch e), ?_⟩)
  refine callWith_method1 (args_cons (kstr S fun s₂ t3 S => args_nil ?_))
  rw [lit1]
  refine find2 S fun s₄ t5 S => sto S fun s₅ S => ?_
  have noP : ∀ k, k < (p ++ nt).length → (p ++ (nt ++ tl))[k]? ≠ some 10 := fun k hk hc => by
    rw [← List.append_assoc, List.getElem?_append_left hk] at hc
    rcases List.mem_append.mp (List.mem_of_getElem? hc) with q | q
    · exact (hp _ q).1 rfl
    · exact hnt' q
  have fin : ∀ v s', Sm s s' → Ext s.heap s'.heap → IsStr v (T wd) → Q v s' := h
  refine wpAny_execs_cons (ifGe0 S rfl fun s₆ S => ?_)
  rcases htl with rfl | ⟨r, rfl⟩
  · have e : fst (p ++ (nt ++ [])) 10 (p ++ (nt ++ [])).length = -1 := fst_none fun k hk => noP k (by simpa using hk)
    rw [e, if_neg (by omega)]
    refine wpAny_execs_nil (strip3 (t2 := te) (fun c hc => (hp c hc).2) hnt hw hw' hz (by rfl) (by rfl) ?_ S h)
    rw [List.append_nil]; rfl
  · have e : fst (p ++ (nt ++ 10 :: r)) 10 (p ++ (nt ++ 10 :: r)).length = (p ++ nt).length := fst_some (by simp) (by rw [← List.append_assoc]; simp) fun k hk => noP k hk
    rw [e, if_pos (by omega)]
    refine wpAny_execs_cons (wpAny_Assign_Name (rd S rfl (sto S fun s₈ S => ?_)))
    refine wpAny_execs_nil (strip3 (t2 := t5) (fun c hc => (hp c hc).2) hnt hw hw' hz (by rfl) (by rfl) ?_ S h)
    rw [e]; rfl
end
end Mine
end

section
open PySem PySem.W PyProof.Rows PySem.Calls PySem.SeqAt PySem.StrLaws PySem.Builtin PySem.Builtin.Str
set_option Elab.async false
set_option maxRecDepth 100000
set_option linter.unusedVariables false
namespace Mine
section
variable {r : Bool} {prog : Program} {w : World} {A : Around} {E : Value → Shared → Prop} {s₀ s s' : Shared} {n : Nat} {L : Addr} {C : List (Addr × Held)} {O : List (Addr × List Value)} {loc : List (Str × Value)} {Γ : Pred} {env : Env}

/-- what an iterator of v hands on, from the state s -/
def Src (prog : Program) (w : World) (A : Around) (v : Value) (s : Shared) (n : Nat) (P : Nat → Value → Prop) : Prop :=
  ∀ (Q : Value → Shared → Prop) (E : Value → Shared → Prop), (∀ (o : Obj) (fp : List Addr) (I : Nat → Heap → Prop), Walks prog w A s.heap.objs.size fp [s.heap.objs.size] n P I → I 0 (s.heap.push o) → (∀ b ∈ fp, b < s.heap.objs.size + 1) →
    (∀ i h, I i h → ∃ o, h.get? s.heap.objs.size = some o) → Q (.ref s.heap.objs.size) { s with heap := s.heap.push o }) → wpAny (model prog w) A (pyIter v) Q E s

theorem srcList {X : Addr → Prop} {v : Value} {vs : List Value} (hh : A.handled = none) (hl : Lst v vs X s.heap) : Src prog w A v s vs.length (fun i u => vs[i]? = some u) := by
  obtain ⟨a, rfl, _, hl⟩ := hl
  intro Q E h
  have hlt : a < s.heap.objs.size := by obtain ⟨o, ho, _⟩ := hl; exact Heap.lt_size ho
  refine wpAny_pyIter_list hl ?_
  have W := Walks.list (prog := prog) (w := w) hh s.heap.objs.size a (Nat.ne_of_lt hlt) vs.toArray
  have e1 : vs.toArray.size = vs.length := by simp
  rw [e1] at W
  have e2 : (fun (i : Nat) (u : Value) => vs.toArray[i]? = some u) = fun i u => vs[i]? = some u := by funext i u; simp
  rw [e2] at W
  refine h _ _ _ W ⟨⟨_, Heap.get?_push_size _ rfl, rfl, rfl⟩, hl.at fun o e => Heap.get?_push_of_some _ e⟩ (fun b hb => ?_) fun i h' x => ?_
  · rcases List.mem_cons.mp hb with rfl | hb
    · exact Nat.lt_succ_self _
    · rw [List.mem_singleton.mp hb]; exact Nat.lt_succ_of_lt hlt
  · obtain ⟨⟨o, ho, _⟩, _⟩ := x; exact ⟨o, ho⟩

abbrev testsOf (env : Env) (ifs : List Expr) : Sem Bool := forIn ifs true fun c r => if r = true then do let ok ← isTrue c env (eval c env); pure (ForInStep.yield ok) else pure (ForInStep.yield r)

/-- a state in a comprehension's turn: it reads alone -/
abbrev Turn (w : World) (C : Addr) (x : Str) (v : Value) (s : Shared) : Prop := St false w s C [] [] [(x, v)] none_ s

theorem turn_of {C : Addr} {x : Str} {v : Value} {m : Str → Option Value} (B : Base w s.heap) (hn : s.heap.Ns C m) (hm : m x = some v) : Turn w C x v s :=
  { sm := Sm.refl _, base := B, keep := Ext.refl _, ns := ⟨m, hn, fun y u e => by
      rw [List.lookup_cons] at e
      by_cases hy : y = x
      · subst hy; simp at e; subst e; exact hm
      · have : (y == x) = false := by simpa using hy
        rw [this] at e; cases e⟩, cells := (fun _ h => nomatch h), apart := (fun _ h => nomatch h), apO := (fun _ h => nomatch h), cnd := .nil, own := (fun _ h => nomatch h), ond := .nil, new := (fun e => nomatch e), newO := (fun _ h => nomatch h), fa := none_.fa, g := trivial }
theorem keeps_of {s₁ s₂ : Shared} (a : Sm s₁ s₂) (b : Ext s₁.heap s₂.heap) : Keeps s₁ s₂ := by
  obtain ⟨h, t, rfl⟩ := a; exact ⟨h, t, rfl, b⟩

theorem ext_of_push {h h' : Heap} {o : Obj} (k : ∀ b o', b ∉ [h.objs.size] → (h.push o).get? b = some o' → h'.get? b = some o') : Ext h h' := fun b o' e =>
  k b o' (fun m => by rw [List.mem_singleton.mp m] at e; exact absurd (Heap.lt_size e) (Nat.lt_irrefl _)) (Heap.get?_push_of_some _ e)
theorem not_old_push {h : Heap} {o : Obj} {D : Addr} (e : (h.push o).get? D = none) : ¬ Old h D := fun ⟨o', q⟩ => by rw [Heap.get?_push_of_some _ q] at e; cases e

theorem compV {elt iter : Expr} {x : Str} {px : Pos} {ifs : List Expr} {scope : Scope} {cl : List (Str × Addr)} {pos : Pos} {Q : Value → Shared → Prop} (p : Value → Bool) (F : Value → Value → Prop)
    (hclos : closureFor scope env = pure cl) (hcell : ∀ y ∈ scope.names, y.2 ≠ .cell) (hkind : scope.kind = .function)
    (hnames : ∀ y ∈ scope.names, y.2 = .local → scope.names.lookup y.1 = some .local) (hx : scope.names.lookup x = some .local)
    (h : wpAny (model prog w) A (eval iter env) (fun xv s₁ => ∃ n P, Src prog w A xv s₁ n P ∧ n ≤ sizeLine ∧ Base w s₁.heap ∧
      (∀ C i v s₃ E', P i v → Ext s₁.heap s₃.heap → Turn w C x v s₃ → wpAny (model prog w) A (testsOf (compEnvC scope cl C env) ifs) (fun ok s₄ => ok = p v ∧ Sm s₃ s₄ ∧ Ext s₃.heap s₄.heap) E' s₃) ∧
      (∀ C i v s₃ E', P i v → p v = true → Ext s₁.heap s₃.heap → Turn w C x v s₃ → wpAny (model prog w) A (eval elt (compEnvC scope cl C env)) (fun y s₄ => F v y ∧ Sm s₃ s₄ ∧ Ext s₃.heap s₄.heap) E' s₃) ∧
      (∀ D s' ys (vs : List Value), Sm s₁ s' → Ext s₁.heap s'.heap → ¬ Old s₁.heap D → s'.heap.PlainList D ys → vs.length = n → (∀ j v, vs[j]? = some v → P j v) → Paired F (vs.filter p) ys.toList → Q (.ref D) s')) E s)
    (hs : ∀ x, foldedSetIterable iter env x = pure x := by intro _; rfl) :
    wpAny (model prog w) A (eval (.ListComp elt [⟨.Name x px, iter, ifs, 0⟩] scope pos) env) Q E s := by
  refine wpAny_ListComp_free p F hclos hcell hkind hnames hx (wpAny_mono h (fun xv s₁ h₁ => ?_) fun _ _ e => e) hs
  obtain ⟨n, P, src, hz, B, ht, he, hQ⟩ := h₁
  refine src _ _ fun o fp I W hI hfp hlive => ?_
  refine ⟨_, fp, _, n, P, I, rfl, W, hz, hI, fun b hb => by rw [Heap.size_push]; exact hfp b hb, ⟨?_, ?_⟩, ?_⟩
  · intro C i v s₃ m₃ E' _ hP hn hm hk _
    have ex := ext_of_push hk
    exact wpAny_mono (ht C i v s₃ E' hP ex (turn_of (B.ext ex) hn hm)) (fun ok s₄ ⟨a, b, c⟩ => ⟨a, keeps_of b c⟩) fun _ _ e => e
  · intro C i v s₃ m₃ E' _ hP hp hn hm hk _
    have ex := ext_of_push hk
    exact wpAny_mono (he C i v s₃ E' hP hp ex (turn_of (B.ext ex) hn hm)) (fun ok s₄ ⟨a, b, c⟩ => ⟨a, keeps_of b c⟩) fun _ _ e => e
  · intro D h' tk ys vs hD _ hpl hlen hP hF hk
    exact hQ D _ ys vs ⟨_, _, rfl⟩ (ext_of_push hk) (not_old_push hD) hpl hlen hP hF

theorem compO {elt iter : Expr} {x : Str} {px : Pos} {ifs : List Expr} {scope : Scope} {cl : List (Str × Addr)} {pos : Pos} {Q : Value → Shared → Prop} (p : Value → Bool) (G : Value → Array Value → Prop)
    (hclos : closureFor scope env = pure cl) (hcell : ∀ y ∈ scope.names, y.2 ≠ .cell) (hkind : scope.kind = .function)
    (hnames : ∀ y ∈ scope.names, y.2 = .local → scope.names.lookup y.1 = some .local) (hx : scope.names.lookup x = some .local)
    (h : wpAny (model prog w) A (eval iter env) (fun xv s₁ => ∃ n P, Src prog w A xv s₁ n P ∧ n ≤ sizeLine ∧ Base w s₁.heap ∧
      (∀ C i v s₃ E', P i v → Ext s₁.heap s₃.heap → Turn w C x v s₃ → wpAny (model prog w) A (testsOf (compEnvC scope cl C env) ifs) (fun ok s₄ => ok = p v ∧ Sm s₃ s₄ ∧ Ext s₃.heap s₄.heap) E' s₃) ∧
      (∀ C i v s₃ E', P i v → p v = true → Ext s₁.heap s₃.heap → Turn w C x v s₃ → wpAny (model prog w) A (eval elt (compEnvC scope cl C env)) (fun y s₄ => (∃ a its, y = .ref a ∧ ¬ Old s₃.heap a ∧ s₄.heap.IsList a its ∧ G v its) ∧ Sm s₃ s₄ ∧ Ext s₃.heap s₄.heap) E' s₃) ∧
      (∀ D s' ys (vs : List Value), Sm s₁ s' → Ext s₁.heap s'.heap → ¬ Old s₁.heap D → s'.heap.PlainList D ys → vs.length = n → (∀ j v, vs[j]? = some v → P j v) →
        Paired (fun v y => ∃ a its, y = .ref a ∧ ¬ Old s₁.heap a ∧ s'.heap.IsList a its ∧ G v its) (vs.filter p) ys.toList → Q (.ref D) s')) E s)
    (hs : ∀ x, foldedSetIterable iter env x = pure x := by intro _; rfl) :
    wpAny (model prog w) A (eval (.ListComp elt [⟨.Name x px, iter, ifs, 0⟩] scope pos) env) Q E s := by
  refine wpAny_ListComp_freeO p G hclos hcell hkind hnames hx (wpAny_mono h (fun xv s₁ h₁ => ?_) fun _ _ e => e) hs
  obtain ⟨n, P, src, hz, B, ht, he, hQ⟩ := h₁
  refine src _ _ fun o fp I W hI hfp hlive => ?_
  refine ⟨_, fp, _, n, P, I, rfl, W, hz, fun i h x b hb => by rw [List.mem_singleton.mp hb]; exact hlive i h x, hI, fun b hb => by rw [Heap.size_push]; exact hfp b hb, ⟨?_, ?_⟩, ?_⟩
  · intro C i v s₃ m₃ E' _ hP hn hm hk _
    have ex := ext_of_push hk
    exact wpAny_mono (ht C i v s₃ E' hP ex (turn_of (B.ext ex) hn hm)) (fun ok s₄ ⟨a, b, c⟩ => ⟨a, keeps_of b c⟩) fun _ _ e => e
  · intro C i v s₃ m₃ E' _ hP hp hn hm hk _
    have ex := ext_of_push hk
    refine wpAny_mono (he C i v s₃ E' hP hp ex (turn_of (B.ext ex) hn hm)) (fun ok s₄ ⟨⟨a, its, e1, e2, e3, e4⟩, b, c⟩ => ⟨⟨a, its, e1, ?_, e3, e4⟩, keeps_of b c⟩) fun _ _ e => e
    cases q : s₃.heap.get? a with
    | none => rfl
    | some o => exact absurd ⟨o, q⟩ e2
  · intro D h' tk ys vs hD _ hpl hlen hP hF hnd _ hk
    exact hQ D _ ys vs ⟨_, _, rfl⟩ (ext_of_push hk) (not_old_push hD) hpl hlen hP (hF.mono fun v y ⟨a, its, e1, e2, e3, e4⟩ => ⟨a, its, e1, not_old_push e2, e3, e4⟩)
end
end Mine
end

section
open PySem PySem.W PyProof.Rows PySem.Calls PySem.SeqAt PySem.StrLaws PySem.Builtin PySem.Builtin.Str
set_option Elab.async false
set_option maxRecDepth 100000
set_option linter.unusedVariables false
namespace Mine
section
variable {r : Bool} {prog : Program} {w : World} {A : Around} {E : Value → Shared → Prop} {s₀ s s' : Shared} {n : Nat} {L : Addr} {C : List (Addr × Held)} {O : List (Addr × List Value)} {loc : List (Str × Value)} {Γ : Pred} {env : Env}

/-- y = [.. for x in ..] -/
theorem asgV {elt iter : Expr} {x y : Str} {px py : Pos} {ifs : List Expr} {scope : Scope} {cl : List (Str × Addr)} {pos spos : Pos} {Q : Flow → Shared → Prop} (p : Value → Bool) (F : Value → Value → Prop)
    (hsw : swapsWith (.ListComp elt [⟨.Name x px, iter, ifs, 0⟩] scope pos) (some (.Name y py)) spos.line env = pure true)
    (hclos : closureFor scope env = pure cl) (hcell : ∀ z ∈ scope.names, z.2 ≠ .cell) (hkind : scope.kind = .function)
    (hnames : ∀ z ∈ scope.names, z.2 = .local → scope.names.lookup z.1 = some .local) (hx : scope.names.lookup x = some .local)
    (hy : env.kindOf y = some .local) (hp : (env.scope.kind == .class || (env.scope.kind == .module && env.locals != env.globals)) = false)
    (h : wpAny (model prog w) A (eval iter env) (fun xv s₁ => ∃ n P, St true w s₀ env.locals C O loc Γ s₁ ∧ Src prog w A xv s₁ n P ∧ n ≤ sizeLine ∧
      (∀ C i v s₃ E', P i v → Ext s₁.heap s₃.heap → Turn w C x v s₃ → wpAny (model prog w) A (testsOf (compEnvC scope cl C env) ifs) (fun ok s₄ => ok = p v ∧ Sm s₃ s₄ ∧ Ext s₃.heap s₄.heap) E' s₃) ∧
      (∀ C i v s₃ E', P i v → p v = true → Ext s₁.heap s₃.heap → Turn w C x v s₃ → wpAny (model prog w) A (eval elt (compEnvC scope cl C env)) (fun y s₄ => F v y ∧ Sm s₃ s₄ ∧ Ext s₃.heap s₄.heap) E' s₃) ∧
      (∀ D s' ys (vs : List Value), St true w s₀ env.locals C O ((y, .ref D) :: loc) Γ s' → ¬ Old s₁.heap D → s'.heap.PlainList D ys → vs.length = n → (∀ j v, vs[j]? = some v → P j v) → Paired F (vs.filter p) ys.toList → Q .next s')) E s)
    (hs : ∀ x, foldedSetIterable iter env x = pure x := by intro _; rfl) :
    wpAny (model prog w) A (exec (.Assign [.Name y py] (.ListComp elt [⟨.Name x px, iter, ifs, 0⟩] scope pos) spos) env) Q E s := by
  refine wpAny_Assign_ListComp_free p F hsw hclos hcell hkind hnames hx hy hp (wpAny_mono h (fun xv s₁ h₁ => ?_) fun _ _ e => e) hs
  obtain ⟨n, P, S, src, hz, ht, he, hQ⟩ := h₁
  refine src _ _ fun o fp I W hI hfp hlive => ?_
  obtain ⟨m, hm, hml⟩ := S.ns
  refine ⟨_, fp, _, n, P, I, m, rfl, W, hz, hI, fun b hb => by rw [Heap.size_push]; exact hfp b hb, fun q => ?_, hm.push _, ⟨?_, ?_⟩, ?_⟩
  · exact absurd hm.lt (by rw [List.mem_singleton.mp q]; exact Nat.lt_irrefl _)
  · intro C i v s₃ m₃ E' _ hP hn hm hk _
    have ex := ext_of_push hk
    exact wpAny_mono (ht C i v s₃ E' hP ex (turn_of (S.b.ext ex) hn hm)) (fun ok s₄ ⟨a, b, c⟩ => ⟨a, keeps_of b c⟩) fun _ _ e => e
  · intro C i v s₃ m₃ E' _ hP hp hn hm hk _
    have ex := ext_of_push hk
    exact wpAny_mono (he C i v s₃ E' hP hp ex (turn_of (S.b.ext ex) hn hm)) (fun ok s₄ ⟨a, b, c⟩ => ⟨a, keeps_of b c⟩) fun _ _ e => e
  · intro D h' tk ys vs hD _ hpl hlen hP hF hns hk
    refine hQ D _ ys vs (S.local (h' := h') (t := tk) ⟨m, hns, hml⟩ fun b o' hb e => ?_) (not_old_push hD) hpl hlen hP hF
    exact hk b o' hb (fun q => by rw [List.mem_singleton.mp q] at e; exact absurd (Heap.lt_size e) (Nat.lt_irrefl _)) (Heap.get?_push_of_some _ e)

theorem asgO {elt iter : Expr} {x y : Str} {px py : Pos} {ifs : List Expr} {scope : Scope} {cl : List (Str × Addr)} {pos spos : Pos} {Q : Flow → Shared → Prop} (p : Value → Bool) (G : Value → Array Value → Prop)
    (hsw : swapsWith (.ListComp elt [⟨.Name x px, iter, ifs, 0⟩] scope pos) (some (.Name y py)) spos.line env = pure true)
    (hclos : closureFor scope env = pure cl) (hcell : ∀ z ∈ scope.names, z.2 ≠ .cell) (hkind : scope.kind = .function)
    (hnames : ∀ z ∈ scope.names, z.2 = .local → scope.names.lookup z.1 = some .local) (hx : scope.names.lookup x = some .local)
    (hy : env.kindOf y = some .local) (hp : (env.scope.kind == .class || (env.scope.kind == .module && env.locals != env.globals)) = false)
    (h : wpAny (model prog w) A (eval iter env) (fun xv s₁ => ∃ n P, St true w s₀ env.locals C O loc Γ s₁ ∧ Src prog w A xv s₁ n P ∧ n ≤ sizeLine ∧
      (∀ C i v s₃ E', P i v → Ext s₁.heap s₃.heap → Turn w C x v s₃ → wpAny (model prog w) A (testsOf (compEnvC scope cl C env) ifs) (fun ok s₄ => ok = p v ∧ Sm s₃ s₄ ∧ Ext s₃.heap s₄.heap) E' s₃) ∧
      (∀ C i v s₃ E', P i v → p v = true → Ext s₁.heap s₃.heap → Turn w C x v s₃ → wpAny (model prog w) A (eval elt (compEnvC scope cl C env)) (fun y s₄ => (∃ a its, y = .ref a ∧ ¬ Old s₃.heap a ∧ s₄.heap.IsList a its ∧ G v its) ∧ Sm s₃ s₄ ∧ Ext s₃.heap s₄.heap) E' s₃) ∧
      (∀ D s' ys (vs : List Value), St true w s₀ env.locals C O ((y, .ref D) :: loc) Γ s' → ¬ Old s₁.heap D → s'.heap.PlainList D ys → vs.length = n → (∀ j v, vs[j]? = some v → P j v) →
        Paired (fun v y => ∃ a its, y = .ref a ∧ ¬ Old s₁.heap a ∧ s'.heap.IsList a its ∧ G v its) (vs.filter p) ys.toList → Q .next s')) E s)
    (hs : ∀ x, foldedSetIterable iter env x = pure x := by intro _; rfl) :
    wpAny (model prog w) A (exec (.Assign [.Name y py] (.ListComp elt [⟨.Name x px, iter, ifs, 0⟩] scope pos) spos) env) Q E s := by
  rw [exec_Assign_Name_used _ _ _ _ hsw]
  refine wpAny_bind (wpAny_standAt (wpAny_bind ?_))
  show wpAny _ A (do let _ ← comprehension (.ListComp elt [⟨.Name x px, iter, ifs, 0⟩] scope pos) scope env _ (newList []) false (eval iter env) (some (assign (.Name y py) env))) _ _ s
  refine wpAny_bind (wpAny_mono (wpAny_comprehension_free (use := some (assign (.Name y py) env)) (Q := fun _ s' => Q .next s') rfl hs hclos hkind hnames
    (wpAny_mono h (fun xv s₁ h₁ => ?_) fun _ _ e => e)) (fun _ s' hq => wpAny_pure (wpAny_pure hq)) fun _ _ e => e)
  obtain ⟨n, P, S, src, hz, ht, he, hQ⟩ := h₁
  refine src _ _ fun o fp I W hI hfp hlive => ?_
  obtain ⟨m, hm, hml⟩ := S.ns
  refine comp_block_walkCO (RR := fun acc C => compPost (model prog w) A E (some (assign (.Name y py) env)) (fun _ s' => Q .next s') acc C) W hz p G (fun i h x b hb => by rw [List.mem_singleton.mp hb]; exact hlive i h x) hcell hkind hx hI
    (fun b hb => by rw [Heap.size_push]; exact hfp b hb) ⟨?_, ?_⟩ ?_
  · intro C i v s₃ m₃ E' _ hP hn hm hk _
    have ex := ext_of_push hk
    exact wpAny_mono (ht C i v s₃ E' hP ex (turn_of (S.b.ext ex) hn hm)) (fun ok s₄ ⟨a, b, c⟩ => ⟨a, keeps_of b c⟩) fun _ _ e => e
  · intro C i v s₃ m₃ E' _ hP hp hn hm hk _
    have ex := ext_of_push hk
    refine wpAny_mono (he C i v s₃ E' hP hp ex (turn_of (S.b.ext ex) hn hm)) (fun ok s₄ ⟨⟨a, its, e1, e2, e3, e4⟩, b, c⟩ => ⟨⟨a, its, e1, ?_, e3, e4⟩, keeps_of b c⟩) fun _ _ e => e
    cases q : s₃.heap.get? a with
    | none => rfl
    | some o => exact absurd ⟨o, q⟩ e2
  · intro D C' h' tk m' ys vs hD hC hDC hnC hlD hplD hlen hP hF hnd hk
    have ex := ext_of_push hk
    have hLC : env.locals ≠ C' := by
      rintro q; obtain ⟨oo, _, _, ho, _⟩ := hm; rw [← q] at hC; rw [Heap.get?_push_of_some _ ho] at hC; cases hC
    have hLD : env.locals ≠ D := by
      rintro q; obtain ⟨oo, _, _, ho, _⟩ := hm; rw [← q] at hD; rw [Heap.get?_push_of_some _ ho] at hD; cases hD
    show wpAny _ A (assign (.Name y py) env (.ref D)) _ _ _
    refine PySem.wpAny_assign_Name (wpAny_storeName_local hy (hm.keeps ex) (fun h₂ hn₂ hs₂ => ?_) hp)
    refine ⟨m', hnC.sameBut hs₂ (Ne.symm hLC), fun h₃ hs₃ => ?_⟩
    have up : ∀ b o', b ≠ env.locals → b ≠ C' → h'.get? b = some o' → h₃.get? b = some o' := fun b o' h1 h2 e => hs₃.extBut b o' h2 (hs₂.extBut b o' h1 e)
    refine hQ D { s₁ with heap := h₃, toks := tk + 1 } ys vs (S.local (h' := h₃) (t := tk + 1) ⟨m, hn₂.sameBut hs₃ hLC, hml⟩ fun b o' hb e => ?_) (not_old_push hD) ((hplD.extBut hs₂.extBut (Ne.symm hLD)).extBut hs₃.extBut hDC) hlen hP (hF.mono fun v y' ⟨a, its, e1, e2, hC', _, _, e3, e4⟩ => ⟨a, its, e1, not_old_push e2, ?_, e4⟩)
    · exact up b o' hb (fun q => by rw [← q, Heap.get?_push_of_some _ e] at hC; cases hC) (ex b o' e)
    · have hLa : a ≠ env.locals := by
        rintro rfl; obtain ⟨oo, _, _, ho, _⟩ := hm; rw [Heap.get?_push_of_some _ ho] at e2; cases e2
      exact (e3.extBut hs₂.extBut hLa).extBut hs₃.extBut hC'
end
end Mine
end

section
open PySem PySem.W PyProof.Rows PySem.Calls PySem.SeqAt PySem.StrLaws PySem.Builtin PySem.Builtin.Str
set_option Elab.async false
set_option maxRecDepth 100000
set_option linter.unusedVariables false
namespace Mine
section
variable {r : Bool} {prog : Program} {w : World} {A : Around} {E : Value → Shared → Prop} {s₀ s s' : Shared} {n : Nat} {L : Addr} {C : List (Addr × Held)} {O : List (Addr × List Value)} {loc : List (Str × Value)} {Γ : Pred} {env : Env} {Q : Value → Shared → Prop}

theorem srcTup {X : Addr → Prop} {v : Value} {vs : List Value} (hh : A.handled = none) (hl : Tpl v vs X s.heap) : Src prog w A v s vs.length (fun i u => vs[i]? = some u) := by
  obtain ⟨a, rfl, _, hl⟩ := hl
  intro Q E h
  have hlt : a < s.heap.objs.size := by obtain ⟨o, ho, _⟩ := hl; exact Heap.lt_size ho
  refine wpAny_pyIter_tuple hl ?_
  have W := Walks.tuple (prog := prog) (w := w) hh s.heap.objs.size a (Nat.ne_of_lt hlt) vs.toArray
  have e1 : vs.toArray.size = vs.length := by simp
  rw [e1] at W
  have e2 : (fun (i : Nat) (u : Value) => vs.toArray[i]? = some u) = fun i u => vs[i]? = some u := by funext i u; simp
  rw [e2] at W
  refine h _ _ _ W ⟨⟨_, Heap.get?_push_size _ rfl, rfl, rfl⟩, ?_⟩ (fun b hb => ?_) fun i h' x => ?_
  · obtain ⟨o, ho, q⟩ := hl; exact ⟨o, Heap.get?_push_of_some _ ho, q⟩
  · rcases List.mem_cons.mp hb with rfl | hb
    · exact Nat.lt_succ_self _
    · rw [List.mem_singleton.mp hb]; exact Nat.lt_succ_of_lt hlt
  · obtain ⟨⟨o, ho, _⟩, _⟩ := x; exact ⟨o, ho⟩

theorem srcStr {l : List Nat} {t : Tok} (hh : A.handled = none) : Src prog w A (.str (T l) t) s l.length (fun i u => ∃ c t, l[i]? = some c ∧ u = .str (T [c]) t) := by
  intro Q E h
  have e1 : (T l).cps.size = l.length := by simp [T]
  have e2 : SignAt (T l) = fun i u => ∃ c t, l[i]? = some c ∧ u = .str (T [c]) t := by funext i u; simp [SignAt, T]
  cases ha : (T l).cps.all (· < 128)
  · have W := Walks.strWide (prog := prog) (w := w) hh s.heap.objs.size (T l) t
    rw [e1, e2] at W
    exact wpAny_pyIter_wide ha (h _ _ _ W ⟨_, Heap.get?_push_size _ rfl, rfl, rfl⟩ (fun b hb => by rw [List.mem_singleton.mp hb]; exact Nat.lt_succ_self _) fun i h' ⟨o, ho, _⟩ => ⟨o, ho⟩)
  · have W := Walks.strAscii (prog := prog) (w := w) hh s.heap.objs.size (T l) t
    rw [e1, e2] at W
    exact wpAny_pyIter_ascii ha (h _ _ _ W ⟨_, Heap.get?_push_size _ rfl, rfl, rfl⟩ (fun b hb => by rw [List.mem_singleton.mp hb]; exact Nat.lt_succ_self _) fun i h' ⟨o, ho, _⟩ => ⟨o, ho⟩)

theorem srcByt {b : Array UInt8} {t : Tok} (hh : A.handled = none) : Src prog w A (.bytes b t) s b.size (fun i u => ∃ c t, b[i]? = some c ∧ u = .int (c.toNat : Int) t) := by
  intro Q E h
  exact KBw.pyIter_bytes (h _ _ _ (KBw.walks hh s.heap.objs.size b t) ⟨_, Heap.get?_push_size _ rfl, rfl, rfl⟩ (fun b hb => by rw [List.mem_singleton.mp hb]; exact Nat.lt_succ_self _) fun i h' ⟨o, ho, _⟩ => ⟨o, ho⟩)

theorem srcRange {rg : Addr} {n : Nat} {t u v : Tok} (hh : A.handled = none) (hr : IsRange s.heap rg 0 n 1 t u v) (hn : n ≤ 1000000) : Src prog w A (.ref rg) s n (fun i u => ∃ t, u = .int (i : Int) t) := by
  intro Q E h
  have W := (Walks.range (prog := prog) (w := w) hh s.heap.objs.size 0 1 n)
  have e2 : (fun (i : Nat) (u : Value) => ∃ t, u = .int ((0 : Int) + (i : Int) * 1) t) = fun i u => ∃ t, u = .int (i : Int) t := by funext i u; simp
  rw [e2] at W
  refine wpAny_pyIter_range hr (small_one (by omega) (by omega) (by omega) (by omega)) (h _ _ _ W ?_ (fun b hb => by rw [List.mem_singleton.mp hb]; exact Nat.lt_succ_self _) fun i h' x => ⟨_, x⟩)
  have e3 : Builtin.Range.rangeSize 0 (n : Int) 1 = (n : Int) := by rw [rangeSize_nat]; simp
  show IsRangeIter _ _ _ _ _
  rw [e3]
  simpa using Heap.get?_push_size _ rfl

theorem noTests {x : Str} {v : Value} {s₃ : Shared} {e : Env} {E' : Value → Shared → Prop} : wpAny (model prog w) A (testsOf e []) (fun ok s₄ => ok = true ∧ Sm s₃ s₄ ∧ Ext s₃.heap s₄.heap) E' s₃ :=
  wpAny_pure ⟨rfl, Sm.refl _, Ext.refl _⟩
end
end Mine
end

section
open PySem PySem.W PyProof.Rows PySem.Calls PySem.SeqAt PySem.StrLaws PySem.Builtin PySem.Builtin.Str
set_option Elab.async false
set_option maxRecDepth 100000
set_option linter.unusedVariables false
namespace Mine
section
variable {r : Bool} {prog : Program} {w : World} {A : Around} {E : Value → Shared → Prop} {s₀ s s' : Shared} {n : Nat} {L : Addr} {C : List (Addr × Held)} {O : List (Addr × List Value)} {loc : List (Str × Value)} {Γ : Pred} {env : Env} {Q : Value → Shared → Prop}

/-- the octets of a text -/
def B8 (l : List Nat) : Array UInt8 := (l.map Nat.toUInt8).toArray

theorem ints_of {X : Addr → Prop} {h : Heap} {vs : List Value} {ns : List Int} (p : All cI vs ns X h) : IntsAre vs ns := by
  unfold All at p
  induction p with
  | nil => exact .nil
  | cons h _ ih => obtain ⟨t, rfl⟩ := h; exact .cons _ _ ih

/-- what a comprehension gives back, by each place -/
theorem paired_get {α β γ : Type} {F : α → β → Prop} {R : β → γ → Prop} {vs : List α} {ys : List β} (p : Paired F vs ys) : ∀ (l : List γ) (P : Nat → α → Prop), vs.length = l.length → (∀ j v, vs[j]? = some v → P j v) →
    (∀ j v y, P j v → F v y → ∃ c, l[j]? = some c ∧ R y c) → Paired R ys l := by
  induction p with
  | nil =>
    intro l P hl _ _
    cases l with
    | nil => exact .nil
    | cons _ _ => simp at hl
  | @cons a b vs ys h t ih =>
    intro l P hl hP hR
    cases l with
    | nil => simp at hl
    | cons c l =>
      obtain ⟨c', e, q⟩ := hR 0 a b (hP 0 a rfl) h
      simp at e; subst e
      refine .cons q (ih l (fun j => P (j + 1)) (by simpa using hl) (fun j v e => hP (j + 1) v (by simpa using e)) fun j v y hp hf => ?_)
      obtain ⟨c, e, q⟩ := hR (j + 1) v y hp hf
      exact ⟨c, by simpa using e, q⟩

theorem filter_true {α : Type} (l : List α) : l.filter (fun _ => true) = l := by simp

theorem plain_list {h : Heap} {a : Addr} {ys : Array Value} (p : h.PlainList a ys) : h.IsList a ys := p.isList

theorem ints_codes {ys : List Value} {l : List Nat} (p : Paired (fun y c => IsInt y ((c : Nat) : Int)) ys l) : IntsAre ys (l.map fun c => ((c : Nat) : Int)) := by
  induction p with
  | nil => exact .nil
  | cons h _ ih => obtain ⟨u, rfl⟩ := h; exact .cons _ _ ih

theorem c_octets {text : Value} {l : List Nat} (hm : IsStr text (T l)) (hl : ∀ c ∈ l, c < 256) (hz : l.length ≤ 100000)
    (B : Base w s.heap) (hA : Lv n A) (hn : n ≤ 19) (h : Back s (fun v _ => IsByt v (B8 l)) Q) :
    wpAny (model prog w) A (call (.ref 102) [text]) Q E s := by
  obtain ⟨t, rfl⟩ := hm
  refine callP [(Str.ofString "text", _)] (d_octets _) B hA (by omega) (by rfl) (by rfl) fun s₁ L S hA' => ?_
  refine wpAny_execs_cons (wpAny_Return_some (Call_ (nm_bytes S.b ?_)))
  refine PyProof.Rows.callWith_type1 (args_cons (compV (fun _ => true) (fun v y => ∃ c t, v = .str (T [c]) t ∧ IsInt y (c : Nat)) (cl := []) (by rfl) (by decide) (by rfl) (by decide) (by decide) ?_))
  refine rd S rfl ⟨_, _, srcStr hA'.hd, by show _ ≤ 16777216; omega, S.b, fun _ _ _ _ _ _ _ _ => noTests (x := Str.empty) (v := .none), ?_, ?_⟩
  · rintro C i v s₃ E' ⟨c, t, hc, rfl⟩ _ ex St₃
    refine Call_ (nm_ord St₃.b (callWith_builtin1 (args_cons (rd St₃ rfl (args_nil (P.ord_of_char ?_))))))
    exact ⟨⟨c, t, rfl, _, rfl⟩, ⟨_, _, rfl⟩, Ext.refl _⟩
  · intro D s' ys vs sm ex hD hpl hlen hP hF
    have S := S.ext sm ex
    rw [filter_true] at hF
    have hi : Paired (fun y c => IsInt y ((c : Nat) : Int)) ys.toList l := paired_get hF l _ hlen hP (by
      rintro j v y ⟨c, t, e, rfl⟩ ⟨c', t', e', q⟩
      cases e'
      exact ⟨c, e, q⟩)
    have hi' := ints_codes hi
    have hsz : ys.toList.length = l.length := by have := hi'.length; simpa using this
    refine args_nil (call_bytes_ints (vs := ys.toList) (by simpa using hpl.isList) hi' ?_ (by rw [hsz]; show _ ≤ 16777216; omega) hA'.hd fun h' t' k hk => ?_)
    · intro m hm
      obtain ⟨c, hc, rfl⟩ := List.mem_map.mp hm
      have := hl c hc
      exact ⟨by omega, by omega⟩
    · have S := S.ext (s' := { s' with heap := h', toks := k }) ⟨_, _, rfl⟩ hk
      refine h _ _ S.sm S.keep ⟨t', ?_⟩
      congr 1
      unfold byteArr B8
      rw [List.map_map]
      rfl
end
end Mine
end

section
open PySem PySem.W PyProof.Rows PySem.Calls PySem.SeqAt PySem.StrLaws PySem.Builtin PySem.Builtin.Str
set_option Elab.async false
set_option maxRecDepth 100000
set_option linter.unusedVariables false
namespace Mine
section
variable {r : Bool} {prog : Program} {w : World} {A : Around} {E : Value → Shared → Prop} {s₀ s s' : Shared} {n : Nat} {L : Addr} {C : List (Addr × Held)} {O : List (Addr × List Value)} {loc : List (Str × Value)} {Γ : Pred} {env : Env} {Q : Value → Shared → Prop}

theorem addT {a b : List Nat} {t u : Tok} (S : St r w s₀ L C O loc Γ s) (hz : (a ++ b).length ≤ 1000000) (h : ∀ s' t', St r w s₀ L C O loc Γ s' → Q (.str (T (a ++ b)) t') s') :
    wpAny (model prog w) A (binaryOp .Add (.str (T a) t) (.str (T b) u)) Q E s := by
  refine P.add_str ?_
  rw [T_len, T_len]
  by_cases ha : a.length = 0
  · have : a = [] := List.length_eq_zero_iff.mp ha
    subst this
    simp only [List.length_nil, beq_self_eq_true, if_true]
    exact h _ _ S
  · have e : (a.length == 0) = false := by simpa using ha
    rw [e]
    by_cases hb : b.length = 0
    · have : b = [] := List.length_eq_zero_iff.mp hb
      subst this
      simp only [List.length_nil, beq_self_eq_true, if_true, Bool.false_eq_true, if_false]
      rw [List.append_nil] at h
      exact h _ _ S
    · have e : (b.length == 0) = false := by simpa using hb
      rw [e]
      simp only [Bool.false_eq_true, if_false]
      rw [T_add]
      exact ⟨by rw [T_len]; show _ ≤ 16777216; omega, h _ _ (S.tk _)⟩

/-- a list that the frame owns is made -/
theorem ownNew {vs : List Value} (S : St r w s₀ L C O loc Γ s) (hz : vs.length ≤ 1000000) (h : ∀ D s', St r w s₀ L C ((D, vs) :: O) loc Γ s' → Q (.ref D) s') :
    wpAny (model prog w) A (newList vs) Q E s := by
  refine wpAny_newObj_type ?_ (by show vs.toArray.size ≤ 16777216; simp; omega)
  have no : ¬ Old s.heap s.heap.objs.size := fun ⟨o, e⟩ => absurd (Heap.lt_size e) (Nat.lt_irrefl _)
  have e : Ext s.heap (s.heap.push { cls := .type "list", data := .seq vs.toArray }) := Ext.push _ _
  have S' := S.alloc { cls := .type "list", data := .seq vs.toArray }
  refine h s.heap.objs.size _ { S' with own := ?_, ond := ?_, newO := ?_, apO := ?_, g := ?_ }
  · intro p hp
    rw [List.map_cons]
    exact fun q => (List.mem_cons.mp q).elim (fun q => no ((show p.1 = s.heap.objs.size from q) ▸ (S.cells p hp).live)) (S.apO p hp)
  · intro p hp
    rcases List.mem_cons.mp hp with rfl | hp
    · exact ⟨0, Heap.get?_push_size _ rfl⟩
    · exact S'.own p hp
  · rw [List.map_cons, List.nodup_cons]
    refine ⟨fun hm => ?_, S.ond⟩
    obtain ⟨p, hp, q⟩ := List.mem_map.mp hm
    obtain ⟨n, ho⟩ := S.own p hp
    exact no ⟨_, q ▸ ho⟩
  · intro p hp
    rcases List.mem_cons.mp hp with rfl | hp
    · exact fun q => no (q.ext S.keep)
    · exact S.newO p hp
  · refine S.fa.mono _ _ _ e.kp (S.fa.grow _ _ _ (fun b hb => ?_) S.g)
    rcases List.mem_append.mp hb with hb | hb
    · exact .inl (List.mem_append_left _ hb)
    rcases List.mem_cons.mp hb with rfl | hb
    · refine .inr ?_
      cases q : s.heap.get? s.heap.objs.size with
      | none => rfl
      | some o => exact absurd ⟨o, q⟩ no
    · exact .inl (List.mem_append_right _ hb)

/-- the owned list at D turns -/
theorem St.set (S : St r w s₀ L C O loc Γ s) {D : Addr} {vs vs' : List Value} {O' : List (Addr × List Value)} {h' : Heap} (hD : (D, vs) ∈ O) (hO : O'.map (·.1) = O.map (·.1))
    (hO' : ∀ p ∈ O', p = (D, vs') ∨ (p ∈ O ∧ p.1 ≠ D)) (hp : h'.PlainList D vs'.toArray) (hs : Heap.SameBut D s.heap h') : St r w s₀ L C O' loc Γ { s with heap := h' } := by
  obtain ⟨n, ho⟩ := S.own _ hD
  exact {
    sm := S.sm.set h' s.toks
    base := S.base
    keep := fun b o e => hs.extBut b o (fun q => S.newO _ hD ⟨o, q ▸ e⟩) (S.keep b o e)
    ns := by
      obtain ⟨m, a, b⟩ := S.ns
      refine ⟨m, a.sameBut hs ?_, b⟩
      obtain ⟨o', es, ep, ho', hd', _⟩ := a
      rintro rfl
      rw [ho'] at ho; cases ho; cases hd'
    cells := fun p hp => (S.cells p hp).by fun o => hs.extBut p.1 o fun e => S.apO p hp (List.mem_map.mpr ⟨_, hD, e.symm⟩)
    apart := S.apart
    apO := fun p hp => hO ▸ S.apO p hp
    cnd := S.cnd
    own := fun p hpO => by
      rcases hO' p hpO with rfl | ⟨hpO, hne⟩
      · exact hp
      · obtain ⟨n, q⟩ := S.own p hpO
        exact ⟨n, hs.extBut _ _ hne q⟩
    ond := hO ▸ S.ond
    new := S.new
    newO := fun p hpO => by
      have : p.1 ∈ O.map (·.1) := hO ▸ List.mem_map.mpr ⟨p, hpO, rfl⟩
      obtain ⟨q, hq, e⟩ := List.mem_map.mp this
      exact e ▸ S.newO q hq
    fa := S.fa
    g := by
      show Γ (· ∈ C.map (·.1) ++ O'.map (·.1)) h'
      rw [hO]
      exact S.fa.mono _ _ _ (fun b o hb e _ => hs.extBut b o (fun q => hb (List.mem_append_right _ (List.mem_map.mpr ⟨_, hD, q.symm⟩))) e) S.g }

/-- append to the list owned first -/
theorem append1 {D : Addr} {vs : List Value} {x : Value} {Q : Value → Shared → Prop} (S : St r w s₀ L C ((D, vs) :: O) loc Γ s) (hz : vs.length ≤ 1000000) (h : ∀ s', St r w s₀ L C ((D, vs ++ [x]) :: O) loc Γ s' → Q .none s') :
    wpAny (model prog w) A (call (.builtin "list.append") [.ref D, x]) Q E s := by
  refine wpAny_list_append_plain (S.own _ (.head _)) (fun h' hp hs => h _ (S.set (.head _) (by simp) (fun p hm => ?_) (by simpa using hp) hs)) (by show vs.toArray.size ≤ 16777216; simp; omega)
  rcases List.mem_cons.mp hm with rfl | hm
  · exact .inl rfl
  · refine .inr ⟨.tail _ hm, fun e => ?_⟩
    have := S.ond
    rw [List.map_cons, List.nodup_cons] at this
    exact this.1 (List.mem_map.mpr ⟨p, hm, e⟩)
/-- append to the list owned second -/
theorem append2 {D D' : Addr} {vs vs' : List Value} {x : Value} {Q : Value → Shared → Prop} (S : St r w s₀ L C ((D', vs') :: (D, vs) :: O) loc Γ s) (hz : vs.length ≤ 1000000) (h : ∀ s', St r w s₀ L C ((D', vs') :: (D, vs ++ [x]) :: O) loc Γ s' → Q .none s') :
    wpAny (model prog w) A (call (.builtin "list.append") [.ref D, x]) Q E s := by
  refine wpAny_list_append_plain (S.own _ (.tail _ (.head _))) (fun h' hp hs => h _ (S.set (.tail _ (.head _)) (by simp) (fun p hm => ?_) (by simpa using hp) hs)) (by show vs.toArray.size ≤ 16777216; simp; omega)
  have nd := S.ond
  simp only [List.map_cons, List.nodup_cons, List.mem_cons, not_or] at nd
  rcases List.mem_cons.mp hm with rfl | hm
  · exact .inr ⟨.head _, nd.1.1⟩
  rcases List.mem_cons.mp hm with rfl | hm
  · exact .inl rfl
  · exact .inr ⟨.tail _ (.tail _ hm), fun e => nd.2.1 (List.mem_map.mpr ⟨p, hm, e⟩)⟩

theorem app1 {D : Addr} {vs : List Value} {x : Value} {K : Shared → Prop} (S : St r w s₀ L C ((D, vs) :: O) loc Γ s) (hz : vs.length ≤ 1000000) (h : ∀ s', St r w s₀ L C ((D, vs ++ [x]) :: O) loc Γ s' → K s') :
    wpAny (model prog w) A (call (.builtin "list.append") [.ref D, x]) (fun v s₃ => v = .none ∧ K s₃) E s := append1 S hz fun s' S' => ⟨rfl, h s' S'⟩
theorem app2 {D D' : Addr} {vs vs' : List Value} {x : Value} {K : Shared → Prop} (S : St r w s₀ L C ((D', vs') :: (D, vs) :: O) loc Γ s) (hz : vs.length ≤ 1000000) (h : ∀ s', St r w s₀ L C ((D', vs') :: (D, vs ++ [x]) :: O) loc Γ s' → K s') :
    wpAny (model prog w) A (call (.builtin "list.append") [.ref D, x]) (fun v s₃ => v = .none ∧ K s₃) E s := append2 S hz fun s' S' => ⟨rfl, h s' S'⟩

/-- what the frame owns, as a list -/
theorem St.owned (S : St r w s₀ L C O loc Γ s) {D : Addr} {vs : List Value} (hD : (D, vs) ∈ O) : Lst (.ref D) vs (fun _ => False) s.heap := ⟨D, rfl, id, (S.own _ hD).isList⟩
theorem St.ownedNew (S : St r w s₀ L C O loc Γ s) {D : Addr} {vs : List Value} (hD : (D, vs) ∈ O) : Lst (.ref D) vs (Old s₀.heap) s.heap := ⟨D, rfl, S.newO _ hD, (S.own _ hD).isList⟩

theorem appendStmt {o elt : Expr} {apos pos pos' : Pos} {Q : Flow → Shared → Prop} {env : Env} {rest : List Stmt}
    (h : wpAny (model prog w) A (eval o env) (fun ov s₁ => ∃ D its, ov = .ref D ∧ s₁.heap.PlainList D its ∧
      wpAny (model prog w) A (eval elt env) (fun y s₂ => wpAny (model prog w) A (call (.builtin "list.append") [.ref D, y]) (fun v s₃ => v = .none ∧ wpAny (model prog w) A (execs rest env) Q E s₃) E s₂) E s₁) E s)
    (hbase : attributeBase o "append" env (eval o env) = eval o env := by rfl) (hst : starEach [elt] env = [(false, eval elt env)] := by rfl)
    (hline : (apos.endLine == pos.line) = true := by rfl)
    (hi : interactive env = false := by rfl) (hs : swapsWith (.Call (.Attribute o "append" apos) [elt] [] pos) none pos'.line env = pure false := by rfl) :
    wpAny (model prog w) A (execs (.Expr (.Call (.Attribute o "append" apos) [elt] [] pos) pos' :: rest) env) Q E s := by
  refine wpAny_execs_cons (wpAny_Expr ?_ hi hs)
  refine wpAny_Call_append hbase (by rw [hst]; rfl) hline (by rw [hst]; rfl) (wpAny_mono h (fun ov s₁ h₁ => ?_) fun _ _ e => e)
  obtain ⟨D, its, rfl, ⟨n, hp⟩, hc⟩ := h₁
  refine ⟨D, its, rfl, ⟨_, n, hp, rfl, rfl, rfl⟩, wpAny_mono hc (fun y s₂ h₂ => wpAny_mono h₂ (fun v s₃ h₃ => ?_) fun _ _ e => e) fun _ _ e => e⟩
  obtain ⟨rfl, h₃⟩ := h₃
  exact h₃
end
end Mine
end

section
open PySem PySem.W PyProof.Rows PySem.Calls PySem.SeqAt PySem.StrLaws PySem.Builtin PySem.Builtin.Str
set_option Elab.async false
set_option maxRecDepth 100000
set_option linter.unusedVariables false
namespace Mine
def joinL (sep : List Nat) : List (List Nat) → List Nat
  | [] => []
  | [x] => x
  | x :: y :: r => x ++ sep ++ joinL sep (y :: r)
theorem join_T (sep : List Nat) : ∀ ws : List (List Nat), Str.join (T sep) (ws.map T) = T (joinL sep ws)
  | [] => rfl
  | [x] => rfl
  | x :: y :: r => by
    have ih := join_T sep (y :: r)
    simp only [List.map_cons] at ih ⊢
    rw [joinL, Str.join, ih, T_add, T_add]
    simp
theorem joinL_chars : ∀ l : List Nat, joinL [] (l.map fun c => [c]) = l
  | [] => rfl
  | [c] => rfl
  | c :: d :: r => by
    have ih := joinL_chars (d :: r)
    simp only [List.map_cons] at ih ⊢
    rw [joinL, ih]; simp
theorem joinL_length (sep : List Nat) : ∀ ws : List (List Nat), (joinL sep ws).length ≤ (ws.map List.length).sum + ws.length * sep.length
  | [] => by simp [joinL]
  | [x] => by simp [joinL]
  | x :: y :: r => by
    have ih := joinL_length sep (y :: r)
    rw [joinL, List.length_append, List.length_append, List.map_cons, List.sum_cons]
    have e : (x :: y :: r).length * sep.length = (y :: r).length * sep.length + sep.length := by simp [Nat.add_mul]
    rw [e]; omega
theorem foldl_join (k : Nat) : ∀ (l : List Str) (a : Nat), l.foldl (· + ·.length + k) a = a + (l.map (·.length)).sum + l.length * k
  | [], a => by simp
  | x :: l, a => by
    rw [List.foldl_cons, foldl_join k l, List.map_cons, List.sum_cons]
    simp [Nat.add_mul]; omega
theorem joinOk {sep : List Nat} {ws : List (List Nat)} (h : (ws.map List.length).sum + ws.length * sep.length ≤ 1000000) : JoinOk (T sep) (ws.map T) = true := by
  unfold JoinOk
  have e : ((ws.map T).toArray.foldl (· + ·.length + (T sep).length) 0) = (ws.map List.length).sum + ws.length * sep.length := by
    rw [← Array.foldl_toList, T_len]
    simp only [List.toList_toArray]
    rw [foldl_join, List.map_map]
    have : (List.map ((fun x => x.length) ∘ T) ws) = ws.map List.length := by
      refine List.map_congr_left fun a _ => ?_
      exact T_len a
    rw [this]; simp
  rw [e]
  have : ¬ (ws.map List.length).sum + ws.length * sep.length > sizeLine := by show ¬ _ > 16777216; omega
  simp [tooLong, this]

theorem split_ne (x y : Str) : Txt.split x y ≠ [] := by
  unfold Txt.split
  split
  · simp
  · split
    · simp
    · unfold partsBetween
      intro h
      have := congrArg List.length h
      simp at this
theorem take_free {c : Nat} {p nt : List Nat} (hp : c ∉ p) (hn : nt = [] ∨ ∃ r, nt = c :: r) : (p ++ nt).takeWhile (· != c) = p := by
  induction p with
  | nil => rcases hn with rfl | ⟨r, rfl⟩ <;> simp
  | cons a p ih =>
    have ha : (a != c) = true := by simp; rintro rfl; exact hp (List.mem_cons_self ..)
    rw [List.cons_append, List.takeWhile_cons, ha]
    simp only [if_true]
    rw [ih fun h => hp (List.mem_cons_of_mem _ h)]
theorem split_first {c : Nat} {p nt : List Nat} (hp : c ∉ p) (hn : nt = [] ∨ ∃ r, nt = c :: r) : ∃ rest, Txt.split (T (p ++ nt)) (T [c]) = T p :: rest := by
  have hj := join_split (T (p ++ nt)) (T [c])
  have hf := split_free (T (p ++ nt)) c
  cases hs : Txt.split (T (p ++ nt)) (T [c]) with
  | nil => exact absurd hs (split_ne _ _)
  | cons a rest =>
    refine ⟨rest, ?_⟩
    have hf' : c ∉ a.cps.toList := hf a (by show a ∈ Txt.split (T (p ++ nt)) (T [c]); rw [hs]; exact List.mem_cons_self ..)
    rw [hs] at hj
    have key : a.cps.toList = p := by
      cases rest with
      | nil =>
        have : a = T (p ++ nt) := hj
        have e : a.cps.toList = p ++ nt := by rw [this, T_list]
        have := take_free (nt := []) hf' (.inl rfl)
        rw [List.append_nil, e] at this
        rw [e, ← this]; exact take_free hp hn
      | cons b r =>
        have : a ++ T [c] ++ Str.join (T [c]) (b :: r) = T (p ++ nt) := hj
        rw [T_of a, T_of (Str.join (T [c]) (b :: r)), T_add, T_add] at this
        have := T_inj this
        have h1 := take_free (nt := c :: (Str.join (T [c]) (b :: r)).cps.toList) hf' (.inr ⟨_, rfl⟩)
        rw [List.append_assoc] at this
        simp only [List.singleton_append] at this
        rw [this, take_free hp hn] at h1
        exact h1.symm
    rw [← key, ← T_of]

section
variable {r : Bool} {prog : Program} {w : World} {A : Around} {E : Value → Shared → Prop} {s₀ s s' : Shared} {n : Nat} {L : Addr} {C : List (Addr × Held)} {O : List (Addr × List Value)} {loc : List (Str × Value)} {Γ : Pred} {env : Env} {Q : Value → Shared → Prop}

theorem St.pushed : KeptByPush (St r w s₀ L C O loc Γ) := fun s ob k S => S.ext ⟨_, _, rfl⟩ (Ext.push _ _)

theorem occ_le (x y : Str) : (partsBetween x (occurrences x y 0 x.length (x.length + 1)) y.length).length ≤ x.length + 2 := by
  unfold partsBetween
  have := occ_length_le x y 0 x.length (x.length + 1)
  simp; omega

theorem split1 {c : Nat} {p nt : List Nat} {t u : Tok} (S : St r w s₀ L C O loc Γ s) (hz : (p ++ nt).length ≤ 1000000) (hp : c ∉ p) (hn : nt = [] ∨ ∃ r, nt = c :: r)
    (h : ∀ D l l' t' s', St r w s₀ L C O loc Γ s' → s'.heap.IsList D (strValues l).toArray → l = (T p, t') :: l' → Q (.ref D) s') :
    wpAny (model prog w) A (call (.builtin "str.split") [.str (T (p ++ nt)) t, .str (T [c]) u]) Q E s := by
  refine SCG.split1 St.pushed S (by rw [T_len]; rfl) (fun D l s' hl S' hD => ?_) (by rw [T_len]; show _ ≤ 16777216; omega) (by
    refine Nat.le_trans (occ_le _ _) ?_
    rw [T_len]; show _ ≤ 16777216; omega)
  obtain ⟨rest, e⟩ := split_first hp hn
  rw [e] at hl
  cases l with
  | nil => simp at hl
  | cons a l =>
    obtain ⟨x, t'⟩ := a
    simp at hl
    obtain ⟨rfl, _⟩ := hl
    exact h D _ l t' s' S' hD rfl

/-- the texts of a list -/
theorem strs_vals {X : Addr → Prop} {h : Heap} {vs : List Value} {xs : List Str} (p : All cS vs xs X h) : ∃ l, vs = strValues l ∧ l.map (·.1) = xs := by
  unfold All at p
  induction p with
  | nil => exact ⟨[], rfl, rfl⟩
  | cons h _ ih =>
    obtain ⟨t, rfl⟩ := h
    obtain ⟨l, rfl, e⟩ := ih
    exact ⟨(_, t) :: l, rfl, by simp [e]⟩

theorem joinS {X : Addr → Prop} {v : Value} {sep : List Nat} {ws : List (List Nat)} {t : Tok} (S : St r w s₀ L C O loc Γ s) (hl : Strs v (ws.map T) X s.heap) (hz : (ws.map List.length).sum + ws.length * sep.length ≤ 1000000)
    (h : ∀ s' t', St r w s₀ L C O loc Γ s' → Q (.str (T (joinL sep ws)) t') s') : wpAny (model prog w) A (call (.builtin "str.join") [.str (T sep) t, v]) Q E s := by
  obtain ⟨vs, ⟨a, rfl, _, hl⟩, p⟩ := hl
  obtain ⟨l, rfl, e⟩ := strs_vals p
  refine SC.join hl e (joinOk hz) fun t' k => ?_
  have : Txt.join (T sep) (ws.map T) = T (joinL sep ws) := by
    rw [← join_T]; exact glued_eq_join _ _
  rw [this]
  exact h _ _ (S.tk _)

theorem mulT {x : List Nat} {k : Int} {t u : Tok} (S : St r w s₀ L C O loc Γ s) (hk : k = 0 ∨ k = 1) (h : ∀ s' t', St r w s₀ L C O loc Γ s' → Q (.str (T (if k = 0 then [] else x)) t') s') :
    wpAny (model prog w) A (binaryOp .Mult (.str (T x) t) (.int k u)) Q E s := by
  rcases hk with rfl | rfl
  · exact P.mul_str_none (by decide) (by decide) (h _ _ (S.tk _))
  · refine P.mul_str (by decide) (fun _ e => by simp at e) (fun _ e => by simp at e) ?_
    exact h _ _ S
end
end Mine
end

section
open PySem PySem.W PyProof.Rows PySem.Calls PySem.SeqAt PySem.StrLaws PySem.Builtin PySem.Builtin.Str
set_option Elab.async false
set_option maxRecDepth 100000
set_option linter.unusedVariables false
set_option maxHeartbeats 4000000
namespace Mine
/-- the words from the ground up, dots between -/
def pathOf : List (List Nat) → List Nat
  | [] => []
  | [x] => x
  | x :: y :: r => pathOf (y :: r) ++ 46 :: x
theorem pathOf_cons (x : List Nat) {r : List (List Nat)} (h : r ≠ []) : pathOf (x :: r) = pathOf r ++ 46 :: x := by
  cases r with
  | nil => exact absurd rfl h
  | cons y r => rfl
/-- a word of the trees -/
structure Wd (x : List Nat) : Prop where
  ne : x ≠ []
  dot : 46 ∉ x
  col : 58 ∉ x
  nl : 10 ∉ x
  low : ∀ c ∈ x, c < 128
theorem pathOf_mem {row : List (List Nat)} {c : Nat} : c ∈ pathOf row → c = 46 ∨ ∃ x ∈ row, c ∈ x := by
  induction row with
  | nil => intro h; cases h
  | cons x r ih =>
    cases r with
    | nil => intro h; exact .inr ⟨x, List.mem_cons_self .., h⟩
    | cons y r =>
      rw [pathOf_cons x (by simp)]
      intro h
      rcases List.mem_append.mp h with h | h
      · rcases ih h with q | ⟨z, hz, q⟩
        · exact .inl q
        · exact .inr ⟨z, List.mem_cons_of_mem _ hz, q⟩
      · rcases List.mem_cons.mp h with q | q
        · exact .inl q
        · exact .inr ⟨x, List.mem_cons_self .., q⟩
theorem pathOf_ne {x : List Nat} {r : List (List Nat)} (h : Wd x) : pathOf (x :: r) ≠ [] := by
  cases r with
  | nil => exact h.ne
  | cons y r => rw [pathOf_cons x (by simp)]; simp

def Has (loc : List (Str × Value)) : List (Str × Value) → Prop
  | [] => True
  | p :: q => loc.lookup p.1 = some p.2 ∧ Has loc q
theorem Has.mem {loc : List (Str × Value)} : ∀ {l : List (Str × Value)}, Has loc l → ∀ x v, l.lookup x = some v → loc.lookup x = some v
  | [], _, x, v, e => by simp at e
  | (y, u) :: l, ⟨h, hs⟩, x, v, e => by
    rw [List.lookup_cons] at e
    by_cases q : x = y
    · subst q; simp at e; subst e; exact h
    · have : (x == y) = false := by simpa using q
      rw [this] at e
      exact hs.mem x v e
section
variable {r : Bool} {prog : Program} {w : World} {A : Around} {E : Value → Shared → Prop} {s₀ s s' : Shared} {n : Nat} {L : Addr} {C : List (Addr × Held)} {O : List (Addr × List Value)} {loc : List (Str × Value)} {Γ : Pred} {env : Env} {Q : Value → Shared → Prop}
theorem St.only (S : St r w s₀ L C O loc Γ s) (loc' : List (Str × Value)) (h : Has loc loc') : St r w s₀ L C O loc' Γ s := S.forget h.mem

theorem lit0 : Str.ofString "" = T [] := by decide +kernel
theorem lit4 : Str.ofString "\n.z:" = T [10, 46, 122, 58] := by decide +kernel

/-- the signs of octets -/
theorem B8_get {l : List Nat} (hl : ∀ c ∈ l, c < 256) {i : Nat} {c : UInt8} (h : (B8 l)[i]? = some c) : l[i]? = some c.toNat := by
  unfold B8 at h
  simp only [List.getElem?_toArray, List.getElem?_map, Option.map_eq_some_iff] at h
  obtain ⟨d, hd, rfl⟩ := h
  rw [hd]
  have := hl d (List.mem_of_getElem? hd)
  congr 1
  simp [Nat.toUInt8, UInt8.toNat_ofNat', Nat.mod_eq_of_lt this]
theorem B8_size (l : List Nat) : (B8 l).size = l.length := by simp [B8]

theorem all_map {α β : Type} {R : Value → β → Pred} {X : Addr → Prop} {h : Heap} {f : α → β} {vs : List Value} {l : List α} (p : Paired (fun y c => R y (f c) X h) vs l) : All R vs (l.map f) X h := by
  unfold All
  induction p with
  | nil => exact .nil
  | cons h _ ih => exact .cons h ih

theorem sum_ones {α : Type} (l : List α) : (l.map fun _ => 1).sum = l.length := by
  induction l with
  | nil => rfl
  | cons _ _ ih => rw [List.map_cons, List.sum_cons, ih, List.length_cons]; omega


theorem chain_head {flag : Value} {l : List Nat} (hm : IsByt flag (B8 l)) (hl : ∀ c ∈ l, c < 128) (hz : l.length ≤ 100000) {L : Addr} {Q : Flow → Shared → Prop}
    (hA : Lv n A) (S : St true w s₀ L [] [] [(Str.ofString "flag", flag)] none_ s) 
    (h : ∀ s' t, St true w s₀ L [] [] [(Str.ofString "text", .str (T l) t)] none_ s' → wpAny (model prog w) A (execs ((bodyAt 18).drop 1) (envAt 18 119 118 L)) Q E s') :
    wpAny (model prog w) A (execs (bodyAt 18) (envAt 18 119 118 L)) Q E s := by
  obtain ⟨t, rfl⟩ := hm
  refine wpAny_execs_cons (wpAny_Assign_Name ?_)
  refine wpAny_Call_method_lateS rfl rfl rfl (kstr S fun s₁ t₁ S => ⟨"str", "str.join", F.plainAttrs_str, F.slot_str_join, F.type_str_join, typeIs_str _ _ _, (fun _ e => nomatch e), ?_⟩)
  refine callWith_method1 (args_cons (compV (fun _ => true) (fun v y => ∃ (c : UInt8) (t : Tok), v = .int (c.toNat : Nat) t ∧ IsStr y (T [c.toNat])) (cl := []) (by rfl) (by decide) (by rfl) (by decide) (by decide) ?_))
  refine rd S rfl ⟨_, _, srcByt hA.hd, by rw [B8_size]; show _ ≤ 16777216; omega, S.b, fun _ _ _ _ _ _ _ _ => noTests (x := Str.empty) (v := .none), ?_, ?_⟩
  · rintro C i v s₃ E' ⟨c, t, hc, rfl⟩ _ ex St₃
    refine Call_ (nm_chr St₃.b (callWith_builtin1 (args_cons (rd St₃ rfl (args_nil (chr_of_range (by omega) (by have := c.toNat_lt; omega) ?_))))))
    exact ⟨⟨c, t, rfl, _, rfl⟩, ⟨_, _, rfl⟩, Ext.refl _⟩
  · intro D s' ys vs sm ex hD hpl hlen hP hF
    have S := S.ext sm ex
    rw [filter_true] at hF
    have hi : Paired (fun y c => IsStr y (T [c])) ys.toList l := paired_get hF l _ (by rw [hlen, B8_size]) hP (by
      rintro j v y ⟨c, t, e, rfl⟩ ⟨c', t', e', q⟩
      have hcc : c = c' := by
        simp only [Value.int.injEq, Int.natCast_inj] at e'
        exact UInt8.toNat_inj.mp e'.1
      subst hcc
      exact ⟨_, B8_get (fun c hc => Nat.lt_of_lt_of_le (hl c hc) (by decide)) e, q⟩)
    have hS : Strs (.ref D) ((l.map fun c => [c]).map T) (fun _ => False) s'.heap := ⟨ys.toList, ⟨D, rfl, id, by simpa using hpl.isList⟩, by
      rw [List.map_map]
      exact all_map (R := cS) (f := T ∘ fun c => [c]) hi⟩
    rw [lit0]
    refine args_nil (joinS S hS ?_ fun s₂ t₂ S => ?_)
    · have : (List.map List.length (l.map fun c => [c])) = l.map fun _ => 1 := by rw [List.map_map]; rfl
      rw [this, sum_ones]; simp; omega
    rw [joinL_chars]
    exact sto S fun s₃ S => h _ _ (S.only _ ⟨rfl, trivial⟩)
end
end Mine
end

section
open PySem PySem.W PyProof.Rows PySem.Calls PySem.SeqAt PySem.StrLaws PySem.Builtin PySem.Builtin.Str
set_option Elab.async false
set_option maxRecDepth 100000
set_option linter.unusedVariables false
set_option maxHeartbeats 4000000
namespace Mine
section
variable {r : Bool} {prog : Program} {w : World} {A : Around} {E : Value → Shared → Prop} {s₀ s s' : Shared} {n : Nat} {L : Addr} {C : List (Addr × Held)} {O : List (Addr × List Value)} {loc : List (Str × Value)} {Γ : Pred} {env : Env} {Q : Value → Shared → Prop}

theorem neT {a b : List Nat} {t u : Tok} (h : Q (.bool (decide (a ≠ b))) s) : wpAny (model prog w) A (compareOp .NotEq (.str (T a) t) (.str (T b) u)) Q E s := by
  refine P.ne_str ?_
  rw [T_list, T_list]
  have : (a != b) = decide (a ≠ b) := by by_cases q : a = b <;> simp [q]
  rw [this]; exact h
theorem eqT {a b : List Nat} {t u : Tok} (h : Q (.bool (decide (a = b))) s) : wpAny (model prog w) A (compareOp .Eq (.str (T a) t) (.str (T b) u)) Q E s := by
  refine P.eq_str ?_
  rw [T_list, T_list]
  have : (a == b) = decide (a = b) := by by_cases q : a = b <;> simp [q]
  rw [this]; exact h

theorem chain_mid {p nt : List Nat} {t : Tok} {L : Addr} {Q : Flow → Shared → Prop} (hz : (p ++ nt).length ≤ 100000) (hp : 58 ∉ p) (hn : nt = [] ∨ ∃ r, nt = 58 :: r)
    (S : St true w s₀ L [] [] [(Str.ofString "text", .str (T (p ++ nt)) t)] none_ s) 
    (h : ∀ s' D t1 t2, St true w s₀ L [] [(D, [])] [(Str.ofString "path", .str (T p) t1), (Str.ofString "note", .str (T nt) t2), (Str.ofString "chain", .ref D)] none_ s' → wpAny (model prog w) A (execs ((bodyAt 18).drop 4) (envAt 18 119 118 L)) Q E s') :
    wpAny (model prog w) A (execs ((bodyAt 18).drop 1) (envAt 18 119 118 L)) Q E s := by
  refine wpAny_execs_cons (wpAny_Assign_Name (Subscript_ ?_))
  refine wpAny_Call_method_lateS rfl rfl rfl (rd S rfl ⟨"str", "str.split", F.plainAttrs_str, F.slot_str_split, F.type_str_split, typeIs_str _ _ _, (fun _ e => nomatch e), ?_⟩)
  refine callWith_method1 (args_cons (kstr S fun s₁ t₁ S => args_nil ?_))
  rw [lit2]
  refine split1 S (by omega) hp hn fun D l l' t' s₂ S hD hl => ?_
  subst hl
  refine wpAny_Constant_int (item_strsT hD (by decide) (by simp) (by decide) fun y t₄ e => ?_)
  have : y = T p := by simpa using e.symm
  subst this
  refine sto (S.tk _) fun s₃ S => ?_
  refine wpAny_execs_cons (wpAny_Assign_Name (wpAny_Subscript_str_slice (rd S rfl ?_)))
  refine Call_ (nm_len S.b (callWith_builtin1 (args_cons (rd S rfl (args_nil (lenT S (by simp at hz; omega) fun s₄ t₅ S => ?_))))))
  refine wpAny_pure ⟨T (p ++ nt), t, some (p.length, t₅), none, rfl, rfl, rfl, ?_⟩
  refine sliced (a := p.length) (b := (p ++ nt).length) (.inl rfl) (.inr ⟨rfl, rfl⟩) (by simp) (Nat.le_refl _) (S.alloc _) (by omega) fun s₅ t₆ S => ?_
  have e1 : ((p ++ nt).drop p.length).take ((p ++ nt).length - p.length) = nt := by simp
  rw [e1]
  refine sto S fun s₆ S => ?_
  refine wpAny_execs_cons (wpAny_Assign_Name (List_ (args_nil (ownNew S (by simp) fun D s₇ S => sto S fun s₈ S => ?_))))
  exact h _ D _ _ (S.only _ ⟨rfl, rfl, rfl, trivial⟩)

theorem callD {i f c : Nat} {pm : Value} {pos : Pos} {e : Expr} {rest : List Expr} (D : IsDef w.params i f c pm)
    (h : wpAny (model prog w) A (spliced (backTo pos (starEach (e :: rest) env))) (fun vs s₁ => Base w s₁.heap ∧ wpAny (model prog w) A (call (.ref f) vs) Q E s₁) E s)
    (he : starEach (e :: rest) env = (false, eval e env) :: starEach rest env := by rfl) :
    wpAny (model prog w) A (callWith pos (.ref f) [] (backTo pos (starEach (e :: rest) env)) []) Q E s :=
  callWith_def D.fd (wpAny_mono h (fun vs s₁ ⟨B, h₁⟩ => ⟨B.K f _ D.fn, h₁⟩) fun _ _ e => e) he

theorem lenL {X : Addr → Prop} {v : Value} {vs : List Value} (S : St r w s₀ L C O loc Γ s) (hl : Lst v vs X s.heap) (hz : vs.length ≤ 1000000) (h : ∀ s' t', St r w s₀ L C O loc Γ s' → Q (.int vs.length t') s') :
    wpAny (model prog w) A (call (.builtin "len") [v]) Q E s := by
  obtain ⟨a, rfl, _, hl⟩ := hl
  refine len_list hl (by simp; omega) ?_
  simp only [List.size_toArray]
  exact h _ _ (S.tk _)

theorem maxI {a b : Int} {t u : Tok} (hA : A.handled = none) (S : St r w s₀ L C O loc Γ s) (h : ∀ s' t', St r w s₀ L C O loc Γ s' → Q (.int (max a b) t') s') :
    wpAny (model prog w) A (call (.builtin "max") [.int a t, .int b u]) Q E s := by
  refine max_two_ints hA fun h' tk hk => ?_
  have S := S.ext (s' := { s with heap := h', toks := tk }) ⟨_, _, rfl⟩ hk
  by_cases q : b > a
  · rw [if_pos q]; have := h _ u S; rwa [show max a b = b by omega] at this
  · rw [if_neg q]; have := h _ t S; rwa [show max a b = a by omega] at this

theorem strs_len {X : Addr → Prop} {h : Heap} {α : Type} {R : Value → α → Pred} {vs : List Value} {xs : List α} (p : All R vs xs X h) : vs.length = xs.length := Paired.length p

theorem chain_turn {x nt : List Nat} {rw_ : List (List Nat)} {vs : List Value} {t1 t2 : Tok} {D : Addr} {L : Addr} {Q : Flow → Shared → Prop} (hA : Lv n A) (hn' : n ≤ 17) (hw : ∀ z ∈ x :: rw_, Wd z) (hz : (pathOf (x :: rw_) ++ nt).length ≤ 90000) (hv : vs.length ≤ 1000)
    (hn : nt = [] ∨ ∃ r, nt = 58 :: r) (hnt' : 10 ∉ nt)
    (S : St true w s₀ L [] [(D, vs)] [(Str.ofString "path", .str (T (pathOf (x :: rw_))) t1), (Str.ofString "note", .str (T nt) t2), (Str.ofString "chain", .ref D)] none_ s)
    (h : ∀ s' v t1, IsStr v (T x) → St true w s₀ L [] [(D, vs ++ [v])] [(Str.ofString "path", .str (T (pathOf rw_)) t1), (Str.ofString "note", .str (T nt) t2), (Str.ofString "chain", .ref D)] none_ s' → Q .next s') :
    ∀ body, (∃ test o p, ((bodyAt 18).drop 4).head? = some (.While test body o p)) → wpAny (model prog w) A (execs body (envAt 18 119 118 L)) Q E s := by
  rintro body ⟨test, o, p, e⟩
  have e' : body = match ((bodyAt 18).drop 4).head? with | some (.While _ b _ _) => b | _ => [] := by rw [e]
  subst e'
  refine wpAny_execs_cons (wpAny_Assign_Name ?_)
  refine Call_ (nm_g_strip S.b (callD (d_strip _) (args_cons ?_)))
  refine wpAny_BinOp (wpAny_BinOp (rd S rfl (rd S rfl (addT S (by omega) fun s₁ t₃ S => ?_))))
  refine wpAny_BinOp (kstr S fun s₂ t₄ S => wpAny_BinOp ?_)
  refine Call_ (nm_len S.b (callWith_builtin1 (args_cons (rd S rfl (args_nil (lenL S (S.owned (.head _)) (by omega) fun s₃ t₅ S => ?_))))))
  refine kint S fun s₄ t₆ S => PyProof.Rows.mod_int (by decide) ?_
  have S := S.tk (s₄.toks + 1)
  rw [lit4]
  have hk : ((vs.length : Int).fmod 2) = 0 ∨ ((vs.length : Int).fmod 2) = 1 := by
    have := Int.fmod_nonneg_of_pos (vs.length : Int) (b := 2) (by decide)
    have := Int.fmod_lt_of_pos (vs.length : Int) (b := 2) (by decide)
    omega
  refine mulT S hk fun s₅ t₇ S => ?_
  generalize htl : (if ((vs.length : Int).fmod 2) = 0 then ([] : List Nat) else [10, 46, 122, 58]) = tl
  have htl1 : tl = [] ∨ ∃ r, tl = 10 :: r := by rw [← htl]; split; exact .inl rfl; exact .inr ⟨_, rfl⟩
  have htl2 : tl.length ≤ 4 := by rw [← htl]; split <;> simp
  refine addT S (by simp at hz ⊢; omega) fun s₆ t₈ S => args_nil ⟨S.b, ?_⟩
  have hp : ∀ c ∈ pathOf (x :: rw_), c ≠ 10 ∧ c ≠ 58 := fun c hc => by
    rcases pathOf_mem hc with rfl | ⟨z, hz, q⟩
    · exact ⟨by decide, by decide⟩
    · exact ⟨fun e => (hw z hz).nl (e ▸ q), fun e => (hw z hz).col (e ▸ q)⟩
  have hx := hw x (List.mem_cons_self ..)
  have hsp : pathOf (x :: rw_) = x ∨ ∃ q, pathOf (x :: rw_) = q ++ 46 :: x := by
    cases rw_ with
    | nil => exact .inl rfl
    | cons y r => exact .inr ⟨_, pathOf_cons x (by simp)⟩
  rw [List.append_assoc] 
  refine c_strip (p := pathOf (x :: rw_)) (nt := nt) (tl := tl) (wd := x) ⟨_, rfl⟩ hp hn hnt' htl1 hsp hx.dot (by simp at hz ⊢; omega) S.b hA (by omega) fun v s₇ sm ex hv => ?_
  have S := S.ext sm ex
  refine sto S fun s₈ S => ?_
  refine appendStmt (rd S rfl ⟨D, vs.toArray, rfl, S.own _ (.head _), rd S rfl (app1 S (by omega) fun s₉ S => ?_)⟩)
  obtain ⟨tx, rfl⟩ := hv
  refine wpAny_execs_cons (wpAny_Assign_Name (wpAny_Subscript_str_slice (rd S rfl (partN (partS ?_)))))
  refine Call_ (nm_max S.b (cwB2 (by rfl) (by rfl) (kint S fun s₁₀ ta S => wpAny_BinOp (wpAny_BinOp ?_))))
  refine Call_ (nm_len S.b (callWith_builtin1 (args_cons (rd S rfl (args_nil (lenT S (by simp at hz; omega) fun s₁₁ tb S => ?_))))))
  refine Call_ (nm_len S.b (callWith_builtin1 (args_cons (rd S rfl (args_nil (lenT S ?_ fun s₁₂ tc S => ?_))))))
  · rcases hsp with e | ⟨q, e⟩ <;> rw [e] at hz <;> simp at hz <;> omega
  refine PyProof.Rows.sub_int ?_
  refine kint (S.tk _) fun s₁₃ td S => PyProof.Rows.sub_int (maxI hA.hd (S.tk _) fun s₁₄ te S => ?_)
  refine ⟨T (pathOf (x :: rw_)), t1, none, some (_, te), rfl, rfl, rfl, ?_⟩
  have hb : ∃ b : Nat, max 0 (((pathOf (x :: rw_)).length : Int) - x.length - 1) = (b : Int) ∧ b ≤ (pathOf (x :: rw_)).length ∧ (pathOf (x :: rw_)).take b = pathOf rw_ := by
    cases rw_ with
    | nil => exact ⟨0, by show max 0 ((x.length : Int) - x.length - 1) = 0; omega, Nat.zero_le _, rfl⟩
    | cons y r =>
      refine ⟨(pathOf (y :: r)).length, ?_, ?_, ?_⟩
      · rw [pathOf_cons x (by simp)]; simp; omega
      · rw [pathOf_cons x (by simp)]; simp
      · rw [pathOf_cons x (by simp)]; simp
  obtain ⟨b, hb1, hb2, hb3⟩ := hb
  refine sliced (a := 0) (b := b) (.inr ⟨rfl, rfl⟩) (.inl (congrArg some hb1)) (Nat.zero_le _) hb2 (S.alloc _) (by simp at hz; omega) fun s₁₅ tf S => ?_
  have hb4 : ((pathOf (x :: rw_)).drop 0).take (b - 0) = pathOf rw_ := by simpa using hb3
  rw [hb4]
  refine sto S fun s₁₆ S => ?_
  exact wpAny_execs_nil (h _ _ tf ⟨tx, rfl⟩ (S.only _ ⟨rfl, rfl, rfl, trivial⟩))
end
end Mine
end

section
open PySem PySem.W PyProof.Rows PySem.Calls PySem.SeqAt PySem.StrLaws PySem.Builtin PySem.Builtin.Str
set_option Elab.async false
set_option maxRecDepth 100000
set_option linter.unusedVariables false
set_option maxHeartbeats 4000000
namespace Mine
section
variable {r : Bool} {prog : Program} {w : World} {A : Around} {E : Value → Shared → Prop} {s₀ s s' : Shared} {n : Nat} {L : Addr} {C : List (Addr × Held)} {O : List (Addr × List Value)} {loc : List (Str × Value)} {Γ : Pred} {env : Env} {Q : Value → Shared → Prop}

theorem pathOf_len : ∀ {row : List (List Nat)}, (∀ z ∈ row, Wd z) → row.length ≤ (pathOf row).length
  | [], _ => by simp
  | [x], h => by
    have := (h x (List.mem_cons_self ..)).ne
    have : x.length ≠ 0 := fun e => this (List.length_eq_zero_iff.mp e)
    show 1 ≤ x.length; omega
  | x :: y :: r, h => by
    have ih := pathOf_len (row := y :: r) fun z hz => h z (List.mem_cons_of_mem _ hz)
    rw [pathOf_cons x (by simp)]
    simp only [List.length_append, List.length_cons] at ih ⊢; omega
theorem pathOf_drop_le : ∀ {a b : List (List Nat)}, (pathOf b).length ≤ (pathOf (a ++ b)).length
  | [], b => by simp
  | x :: a, b => by
    have ih := pathOf_drop_le (a := a) (b := b)
    rw [List.cons_append]
    by_cases h : a ++ b = []
    · rw [h]
      have : b = [] := (List.append_eq_nil_iff.mp h).2
      subst this; exact Nat.zero_le _
    · rw [pathOf_cons x h]; simp only [List.length_append]; omega

theorem paired_snoc {α : Type} {R : Value → α → Pred} {X : Addr → Prop} {h : Heap} {vs : List Value} {xs : List α} {v : Value} {x : α} (p : All R vs xs X h) (q : R v x X h) : All R (vs ++ [v]) (xs ++ [x]) X h := Paired.snoc p q

theorem chain_loop {row : List (List Nat)} {nt : List Nat} {t1 t2 : Tok} {D : Addr} {L : Addr} {Q : Flow → Shared → Prop} (hA : Lv n A) (hn' : n ≤ 17) (hw : ∀ z ∈ row, Wd z) (hz : (pathOf row ++ nt).length ≤ 900)
    (hn : nt = [] ∨ ∃ r, nt = 58 :: r) (hnt' : 10 ∉ nt)
    (S : St true w s₀ L [] [(D, [])] [(Str.ofString "path", .str (T (pathOf row)) t1), (Str.ofString "note", .str (T nt) t2), (Str.ofString "chain", .ref D)] none_ s)
    (h : ∀ s' vs, All cS vs (row.map T) (fun _ => False) s'.heap → ∀ loc', loc'.lookup (Str.ofString "chain") = some (.ref D) → St true w s₀ L [] [(D, vs)] loc' none_ s' → Q (.ret (.ref D)) s') :
    wpAny (model prog w) A (execs ((bodyAt 18).drop 4) (envAt 18 119 118 L)) Q E s := by
  refine wpAny_execs_cons (wpAny_While (codeAny_whileLoop (fun k s => ∃ done row' vs t1 t2, k = row'.length ∧ row = done ++ row' ∧ All cS vs (done.map T) (fun _ => False) s.heap ∧
    St true w s₀ L [] [(D, vs)] [(Str.ofString "path", .str (T (pathOf row')) t1), (Str.ofString "note", .str (T nt) t2), (Str.ofString "chain", .ref D)] none_ s) ?_ row.length ⟨[], row, [], t1, t2, rfl, rfl, .nil, S⟩))
  rintro k s ⟨done, row', vs, t1, t2, rfl, rfl, hvs, S⟩
  have hl1 := pathOf_len hw
  have hl2 := pathOf_drop_le (a := done) (b := row')
  simp only [List.length_append] at hz hl1
  refine wpAny_isTrue_Compare1 (rd S rfl (kstr S fun s₁ t₃ S => ?_)) (by rfl)
  rw [lit0]
  refine neT (wpAny_truthy_bool ?_)
  cases row' with
  | nil =>
    rw [show decide (pathOf [] ≠ []) = false from rfl]
    rw [if_neg (by decide)]
    refine wpAny_execs_nil ?_
    refine wpAny_execs_cons (wpAny_Return_some (rd S rfl ?_))
    rw [List.append_nil] at h
    exact h _ vs hvs _ rfl S
  | cons x row' =>
    have hx := hw x (List.mem_append_right _ (List.mem_cons_self ..))
    have : decide (pathOf (x :: row') ≠ []) = true := by simpa using pathOf_ne hx
    rw [this, if_pos rfl]
    have hlv := strs_len hvs
    rw [List.length_map] at hlv
    refine chain_turn hA hn' (fun z hz => hw z (List.mem_append_right _ hz)) (by simp only [List.length_append]; omega) (by omega) hn hnt' S (fun s₂ v t₄ hv S => ?_) _ ⟨_, _, _, rfl⟩
    exact ⟨row'.length, by simp, done ++ [x], row', vs ++ [v], t₄, t2, rfl, by simp, by rw [List.map_append]; exact paired_snoc hvs hv, S⟩

theorem c_chain {flag : Value} {row : List (List Nat)} {nt : List Nat} (hm : IsByt flag (B8 (pathOf row ++ nt))) (hw : ∀ z ∈ row, Wd z) (hn : nt = [] ∨ ∃ r, nt = 58 :: r) (hnt' : ∀ c ∈ nt, c < 128 ∧ c ≠ 10) (hz : (pathOf row ++ nt).length ≤ 900)
    (B : Base w s.heap) (hA : Lv n A) (hn' : n ≤ 16) (h : Back s (fun v hp => Strs v (row.map T) (Old s.heap) hp) Q) :
    wpAny (model prog w) A (call (.ref 119) [flag]) Q E s := by
  refine callP [(Str.ofString "flag", flag)] (d_chain _) B hA (by omega) (by rfl) (by rfl) fun s₁ L S hA' => ?_
  have hlow : ∀ c ∈ pathOf row ++ nt, c < 128 := fun c hc => by
    rcases List.mem_append.mp hc with hc | hc
    · rcases pathOf_mem hc with rfl | ⟨x, hx, q⟩
      · decide
      · exact (hw x hx).low c q
    · exact (hnt' c hc).1
  have hcol : 58 ∉ pathOf row := fun hc => by
    rcases pathOf_mem hc with q | ⟨x, hx, q⟩
    · exact absurd q (by decide)
    · exact (hw x hx).col q
  refine chain_head hm hlow (by omega) hA' S fun s₂ t S => chain_mid (by omega) hcol hn S fun s₃ D t1 t2 S => chain_loop hA' (by omega) hw hz hn (fun q => (hnt' 10 q).2 rfl) S fun s₄ vs hvs loc' hl S => ?_
  exact h _ _ S.sm S.keep ⟨vs, S.ownedNew (.head _), hvs⟩
end
end Mine
end

section
open PySem PySem.Sre PySem.Builtin.Re
set_option Elab.async false
set_option maxRecDepth 100000
set_option linter.unusedVariables false
set_option linter.unusedSimpArgs false
namespace Mine
def codeA : Array Nat := #[14, 4, 0, 8, 4294967295, 24, 5, 0, 4294967295, 2, 1, 16, 70, 16, 76, 16, 65, 16, 71, 16, 83, 16, 32, 16, 40, 17, 0, 24, 6, 0, 4294967295, 20, 41, 1, 17, 1, 16, 41, 1]
def iter : Nat → M → M
  | 0, m => m
  | n + 1, m => iter n m.step
theorem iter_add (a b : Nat) (m : M) : iter (a + b) m = iter b (iter a m) := by
  induction a generalizing m with
  | zero => rw [Nat.zero_add]; rfl
  | succ a ih => rw [Nat.succ_add]; exact ih _
theorem step_done {m : M} (h : m.outcome.isSome = true) : m.step = m := by unfold M.step; rw [if_pos h]
theorem iter_done {m : M} (h : m.outcome.isSome = true) : ∀ n, iter n m = m
  | 0 => rfl
  | n + 1 => by rw [iter, step_done h]; exact iter_done h n
theorem runFor_iter : ∀ (n : Nat) (m : M), M.runFor n m = iter n m
  | 0, m => rfl
  | n + 1, m => by
    unfold M.runFor
    by_cases h : m.outcome.isSome = true
    · rw [if_pos h, iter_done h]
    · rw [if_neg h, runFor_iter n]; rfl
/-- m comes to m' within so many steps -/
def Rb (b : Nat) (m m' : M) : Prop := ∃ k, k ≤ b ∧ iter k m = m'
theorem Rb.refl (m : M) : Rb 0 m m := ⟨0, Nat.le_refl _, rfl⟩
theorem Rb.trans {a b : Nat} {m m' m'' : M} (x : Rb a m m') (y : Rb b m' m'') : Rb (a + b) m m'' := by
  obtain ⟨k, hk, e⟩ := x; obtain ⟨j, hj, e'⟩ := y
  exact ⟨k + j, by omega, by rw [iter_add, e, e']⟩
theorem Rb.step {m : M} : Rb 1 m m.step := ⟨1, Nat.le_refl _, rfl⟩
theorem Rb.le {a b : Nat} {m m' : M} (x : Rb a m m') (h : a ≤ b) : Rb b m m' := let ⟨k, hk, e⟩ := x; ⟨k, by omega, e⟩

/-- the machine over this code -/
def mm (text : Array Nat) (pc pos handed : Nat) (om : Bool) (marks : Array (Option Nat)) (lm li : Int) (frames : List Sre.Frame) (weight : Nat) (ans : Option Bool) (seen : Seen) : M :=
  { code := codeA, text, lim := text.size, start := 0, lastStart := 0, wholeText := false, mustAdvance := false, pc, pos, handed, outermost := om, marks, lastmark := lm, lastindex := li, loops := #[], inner := none, frames, weight, answer := ans, seen, outcome := none }

theorem start_eq {l : List Nat} (h : 8 ≤ l.length) : forMatch codeA l.toArray 1 0 l.toArray.size false false = mm l.toArray 5 0 0 true #[none, none] (-1) (-1) [] 0 none (({} : Seen).add 14) := by
  have e : ¬ (((8 : Nat) != 0 && decide (0 ≤ l.toArray.size) && decide (l.toArray.size - 0 < 8)) = true) := by simp; omega
  unfold forMatch
  exact if_neg e
theorem short_eq {l : List Nat} (h : l.length < 8) : ∃ m : M, forMatch codeA l.toArray 1 0 l.toArray.size false false = m.say false ∧ m.outcome = none ∧ m.frames = [] := by
  have e : (((8 : Nat) != 0 && decide (0 ≤ l.toArray.size) && decide (l.toArray.size - 0 < 8)) = true) := by simp; omega
  unfold forMatch
  exact ⟨_, if_pos e, rfl, rfl⟩

variable {text : Array Nat} {pc pos handed : Nat} {om : Bool} {marks : Array (Option Nat)} {lm li : Int} {frames : List Sre.Frame} {weight : Nat} {ans : Option Bool} {seen : Seen}

/-- a literal that stands there -/
theorem lit_yes {c : Nat} (hc : pc < 39) (h1 : codeA.getD pc 0 = 16) (h2 : codeA.getD (pc + 1) 0 = c) (hp : pos < text.size) (ht : text[pos]?.getD 0 = c) :
    ∃ seen', (mm text pc pos handed om marks lm li frames weight none seen).step = mm text (pc + 2) (pos + 1) handed om marks lm li frames weight none seen' := by
  refine ⟨seen.add 16, ?_⟩
  have hn : ¬ pos ≥ text.size := by omega
  simp [M.step, mm, M.exec, M.word, h1, h2, ops, accepts, itemWidth, hn, ht, show codeA.size = 39 from rfl, hc]
theorem lit_no {c : Nat} (hc : pc < 39) (h1 : codeA.getD pc 0 = 16) (h2 : codeA.getD (pc + 1) 0 = c) (hp : text.size ≤ pos ∨ text[pos]?.getD 0 ≠ c) :
    ∃ seen', (mm text pc pos handed om marks lm li frames weight none seen).step = mm text pc pos handed om marks lm li frames weight (some false) seen' := by
  refine ⟨seen.add 16, ?_⟩
  by_cases hn : pos ≥ text.size
  · simp [M.step, mm, M.exec, M.word, h1, h2, ops, accepts, itemWidth, hn, show codeA.size = 39 from rfl, hc, M.say]
  · have ht : (text[pos]?.getD 0 == c) = false := by simpa using hp.resolve_left hn
    simp [M.step, mm, M.exec, M.word, h1, h2, ops, accepts, itemWidth, hn, ht, show codeA.size = 39 from rfl, hc, M.say]

/-- the frame of a repeat of one -/
def gb (pc pos : Nat) (om : Bool) (c : Int) (lm li : Int) : Sre.Frame := { wait := .giveBack, pc := pc, pos := pos, outermost := om, count := c, kept := { lastmark := lm, lastindex := li } }

/-- a run of signs that are c or not -/
theorem run_any (l : List Nat) (p0 n p f : Nat) (seen : Seen) (h : ∀ i, p ≤ i → i < p + n → l[i]?.getD 0 ≠ 10) : ∃ seen', Sre.run codeA l.toArray 9 n p f seen = .ok (f + n, seen') := by
  induction n generalizing p f seen with
  | zero => exact ⟨seen, rfl⟩
  | succ n ih =>
    have h0 : (l[p]?.getD 0 != 10) = true := by simpa using h p (Nat.le_refl _) (by omega)
    obtain ⟨seen', e⟩ := ih (p + 1) (f + 1) seen fun i h1 h2 => h i (by omega) (by omega)
    refine ⟨seen', ?_⟩
    unfold Sre.run
    have ha : accepts codeA 9 (l.toArray.getD p 0) seen = .ok (true, seen) := by
      simp [accepts, codeA, ops, h0]
    rw [ha]
    show Sre.run codeA l.toArray 9 n (p + 1) (f + 1) seen = _
    rw [e]
    congr 2; omega
/-- how far the signs from p are no bracket -/
def far (l : List Nat) (p : Nat) : Nat := ((l.drop p).takeWhile (· != 41)).length
theorem run_not (l : List Nat) (n p f : Nat) (seen : Seen) (hn : p + n = l.length) : ∃ seen', Sre.run codeA l.toArray 31 n p f seen = .ok (f + far l p, seen') := by
  induction n generalizing p f seen with
  | zero =>
    refine ⟨seen, ?_⟩
    have : l.drop p = [] := List.drop_eq_nil_iff.mpr (by omega)
    unfold Sre.run far; rw [this]; rfl
  | succ n ih =>
    have hp : p < l.length := by omega
    have hd : l.drop p = l[p] :: l.drop (p + 1) := List.drop_eq_getElem_cons hp
    unfold Sre.run
    by_cases h0 : (l[p] != 41) = true
    · obtain ⟨seen', e⟩ := ih (p + 1) (f + 1) seen (by omega)
      refine ⟨seen', ?_⟩
      have ha : accepts codeA 31 (l.toArray.getD p 0) seen = .ok (true, seen) := by
        simp [accepts, codeA, ops, hp]; simpa using h0
      rw [ha]
      show Sre.run codeA l.toArray 31 n (p + 1) (f + 1) seen = _
      rw [e]
      have : far l p = far l (p + 1) + 1 := by unfold far; rw [hd, List.takeWhile_cons, h0]; simp
      rw [this]; congr 2; omega
    · refine ⟨seen, ?_⟩
      have hb : (l[p] != 41) = false := by simpa using h0
      have ha : accepts codeA 31 (l.toArray.getD p 0) seen = .ok (false, seen) := by
        simp [accepts, codeA, ops, hp]; simpa using hb
      rw [ha]
      have : far l p = 0 := by unfold far; rw [hd, List.takeWhile_cons, hb]; simp
      rw [this]; rfl

theorem step_rep5 {l : List Nat} {seen : Seen} (h10 : ∀ i, i < l.length → l[i]?.getD 0 ≠ 10) (hz : l.length ≤ 100000) :
    ∃ seen', (mm l.toArray 5 0 0 true #[none, none] (-1) (-1) [] 0 none seen).step = mm l.toArray 11 l.length l.length true #[none, none] (-1) (-1) [gb 5 l.length true l.length (-1) (-1)] 1 none seen' := by
  obtain ⟨seen', e⟩ := run_any l 0 l.length 0 0 ((seen.add 24).add 2) (fun i _ hi => h10 i (by omega))
  have e' : Sre.run codeA l.toArray (5 + 4) (min 4294967295 ((l.length : Int) - 0).toNat) 0 0 ((seen.add 24).add 2) = .ok (l.length, seen') := by
    have : min 4294967295 ((l.length : Int) - 0).toNat = l.length := by omega
    rw [this, e, Nat.zero_add]
  refine ⟨seen', ?_⟩
  unfold M.step
  rw [if_neg (by exact Bool.false_ne_true)]
  show (if (5 : Nat) < 39 then M.exec (mm l.toArray 5 0 0 true #[none, none] (-1) (-1) [] 0 none seen) else _) = _
  rw [if_pos (by decide)]
  unfold M.exec
  show (if ((0 : Nat) : Int) > ((l.toArray.size : Int) - ((0 : Nat) : Int)) then _ else
    match Sre.run codeA l.toArray (5 + 4) (min 4294967295 ((l.toArray.size : Int) - ((0 : Nat) : Int)).toNat) 0 0 ((seen.add 24).add 2) with
      | .error why => _ | .ok (n, seen) => _) = _
  rw [if_neg (by simp)]
  simp only [List.size_toArray, Int.natCast_zero] at e' ⊢
  rw [e']
  simp [mm, M.afterRun, M.attempt, M.frame, M.keep, M.word, codeA, gb, ops]

theorem step_rep27 {l : List Nat} {seen : Seen} {pos handed wt : Nat} {marks : Array (Option Nat)} {frames : List Sre.Frame} (hp : pos ≤ l.length) (hz : l.length ≤ 100000) (hw : wt ≤ 100) :
    ∃ seen', (mm l.toArray 27 pos handed true marks 0 (-1) frames wt none seen).step = mm l.toArray 34 (pos + far l pos) (pos + far l pos) true marks 0 (-1) (gb 27 (pos + far l pos) true (far l pos : Nat) 0 (-1) :: frames) (wt + 1) none seen' := by
  obtain ⟨seen', e⟩ := run_not l (l.length - pos) pos 0 ((seen.add 24).add 20) (by omega)
  have e' : Sre.run codeA l.toArray (27 + 4) (min 4294967295 ((l.length : Int) - (pos : Nat)).toNat) pos 0 ((seen.add 24).add 20) = .ok (far l pos, seen') := by
    have : min 4294967295 ((l.length : Int) - (pos : Nat)).toNat = l.length - pos := by omega
    rw [this, e, Nat.zero_add]
  refine ⟨seen', ?_⟩
  unfold M.step
  rw [if_neg (by exact Bool.false_ne_true)]
  show (if (27 : Nat) < 39 then M.exec (mm l.toArray 27 pos handed true marks 0 (-1) frames wt none seen) else _) = _
  rw [if_pos (by decide)]
  unfold M.exec
  show (if ((0 : Nat) : Int) > ((l.toArray.size : Int) - ((pos : Nat) : Int)) then _ else
    match Sre.run codeA l.toArray (27 + 4) (min 4294967295 ((l.toArray.size : Int) - ((pos : Nat) : Int)).toNat) pos 0 ((seen.add 24).add 20) with
      | .error why => _ | .ok (n, seen) => _) = _
  rw [if_neg (by simp; omega)]
  simp only [List.size_toArray] at e' ⊢
  rw [e']
  have hw' : ¬ 16777216 < wt + 1 := by omega
  simp [mm, M.afterRun, M.attempt, M.frame, M.keep, M.word, codeA, gb, ops, hw']
theorem step_mark0 {text : Array Nat} {seen : Seen} {pos handed wt : Nat} {marks : Array (Option Nat)} {frames : List Sre.Frame} :
    ∃ seen', (mm text 25 pos handed true marks (-1) (-1) frames wt none seen).step = mm text 27 pos handed true (marks.setIfInBounds 0 (some pos)) 0 (-1) frames wt none seen' :=
  ⟨seen.add 17, by simp [M.step, mm, M.exec, M.word, codeA, ops, M.mark] <;> rfl⟩
theorem step_mark1 {text : Array Nat} {seen : Seen} {pos handed wt : Nat} {marks : Array (Option Nat)} {frames : List Sre.Frame} :
    ∃ seen', (mm text 34 pos handed true marks 0 (-1) frames wt none seen).step = mm text 36 pos handed true (marks.setIfInBounds 1 (some pos)) 1 1 frames wt none seen' :=
  ⟨seen.add 17, by simp [M.step, mm, M.exec, M.word, codeA, ops, M.mark] <;> rfl⟩
theorem step_succ {text : Array Nat} {seen : Seen} {pos handed wt : Nat} {marks : Array (Option Nat)} {lm li : Int} {frames : List Sre.Frame} :
    ∃ seen', (mm text 38 pos handed true marks lm li frames wt none seen).step = mm text 38 pos pos true marks lm li frames wt (some true) seen' :=
  ⟨seen.add 1, by simp [M.step, mm, M.exec, M.word, codeA, ops, M.say]⟩
/-- a frame that gives back one more -/
theorem step_back {text : Array Nat} {seen : Seen} {pc pos handed p wt q : Nat} {om om' : Bool} {marks : Array (Option Nat)} {lm li lm' li' c : Int} {rest : List Sre.Frame} (hq : q = 5 ∨ q = 27) (hc : 1 ≤ c) (hw : wt ≤ 100) :
    (mm text pc pos handed om marks lm li (gb q p om' c lm' li' :: rest) (wt + 1) (some false) seen).step =
      mm text (q + 1 + codeA.getD (q + 1) 0) (p - 1) (p - 1) om' marks lm' li' (gb q (p - 1) om' (c - 1) lm' li' :: rest) (wt + 1) none seen := by
  have h0 : ¬ c - 1 < 0 := by omega
  have hw' : ¬ 16777216 < wt + 1 := by omega
  rcases hq with rfl | rfl <;> simp [M.step, mm, gb, M.resume, M.putBack, M.say, M.word, codeA, h0, M.afterRun, M.attempt, M.frame, hw']
theorem step_backEnd {text : Array Nat} {seen : Seen} {pc pos handed p wt q : Nat} {om om' : Bool} {marks : Array (Option Nat)} {lm li lm' li' : Int} {rest : List Sre.Frame} (hq : q = 5 ∨ q = 27) :
    (mm text pc pos handed om marks lm li (gb q p om' 0 lm' li' :: rest) (wt + 1) (some false) seen).step = mm text q p handed om' marks lm' li' rest wt (some false) seen := by
  rcases hq with rfl | rfl <;> simp [M.step, mm, gb, M.resume, M.putBack, M.say, M.word, codeA]
theorem step_yes {text : Array Nat} {seen : Seen} {pc pos handed p wt q : Nat} {om om' : Bool} {marks : Array (Option Nat)} {lm li lm' li' c : Int} {rest : List Sre.Frame} :
    (mm text pc pos handed om marks lm li (gb q p om' c lm' li' :: rest) (wt + 1) (some true) seen).step = mm text q p handed om' marks lm li rest wt (some true) seen := by
  simp [M.step, mm, gb, M.resume, M.putBack, M.say]
theorem step_end {text : Array Nat} {seen : Seen} {pc pos handed wt : Nat} {om : Bool} {marks : Array (Option Nat)} {lm li : Int} {b : Bool} :
    (mm text pc pos handed om marks lm li [] wt (some b) seen).step = { mm text pc pos handed om marks lm li [] wt (some b) seen with outcome := some (if b then .matched else .failed) } := by
  simp [M.step, mm]
end Mine
end

section
open PySem PySem.Sre PySem.Builtin.Re
set_option Elab.async false
set_option maxRecDepth 100000
set_option linter.unusedVariables false
set_option linter.unusedSimpArgs false
namespace Mine
def FF : List Nat := [70, 76, 65, 71, 83, 32, 40]
def AtF (l : List Nat) (p : Nat) : Prop := ∀ i, i < 7 → l[p + i]? = FF[i]?
def Good (l : List Nat) (p : Nat) : Prop := AtF l p ∧ p + 7 + far l (p + 7) < l.length

variable {l : List Nat} {p handed wt : Nat} {marks : Array (Option Nat)} {lm li : Int} {frames : List Sre.Frame} {seen : Seen}

theorem y1 {pc pos c : Nat} (hc : pc < 39) (h1 : codeA.getD pc 0 = 16) (h2 : codeA.getD (pc + 1) 0 = c) (ht : l[pos]? = some c) :
    ∃ seen', (mm l.toArray pc pos handed true marks lm li frames wt none seen).step = mm l.toArray (pc + 2) (pos + 1) handed true marks lm li frames wt none seen' := by
  have hp : pos < l.length := (List.getElem?_eq_some_iff.mp ht).1
  exact lit_yes hc h1 h2 (by simpa using hp) (by simp [ht])
theorem n1 {pc pos c : Nat} (hc : pc < 39) (h1 : codeA.getD pc 0 = 16) (h2 : codeA.getD (pc + 1) 0 = c) (ht : l[pos]? ≠ some c) :
    ∃ seen', (mm l.toArray pc pos handed true marks lm li frames wt none seen).step = mm l.toArray pc pos handed true marks lm li frames wt (some false) seen' := by
  refine lit_no hc h1 h2 ?_
  by_cases hp : pos < l.length
  · right
    simp [hp]
    intro e; exact ht (by rw [List.getElem?_eq_getElem hp, e])
  · left; simp; omega

theorem lits_yes (h : AtF l p) : ∃ seen', Rb 7 (mm l.toArray 11 p handed true marks lm li frames wt none seen) (mm l.toArray 25 (p + 7) handed true marks lm li frames wt none seen') := by
  obtain ⟨s1, e1⟩ := y1 (handed := handed) (marks := marks) (lm := lm) (li := li) (frames := frames) (wt := wt) (seen := seen) (pc := 11) (by decide) (by decide) rfl (h 0 (by decide))
  obtain ⟨s2, e2⟩ := y1 (handed := handed) (marks := marks) (lm := lm) (li := li) (frames := frames) (wt := wt) (seen := s1) (pc := 13) (by decide) (by decide) rfl (h 1 (by decide))
  obtain ⟨s3, e3⟩ := y1 (handed := handed) (marks := marks) (lm := lm) (li := li) (frames := frames) (wt := wt) (seen := s2) (pc := 15) (by decide) (by decide) rfl (h 2 (by decide))
  obtain ⟨s4, e4⟩ := y1 (handed := handed) (marks := marks) (lm := lm) (li := li) (frames := frames) (wt := wt) (seen := s3) (pc := 17) (by decide) (by decide) rfl (h 3 (by decide))
  obtain ⟨s5, e5⟩ := y1 (handed := handed) (marks := marks) (lm := lm) (li := li) (frames := frames) (wt := wt) (seen := s4) (pc := 19) (by decide) (by decide) rfl (h 4 (by decide))
  obtain ⟨s6, e6⟩ := y1 (handed := handed) (marks := marks) (lm := lm) (li := li) (frames := frames) (wt := wt) (seen := s5) (pc := 21) (by decide) (by decide) rfl (h 5 (by decide))
  obtain ⟨s7, e7⟩ := y1 (handed := handed) (marks := marks) (lm := lm) (li := li) (frames := frames) (wt := wt) (seen := s6) (pc := 23) (by decide) (by decide) rfl (h 6 (by decide))
  exact ⟨s7, 7, Nat.le_refl _, by simp only [iter]; rw [show p = p + 0 from rfl, e1, e2, e3, e4, e5, e6, e7]⟩

/-- one literal: either it stands there, or the try is over -/
theorem one {pc pos c : Nat} (hc : pc < 39) (h1 : codeA.getD pc 0 = 16) (h2 : codeA.getD (pc + 1) 0 = c) {b : Nat}
    (hno : l[pos]? = some c → ∀ seen, ∃ pc' pos' seen', Rb b (mm l.toArray (pc + 2) (pos + 1) handed true marks lm li frames wt none seen) (mm l.toArray pc' pos' handed true marks lm li frames wt (some false) seen')) :
    ∀ seen, ∃ pc' pos' seen', Rb (b + 1) (mm l.toArray pc pos handed true marks lm li frames wt none seen) (mm l.toArray pc' pos' handed true marks lm li frames wt (some false) seen') := by
  intro seen
  by_cases h : l[pos]? = some c
  · obtain ⟨s1, e1⟩ := y1 (handed := handed) (marks := marks) (lm := lm) (li := li) (frames := frames) (wt := wt) (seen := seen) hc h1 h2 h
    obtain ⟨pc', pos', s2, k, hk, e2⟩ := hno h s1
    exact ⟨pc', pos', s2, k + 1, by omega, by rw [iter, e1]; exact e2⟩
  · obtain ⟨s1, e1⟩ := n1 (handed := handed) (marks := marks) (lm := lm) (li := li) (frames := frames) (wt := wt) (seen := seen) hc h1 h2 h
    exact ⟨pc, pos, s1, 1, by omega, e1⟩
theorem lits_no (h : ¬ AtF l p) : ∃ pc' pos' seen', Rb 7 (mm l.toArray 11 p handed true marks lm li frames wt none seen) (mm l.toArray pc' pos' handed true marks lm li frames wt (some false) seen') := by
  refine one (b := 6) (c := 70) (by decide) (by decide) (by decide) (fun h0 => ?_) seen
  refine one (b := 5) (c := 76) (by decide) (by decide) (by decide) fun h1 => ?_
  refine one (b := 4) (c := 65) (by decide) (by decide) (by decide) fun h2 => ?_
  refine one (b := 3) (c := 71) (by decide) (by decide) (by decide) fun h3 => ?_
  refine one (b := 2) (c := 83) (by decide) (by decide) (by decide) fun h4 => ?_
  refine one (b := 1) (c := 32) (by decide) (by decide) (by decide) fun h5 => ?_
  refine one (b := 0) (c := 40) (by decide) (by decide) (by decide) fun h6 => ?_
  refine absurd ?_ h
  intro i hi
  have : i = 0 ∨ i = 1 ∨ i = 2 ∨ i = 3 ∨ i = 4 ∨ i = 5 ∨ i = 6 := by omega
  rcases this with rfl | rfl | rfl | rfl | rfl | rfl | rfl <;> assumption

theorem far_le (q : Nat) (h : q ≤ l.length) : q + far l q ≤ l.length := by
  unfold far
  have := (List.takeWhile_prefix (p := (· != 41)) (l := l.drop q)).length_le
  simp at this; omega
theorem tw_mem {m : List Nat} {x : Nat} (h : x ∈ m.takeWhile (· != 41)) : x ≠ 41 := by
  induction m with
  | nil => cases h
  | cons a m ih =>
    rw [List.takeWhile_cons] at h
    by_cases ha : (a != 41) = true
    · rw [ha] at h
      rcases List.mem_cons.mp h with rfl | h
      · simpa using ha
      · exact ih h
    · rw [if_neg ha] at h; cases h
theorem tw_stop : ∀ {m : List Nat}, (m.takeWhile (· != 41)).length < m.length → m[(m.takeWhile (· != 41)).length]? = some 41
  | [], h => by cases h
  | a :: m, h => by
    rw [List.takeWhile_cons] at h ⊢
    by_cases ha : (a != 41) = true
    · rw [if_pos ha] at h ⊢
      simp only [List.length_cons, List.getElem?_cons_succ] at h ⊢
      exact tw_stop (by omega)
    · rw [if_neg ha]
      simp at ha
      simp [ha]
theorem far_before {q j : Nat} (h : j < far l q) : l[q + j]? ≠ some 41 := by
  unfold far at h
  intro e
  have h1 : l[q + j]? = (l.drop q)[j]? := by rw [List.getElem?_drop]
  obtain ⟨t, ht⟩ := List.takeWhile_prefix (p := (· != 41)) (l := l.drop q)
  rw [h1, ← ht, List.getElem?_append_left h] at e
  exact tw_mem (List.mem_of_getElem? e) rfl
theorem far_at {q : Nat} (h : q + far l q < l.length) : l[q + far l q]? = some 41 := by
  have h1 : l[q + far l q]? = (l.drop q)[far l q]? := by rw [List.getElem?_drop]
  rw [h1]
  exact tw_stop (by unfold far at h; simp; omega)

/-- behind the bracket's search: it gives back sign by sign, and falls -/
theorem inner_no {q : Nat} (hq : q ≤ l.length) (hz : l.length ≤ 100000) (hf : q + far l q = l.length) (hw : wt ≤ 50) : ∀ (j : Nat) (handed : Nat) (marks : Array (Option Nat)) (seen : Seen), j ≤ far l q → marks.size = 2 →
    ∃ handed' marks' seen', marks'.size = 2 ∧ Rb (3 * (j + 1)) (mm l.toArray 34 (q + j) handed true marks 0 (-1) (gb 27 (q + j) true (j : Nat) 0 (-1) :: frames) (wt + 1) none seen)
      (mm l.toArray 27 q handed' true marks' 0 (-1) frames wt (some false) seen') := by
  intro j
  induction j with
  | zero =>
    intro handed marks seen hj hm
    obtain ⟨s1, e1⟩ := step_mark1 (text := l.toArray) (pos := q) (handed := handed) (marks := marks) (frames := gb 27 q true (0 : Nat) 0 (-1) :: frames) (wt := wt + 1) (seen := seen)
    have hn : l[q]? ≠ some 41 := by
      by_cases h : 0 < far l q
      · exact far_before (j := 0) h
      · have : q = l.length := by omega
        intro e; rw [this, List.getElem?_eq_none (Nat.le_refl _)] at e; cases e
    obtain ⟨s2, e2⟩ := n1 (handed := handed) (marks := marks.setIfInBounds 1 (some q)) (lm := 1) (li := 1) (frames := gb 27 q true (0 : Nat) 0 (-1) :: frames) (wt := wt + 1) (seen := s1) (pc := 36) (by decide) (by decide) rfl hn
    refine ⟨handed, marks.setIfInBounds 1 (some q), s2, by simp [hm], 3, by omega, ?_⟩
    simp only [iter]
    rw [Nat.add_zero, e1, e2]
    exact step_backEnd (.inr rfl)
  | succ j ih =>
    intro handed marks seen hj hm
    obtain ⟨s1, e1⟩ := step_mark1 (text := l.toArray) (pos := q + (j + 1)) (handed := handed) (marks := marks) (frames := gb 27 (q + (j + 1)) true ((j + 1 : Nat) : Int) 0 (-1) :: frames) (wt := wt + 1) (seen := seen)
    have hn : l[q + (j + 1)]? ≠ some 41 := by
      by_cases h : j + 1 < far l q
      · exact far_before h
      · have : q + (j + 1) = l.length := by omega
        intro e; rw [this, List.getElem?_eq_none (Nat.le_refl _)] at e; cases e
    obtain ⟨s2, e2⟩ := n1 (handed := handed) (marks := marks.setIfInBounds 1 (some (q + (j + 1)))) (lm := 1) (li := 1) (frames := gb 27 (q + (j + 1)) true ((j + 1 : Nat) : Int) 0 (-1) :: frames) (wt := wt + 1) (seen := s1) (pc := 36) (by decide) (by decide) rfl hn
    have e3 := step_back (text := l.toArray) (seen := s2) (pc := 36) (pos := q + (j + 1)) (handed := handed) (p := q + (j + 1)) (wt := wt) (q := 27) (om := true) (om' := true) (marks := marks.setIfInBounds 1 (some (q + (j + 1)))) (lm := 1) (li := 1) (lm' := 0) (li' := -1) (c := ((j + 1 : Nat) : Int)) (rest := frames) (.inr rfl) (by omega) (by omega)
    obtain ⟨h', m', s', hm', k, hk, e4⟩ := ih (q + (j + 1) - 1) (marks.setIfInBounds 1 (some (q + (j + 1)))) s2 (by omega) (by simp [hm])
    refine ⟨h', m', s', hm', 3 + k, by omega, ?_⟩
    rw [iter_add]
    simp only [iter]
    rw [e1, e2, e3]
    have c1 : q + (j + 1) - 1 = q + j := by omega
    have c2 : ((j + 1 : Nat) : Int) - 1 = (j : Int) := by omega
    rw [c1, c2] at e3 ⊢
    rw [c1] at e4
    exact e4

def Aat (l : List Nat) (p : Nat) (marks : Array (Option Nat)) (seen : Seen) : M := mm l.toArray 11 p p true marks (-1) (-1) [gb 5 p true (p : Nat) (-1) (-1)] 1 none seen

theorem turn_no (hz : l.length ≤ 100000) (hm : marks.size = 2) (hp : p ≤ l.length) (h : ¬ Good l p) : ∃ pc' pos' handed' marks' lm' li' seen', marks'.size = 2 ∧ Rb (3 * l.length + 20) (Aat l p marks seen) (mm l.toArray pc' pos' handed' true marks' lm' li' [gb 5 p true (p : Nat) (-1) (-1)] 1 (some false) seen') := by
  by_cases hF : AtF l p
  · have hp7 : p + 7 ≤ l.length := by
      have := hF 6 (by decide)
      have := (List.getElem?_eq_some_iff.mp (show l[p + 6]? = some 40 from this)).1
      omega
    have hf : p + 7 + far l (p + 7) = l.length := by
      have := far_le (l := l) (p + 7) hp7
      have h' : ¬ p + 7 + far l (p + 7) < l.length := fun q => h ⟨hF, q⟩
      omega
    obtain ⟨s1, r1⟩ := lits_yes (handed := p) (marks := marks) (lm := -1) (li := -1) (frames := [gb 5 p true (p : Nat) (-1) (-1)]) (wt := 1) (seen := seen) hF
    obtain ⟨s2, e2⟩ := step_mark0 (text := l.toArray) (pos := p + 7) (handed := p) (marks := marks) (frames := [gb 5 p true (p : Nat) (-1) (-1)]) (wt := 1) (seen := s1)
    obtain ⟨s3, e3⟩ := step_rep27 (l := l) (pos := p + 7) (handed := p) (marks := marks.setIfInBounds 0 (some (p + 7))) (frames := [gb 5 p true (p : Nat) (-1) (-1)]) (wt := 1) (seen := s2) hp7 hz (by decide)
    obtain ⟨h', m', s', hm', r4⟩ := inner_no (wt := 1) (frames := [gb 5 p true (p : Nat) (-1) (-1)]) hp7 hz hf (by decide) (far l (p + 7)) (p + 7 + far l (p + 7)) (marks.setIfInBounds 0 (some (p + 7))) s3 (Nat.le_refl _) (by simp [hm])
    refine ⟨27, p + 7, h', m', 0, -1, s', hm', ?_⟩
    have r2 : Rb 2 (mm l.toArray 25 (p + 7) p true marks (-1) (-1) [gb 5 p true (p : Nat) (-1) (-1)] 1 none s1) _ := ⟨2, Nat.le_refl _, by simp only [iter]; rw [e2, e3]⟩
    exact ((r1.trans r2).trans r4).le (by omega)
  · obtain ⟨pc', pos', s', r⟩ := lits_no (handed := p) (marks := marks) (lm := -1) (li := -1) (frames := [gb 5 p true (p : Nat) (-1) (-1)]) (wt := 1) (seen := seen) hF
    exact ⟨pc', pos', p, marks, -1, -1, s', hm, r.le (by omega)⟩

/-- what the machine ends with -/
structure Found (m : M) (b e : Nat) : Prop where
  out : m.outcome = some .matched
  mks : m.marks = #[some b, some e]
  lm : m.lastmark = 1
  st : m.start = 0

theorem turn_yes (hz : l.length ≤ 100000) (hm : marks.size = 2) (h : Good l p) : ∃ m', Rb (3 * l.length + 20) (Aat l p marks seen) m' ∧ Found m' (p + 7) (p + 7 + far l (p + 7)) := by
  obtain ⟨hF, hf⟩ := h
  have hp7 : p + 7 ≤ l.length := by omega
  obtain ⟨s1, r1⟩ := lits_yes (handed := p) (marks := marks) (lm := -1) (li := -1) (frames := [gb 5 p true (p : Nat) (-1) (-1)]) (wt := 1) (seen := seen) hF
  obtain ⟨s2, e2⟩ := step_mark0 (text := l.toArray) (pos := p + 7) (handed := p) (marks := marks) (frames := [gb 5 p true (p : Nat) (-1) (-1)]) (wt := 1) (seen := s1)
  obtain ⟨s3, e3⟩ := step_rep27 (l := l) (pos := p + 7) (handed := p) (marks := marks.setIfInBounds 0 (some (p + 7))) (frames := [gb 5 p true (p : Nat) (-1) (-1)]) (wt := 1) (seen := s2) hp7 hz (by decide)
  obtain ⟨s4, e4⟩ := step_mark1 (text := l.toArray) (pos := p + 7 + far l (p + 7)) (handed := p + 7 + far l (p + 7)) (marks := marks.setIfInBounds 0 (some (p + 7))) (frames := gb 27 (p + 7 + far l (p + 7)) true (far l (p + 7) : Nat) 0 (-1) :: [gb 5 p true (p : Nat) (-1) (-1)]) (wt := 2) (seen := s3)
  obtain ⟨s5, e5⟩ := y1 (handed := p + 7 + far l (p + 7)) (marks := (marks.setIfInBounds 0 (some (p + 7))).setIfInBounds 1 (some (p + 7 + far l (p + 7)))) (lm := 1) (li := 1) (frames := gb 27 (p + 7 + far l (p + 7)) true (far l (p + 7) : Nat) 0 (-1) :: [gb 5 p true (p : Nat) (-1) (-1)]) (wt := 2) (seen := s4) (pc := 36) (by decide) (by decide) rfl (far_at hf)
  obtain ⟨s6, e6⟩ := step_succ (text := l.toArray) (pos := p + 7 + far l (p + 7) + 1) (handed := p + 7 + far l (p + 7)) (marks := (marks.setIfInBounds 0 (some (p + 7))).setIfInBounds 1 (some (p + 7 + far l (p + 7)))) (lm := 1) (li := 1) (frames := gb 27 (p + 7 + far l (p + 7)) true (far l (p + 7) : Nat) 0 (-1) :: [gb 5 p true (p : Nat) (-1) (-1)]) (wt := 2) (seen := s5)
  have r2 : Rb 8 (mm l.toArray 25 (p + 7) p true marks (-1) (-1) [gb 5 p true (p : Nat) (-1) (-1)] 1 none s1) _ := ⟨8, Nat.le_refl _, by simp only [iter]; rw [e2, e3, e4, e5, e6, step_yes, step_yes, step_end]⟩
  refine ⟨_, (r1.trans r2).le (by omega), rfl, ?_, rfl, rfl⟩
  obtain ⟨t⟩ := marks
  cases t with
  | nil => simp at hm
  | cons a t =>
    cases t with
    | nil => simp at hm
    | cons b t =>
      cases t with
      | nil => simp [mm]
      | cons _ _ => simp at hm

theorem search_no (hz : l.length ≤ 100000) : ∀ (p : Nat) (marks : Array (Option Nat)) (seen : Seen), marks.size = 2 → p ≤ l.length → (∀ p', p' ≤ p → ¬ Good l p') → ∃ m', Rb ((p + 1) * (3 * l.length + 22)) (Aat l p marks seen) m' ∧ m'.outcome = some .failed := by
  intro p
  induction p with
  | zero =>
    intro marks seen hm hp h
    obtain ⟨pc', pos', h', m', lm', li', s', hm', r⟩ := turn_no (seen := seen) hz hm hp (h 0 (Nat.le_refl _))
    refine ⟨_, (r.trans ⟨2, Nat.le_refl _, by simp only [iter]; rw [show (((0 : Nat) : Int)) = 0 from rfl, step_backEnd (wt := 0) (.inl rfl), step_end]⟩).le (by omega), rfl⟩
  | succ p ih =>
    intro marks seen hm hp h
    obtain ⟨pc', pos', h', m', lm', li', s', hm', r⟩ := turn_no (seen := seen) hz hm hp (h _ (Nat.le_refl _))
    obtain ⟨mf, r2, ho⟩ := ih m' s' hm' (by omega) fun p' hp' => h p' (by omega)
    refine ⟨mf, (r.trans (Rb.trans (a := 1) ⟨1, Nat.le_refl _, ?_⟩ r2)).le ?_, ho⟩
    · simp only [iter]
      rw [step_back (wt := 0) (.inl rfl) (by omega) (by decide)]
      have c2 : ((p + 1 : Nat) : Int) - 1 = (p : Int) := by omega
      rw [c2]; rfl
    · rw [Nat.add_mul (p + 1) 1]; omega
theorem search_yes (hz : l.length ≤ 100000) {p₀ : Nat} (hg : Good l p₀) : ∀ (p : Nat) (marks : Array (Option Nat)) (seen : Seen), marks.size = 2 → p ≤ l.length → p₀ ≤ p → (∀ p', p₀ < p' → p' ≤ p → ¬ Good l p') →
    ∃ m', Rb ((p + 1) * (3 * l.length + 22)) (Aat l p marks seen) m' ∧ Found m' (p₀ + 7) (p₀ + 7 + far l (p₀ + 7)) := by
  intro p
  induction p with
  | zero =>
    intro marks seen hm hp hp0 h
    have : p₀ = 0 := by omega
    subst this
    obtain ⟨m', r, f⟩ := turn_yes (seen := seen) hz hm hg
    exact ⟨m', r.le (by omega), f⟩
  | succ p ih =>
    intro marks seen hm hp hp0 h
    by_cases e : p₀ = p + 1
    · subst e
      obtain ⟨m', r, f⟩ := turn_yes (seen := seen) hz hm hg
      exact ⟨m', r.le (by rw [Nat.add_mul (p + 1) 1]; omega), f⟩
    obtain ⟨pc', pos', h', m', lm', li', s', hm', r⟩ := turn_no (seen := seen) hz hm hp (h _ (by omega) (Nat.le_refl _))
    obtain ⟨mf, r2, ho⟩ := ih m' s' hm' (by omega) (by omega) fun p' h1 hp' => h p' h1 (by omega)
    refine ⟨mf, (r.trans (Rb.trans (a := 1) ⟨1, Nat.le_refl _, ?_⟩ r2)).le ?_, ho⟩
    · simp only [iter]
      rw [step_back (wt := 0) (.inl rfl) (by omega) (by decide)]
      have c2 : ((p + 1 : Nat) : Int) - 1 = (p : Int) := by omega
      rw [c2]; rfl
    · rw [Nat.add_mul (p + 1) 1]; omega
end Mine
end

section
open PySem PySem.W PyProof.Rows PySem.Calls PySem.SeqAt PySem.StrLaws PySem.Builtin PySem.Builtin.Str PySem.Builtin.Re
set_option Elab.async false
set_option maxRecDepth 100000
set_option linter.unusedVariables false
set_option maxHeartbeats 4000000
namespace Mine
theorem pat_plain : PlainAttrs "re.Pattern" :=
  ⟨⟨"object.__getattribute__", by rw [typeLookup_type, builtinLookup_eq_fast]; kernel_rfl, by decide +kernel⟩, by rw [typeLookup_type, builtinLookup_eq_fast]; kernel_rfl⟩
theorem mat_plain : PlainAttrs "re.Match" :=
  ⟨⟨"object.__getattribute__", by rw [typeLookup_type, builtinLookup_eq_fast]; kernel_rfl, by decide +kernel⟩, by rw [typeLookup_type, builtinLookup_eq_fast]; kernel_rfl⟩
theorem pat_slot : Slot "re.Pattern" "match" "re.Pattern.match" :=
  .of (owner := "re.Pattern") (n := "match") (by rw [typeLookup_type, builtinLookup_eq_fast]; kernel_rfl) (by decide +kernel) (by decide +kernel) (by decide +kernel)
    (by first | exact .inl (by decide +kernel) | exact .inr (by decide +kernel)) (by rw [isSubtype_type]; kernel_rfl)
theorem pat_type : typeOf (.builtin "re.Pattern.match") = pure (.type "method_descriptor") := by show builtinType _ = _; rw [builtinType_eq_fast]; kernel_rfl
theorem pat_entry : entryFor table "re.Pattern.match" = some Builtin.«re.Pattern.match» := by first | exact entryFor_of_fast (by kernel_rfl) | exact entryFor_of_tree (by kernel_rfl)
theorem pat_args (a b : Value) : argsOk "re.Pattern.match" ⟨[a, b], []⟩ := by unfold argsOk; kernel_rfl
theorem mat_slot : Slot "re.Match" "group" "re.Match.group" :=
  .of (owner := "re.Match") (n := "group") (by rw [typeLookup_type, builtinLookup_eq_fast]; kernel_rfl) (by decide +kernel) (by decide +kernel) (by decide +kernel)
    (by first | exact .inl (by decide +kernel) | exact .inr (by decide +kernel)) (by rw [isSubtype_type]; kernel_rfl)
theorem mat_type : typeOf (.builtin "re.Match.group") = pure (.type "method_descriptor") := by show builtinType _ = _; rw [builtinType_eq_fast]; kernel_rfl
theorem mat_entry : entryFor table "re.Match.group" = some Builtin.«re.Match.group» := by first | exact entryFor_of_fast (by kernel_rfl) | exact entryFor_of_tree (by kernel_rfl)
theorem mat_args (a b : Value) : argsOk "re.Match.group" ⟨[a, b], []⟩ := by unfold argsOk; kernel_rfl
theorem spl_slot : Slot "bytes" "split" "bytes.split" :=
  .of (owner := "bytes") (n := "split") (by rw [typeLookup_type, builtinLookup_eq_fast]; kernel_rfl) (by decide +kernel) (by decide +kernel) (by decide +kernel)
    (by first | exact .inl (by decide +kernel) | exact .inr (by decide +kernel)) (by rw [isSubtype_type]; kernel_rfl)
theorem spl_type : typeOf (.builtin "bytes.split") = pure (.type "method_descriptor") := by show builtinType _ = _; rw [builtinType_eq_fast]; kernel_rfl
theorem spl_entry : entryFor table "bytes.split" = some Builtin.«bytes.split» := by first | exact entryFor_of_fast (by kernel_rfl) | exact entryFor_of_tree (by kernel_rfl)
theorem spl_args (a : Value) : argsOk "bytes.split" ⟨[a], []⟩ := by
  first
  | (unfold argsOk; kernel_rfl)
  | (unfold argsOk; rw [signature?_of (id := "bytes.split") (n := ['t', 'i', 'l', 'p', 's']) (o := ['s', 'e', 't', 'y', 'b']) (by kernel_rfl) PySem.W.FB.owner_bytes]; kernel_rfl)
theorem named_eq (v : Value) : reNamed "re.Pattern.match" "match" ["string", "pos", "endpos"] 1 [v] [] = pure [some v, none, none] := by rfl
end Mine
end

section
open PySem PySem.W PyProof.Rows PySem.Calls PySem.SeqAt PySem.StrLaws PySem.Builtin PySem.Builtin.Str PySem.Builtin.Re
set_option Elab.async false
set_option maxRecDepth 100000
set_option linter.unusedVariables false
set_option maxHeartbeats 4000000
namespace Mine
section
variable {r : Bool} {prog : Program} {w : World} {A : Around} {E : Value → Shared → Prop} {s₀ s s' : Shared} {n : Nat} {L : Addr} {C : List (Addr × Held)} {O : List (Addr × List Value)} {loc : List (Str × Value)} {Γ : Pred} {env : Env} {Q : Value → Shared → Prop}

theorem wp_drive {M : Model} {Q : Sre.M → Shared → Prop} : ∀ (t k : Nat) (m m' : Sre.M), k < 4 * t → iter k m = m' → m'.outcome.isSome = true → Q m' s → wpAny M A (reDrive t m) Q E s := by
  intro t
  induction t with
  | zero => intro k m m' h; omega
  | succ t ih =>
    intro k m m' hk e ho h
    unfold reDrive
    have e4 : m.runFor reTurnSteps = iter 4 m := runFor_iter 4 m
    rw [e4]
    by_cases hd : (iter 4 m).outcome.isSome = true
    · have : iter 4 m = m' := by
        by_cases h4 : k ≤ 4
        · have : iter 4 m = iter (4 - k) (iter k m) := by rw [← iter_add]; congr 1; omega
          rw [this, e, iter_done ho]
        · have : iter k m = iter (k - 4) (iter 4 m) := by rw [← iter_add]; congr 1; omega
          rw [← e, this, iter_done hd]
      rw [this, if_pos ho]
      exact wpAny_pure h
    · have h4 : ¬ k ≤ 4 := fun h4 => by
        have : iter 4 m = iter (4 - k) (iter k m) := by rw [← iter_add]; congr 1; omega
        rw [this, e, iter_done ho] at hd
        exact hd ho
      rw [if_neg hd]
      refine wpAny_bind (wpAny_rule (ih (k - 4) (iter 4 m) m' (by omega) ?_ ho h))
      rw [← iter_add, ← e]; congr 1; omega

theorem wp_rules {M : Model} {Q : PUnit → Shared → Prop} (m : Sre.M) (h : Q ⟨⟩ s) : ∀ l : List Nat, wpAny M A (forIn l (⟨⟩ : PUnit) fun i (_ : PUnit) => if m.seen.has i = true then (do rule (Sre.names.getD i ""); pure (.yield ⟨⟩) : Sem (ForInStep PUnit)) else pure (.yield ⟨⟩)) Q E s := by
  intro l
  refine wpAny_forIn_list _ (fun _ _ s' => s' = s) Q ?_ (fun _ _ e => e ▸ h) l ⟨⟩ rfl
  rintro x rest _ s' rfl
  by_cases hx : m.seen.has x = true
  · rw [if_pos hx]; exact wpAny_bind (wpAny_rule (wpAny_pure rfl))
  · rw [if_neg hx]; exact wpAny_pure rfl

theorem wp_run {M : Model} {Q : Option Sre.M → Shared → Prop} {m m' : Sre.M} {b : Nat} (hb : b < 2 ^ 65) (r : Rb b m m') (ho : (m'.outcome = some .matched ∧ Q (some m') s) ∨ (m'.outcome = some .failed ∧ Q none s)) : wpAny M A (reRunToEnd m) Q E s := by
  obtain ⟨k, hk, e⟩ := r
  have hsome : m'.outcome.isSome = true := by rcases ho with ⟨h, _⟩ | ⟨h, _⟩ <;> rw [h] <;> rfl
  unfold reRunToEnd
  refine wpAny_bind (wp_drive (2 ^ 64) k m m' (by omega) e hsome ?_)
  refine wpAny_bind (wp_rules m' ?_ _)
  rcases ho with ⟨h, q⟩ | ⟨h, q⟩
  · rw [h]; exact wpAny_pure q
  · rw [h]; exact wpAny_pure q

def patObj : Obj := { cls := .type "re.Pattern", data := .fields #[.bytes #[46, 42, 70, 76, 65, 71, 83, 32, 92, 40, 40, 63, 80, 60, 102, 108, 97, 103, 115, 62, 91, 94, 92, 41, 93, 42, 41, 92, 41] 285, .int 0 331, .int 1 0, .ref 33, .ref 34, .ref 35, .int 1 0] }
theorem pat_at (B : Base w s.heap) : s.heap.get? 36 = some patObj := B.K 36 _ (by kernel_rfl)
def codeObj : Obj := { cls := .type "tuple", data := .seq (codeA.map fun c => .int (c : Nat) 0) }
theorem code_at (B : Base w s.heap) : s.heap.get? 35 = some codeObj := B.K 35 _ (by kernel_rfl)
theorem code_back : ((codeA.map fun c => Value.int (c : Nat) 0).map reRawOf).map (·.toNat) = codeA := by decide +kernel

theorem B8_nat {l : List Nat} (h : ∀ c ∈ l, c < 256) : (B8 l).map (·.toNat) = l.toArray := by
  unfold B8
  rw [List.map_toArray, List.map_map]
  congr 1
  have : ∀ c ∈ l, (UInt8.toNat ∘ Nat.toUInt8) c = c := fun c hc => by
    simp [Nat.toUInt8, UInt8.toNat_ofNat', Nat.mod_eq_of_lt (h c hc)]
  rw [List.map_congr_left this]; simp

theorem wp_target {b : Array UInt8} {t : Tok} {Q : ReTarget → Shared → Prop} (B : Base w s.heap)
    (h : Q { pattern := .ref 36, string := .bytes b t, code := codeA, text := b.map (·.toNat), kind := 1, groups := 1, pos := 0, lim := (b.map (·.toNat)).size } s) (hz : b.size < 2 ^ 63) :
    wpAny (model prog w) A (reTarget "re.Pattern.match" "match" ⟨[.ref 36, .bytes b t], []⟩) Q E s := by
  unfold reTarget
  show wpAny _ _ (reNamed "re.Pattern.match" "match" ["string", "pos", "endpos"] 1 [.bytes b t] [] >>= _) _ _ s
  refine wpAny_bind (wpAny_of_eq (named_eq _) ?_)
  show wpAny _ _ (fieldsOf (.ref 36) >>= _) _ _ s
  refine wpAny_bind (wpAny_fieldsOf (pat_at B) rfl ?_)
  show wpAny _ _ (reTextOf (.bytes b t) >>= _) _ _ s
  have e1 : reTextOf (.bytes b t) = pure (b.map (·.toNat), 1) := by
    unfold reTextOf
    show (Bytes.bufferQuiet? "_sre" (.bytes b t) >>= _) = _
    rw [PySem.W.KBy.quiet_eq]
    rfl
  refine wpAny_bind (wpAny_of_eq e1 ?_)
  show wpAny _ _ (reNoCollectionInside (.bytes b t) 1 >>= _) _ _ s
  have e2 : reNoCollectionInside (.bytes b t) 1 = pure () := by
    unfold reNoCollectionInside
    show (isInstance (.bytes b t) (.type "bytes") >>= _) = _
    rw [PySem.W.KBy.isInstance_eq]
    rfl
  refine wpAny_bind (wpAny_of_eq e2 ?_)
  show wpAny _ _ (reRawItems (.ref 35) >>= _) _ _ s
  refine wpAny_bind ?_
  unfold reRawItems
  refine wpAny_bind (wpAny_seqItems (code_at B) rfl (wpAny_pure ?_))
  refine wpAny_pure ?_
  have e3 : (((some (codeA.map fun c => Value.int (c : Nat) 0)).getD #[]).map reRawOf).map (·.toNat) = codeA := code_back
  rw [e3]
  have e4 : min (Int.toNat 0) (b.map (·.toNat)).size = 0 := Nat.zero_min _
  have e5 : min (Int.toNat (2 ^ 63 - 1)) (b.map (·.toNat)).size = (b.map (·.toNat)).size := by
    have : (2 ^ 63 - 1 : Int).toNat = 2 ^ 63 - 1 := by decide
    rw [this]; simp; omega
  show Q { pattern := .ref 36, string := .bytes b t, code := codeA, text := b.map (·.toNat), kind := 1, groups := 1, pos := min (Int.toNat 0) (b.map (·.toNat)).size, lim := min (Int.toNat (2 ^ 63 - 1)) (b.map (·.toNat)).size } s
  rw [e4, e5]; exact h
end
end Mine
end

section
open PySem PySem.W PyProof.Rows PySem.Calls PySem.SeqAt PySem.StrLaws PySem.Builtin PySem.Builtin.Str PySem.Builtin.Re
set_option Elab.async false
set_option maxRecDepth 100000
set_option linter.unusedVariables false
set_option maxHeartbeats 4000000
namespace Mine
section
variable {r : Bool} {prog : Program} {w : World} {A : Around} {E : Value → Shared → Prop} {s₀ s s' : Shared} {n : Nat} {L : Addr} {C : List (Addr × Held)} {O : List (Addr × List Value)} {loc : List (Str × Value)} {Γ : Pred} {env : Env} {Q : Value → Shared → Prop}

theorem wp_eq {α : Type} {M : Model} {t u : Sem α} {Q : α → Shared → Prop} (h : t = u) (q : wpAny M A u Q E s) : wpAny M A t Q E s := h ▸ q
/-- the last place where FLAGS ( stands with a bracket behind it -/
def LastGood (l : List Nat) (p : Nat) : Prop := Good l p ∧ ∀ p', p < p' → p' ≤ l.length → ¬ Good l p'
def NoGood (l : List Nat) : Prop := ∀ p, p ≤ l.length → ¬ Good l p

theorem to_search {l : List Nat} (h10 : ∀ c ∈ l, c ≠ 10) (hz : l.length ≤ 100000) (h8 : 8 ≤ l.length) :
    ∃ seen, Rb 1 (Sre.forMatch codeA l.toArray 1 0 l.toArray.size false false) (Aat l l.length #[none, none] seen) := by
  rw [start_eq h8]
  have h : ∀ i, i < l.length → l[i]?.getD 0 ≠ 10 := fun i hi => by
    rw [List.getElem?_eq_getElem hi]; exact h10 _ (List.getElem_mem hi)
  obtain ⟨seen, e⟩ := step_rep5 (seen := ({} : Sre.Seen).add 14) h hz
  exact ⟨seen, 1, Nat.le_refl _, e⟩
theorem m_yes {l : List Nat} (h10 : ∀ c ∈ l, c ≠ 10) (hz : l.length ≤ 100000) {p : Nat} (hg : LastGood l p) :
    ∃ m', Rb (1 + (l.length + 1) * (3 * l.length + 22)) (Sre.forMatch codeA l.toArray 1 0 l.toArray.size false false) m' ∧ Found m' (p + 7) (p + 7 + far l (p + 7)) := by
  have h8 : 8 ≤ l.length := by have := hg.1.2; omega
  obtain ⟨seen, r⟩ := to_search h10 hz h8
  obtain ⟨m', r', f⟩ := search_yes hz hg.1 l.length #[none, none] seen rfl (Nat.le_refl _) (by have := hg.1.2; omega) hg.2
  exact ⟨m', r.trans r', f⟩
theorem m_no {l : List Nat} (h10 : ∀ c ∈ l, c ≠ 10) (hz : l.length ≤ 100000) (hg : NoGood l) :
    ∃ m', Rb (1 + (l.length + 1) * (3 * l.length + 22)) (Sre.forMatch codeA l.toArray 1 0 l.toArray.size false false) m' ∧ m'.outcome = some .failed := by
  by_cases h8 : 8 ≤ l.length
  · obtain ⟨seen, r⟩ := to_search h10 hz h8
    obtain ⟨m', r', f⟩ := search_no hz l.length #[none, none] seen rfl (Nat.le_refl _) hg
    exact ⟨m', r.trans r', f⟩
  · obtain ⟨m, e, ho, hf⟩ := short_eq (l := l) (by omega)
    rw [e]
    refine ⟨(m.say false).step, Rb.le Rb.step (Nat.le_add_right _ _), ?_⟩
    unfold Sre.M.step Sre.M.say
    simp [ho, hf]
theorem few {k : Nat} (hz : k ≤ 100000) : 1 + (k + 1) * (3 * k + 22) < 2 ^ 65 := by
  have : (k + 1) * (3 * k + 22) ≤ 100001 * 300022 := Nat.mul_le_mul (by omega) (by omega)
  have : (100001 * 300022 : Nat) < 2 ^ 64 := by decide
  omega

/-- a match, as the machine found it -/
def IsMatch (a : Addr) (l : List Nat) (t : Tok) (b e : Nat) (h : Heap) : Prop :=
  ∃ tup i j k li, h.get? a = some { cls := .type "re.Match", data := .fields #[.bytes (B8 l) t, .ref 36, .int i 0, .int j 0, .int li 0, .ref tup] } ∧
    h.get? tup = some { cls := .type "tuple", data := .seq #[.int 0 0, .int k 0, .int (b : Nat) 0, .int (e : Nat) 0] }

theorem c_match {l : List Nat} {t : Tok} (B : Base w s.heap) (h10 : ∀ c ∈ l, c ≠ 10) (h256 : ∀ c ∈ l, c < 256) (hz : l.length ≤ 100000)
    (h : (NoGood l ∧ Q .none s) ∨ (∃ p, LastGood l p ∧ Back s (fun v h => ∃ a, v = .ref a ∧ IsMatch a l t (p + 7) (p + 7 + far l (p + 7)) h) Q)) :
    wpAny (model prog w) A (call (.builtin "re.Pattern.match") [.ref 36, .bytes (B8 l) t]) Q E s := by
  refine wpAny_call_entry pat_slot ⟨_, pat_at B, rfl⟩ pat_entry ?_ (pat_args _ _)
  unfold Builtin.«re.Pattern.match»
  have hsz : (B8 l).size = l.length := by simp [B8]
  refine wpAny_bind (wp_target B ?_ (by rw [hsz]; have : (100000 : Nat) < 2 ^ 63 := by decide
                                        omega))
  rw [B8_nat h256]
  unfold reAnswer
  rcases h with ⟨hg, h⟩ | ⟨p, hg, h⟩
  · obtain ⟨m', r, ho⟩ := m_no h10 hz hg
    refine wpAny_bind (wp_run (few hz) r (.inr ⟨ho, ?_⟩))
    exact wpAny_pure ⟨_, rfl, h⟩
  · obtain ⟨m', r, f⟩ := m_yes h10 hz hg
    refine wpAny_bind (wp_run (few hz) r (.inl ⟨f.out, ?_⟩))
    refine wpAny_bind ?_
    unfold reNewMatch
    have hb : ¬ (p + 7 + far l (p + 7) < p + 7) := by omega
    simp only [List.range_succ, List.range_zero, List.nil_append, List.flatMap_cons, List.flatMap_nil, List.any_cons, List.any_nil, f.mks, f.lm, f.st]
    have hc : ((match (#[some (p + 7), some (p + 7 + far l (p + 7))] : Array (Option Nat)).getD (2 * 0) none,
              (#[some (p + 7), some (p + 7 + far l (p + 7))] : Array (Option Nat)).getD (2 * 0 + 1) none with
            | some b, some e => decide (((2 * 0 + 1 : Nat) : Int) ≤ 1) && decide (e < b)
            | x, x_1 => false) || false) = false := by
      show (decide (((2 * 0 + 1 : Nat) : Int) ≤ 1) && decide (p + 7 + far l (p + 7) < p + 7) || false) = false
      simp
    refine wp_eq (if_neg (fun q => Bool.false_ne_true (hc.symm.trans q))) ?_
    refine wpAny_bind (wpAny_newTuple ?_ (by show 4 ≤ 16777216; decide))
    refine wpAny_newObj_type ?_ (by size_fits)
    refine wpAny_pure ⟨_, rfl, h _ _ ⟨_, _, rfl⟩ ((Ext.push _ _).trans (Ext.push _ _)) ⟨_, rfl, ?_⟩⟩
    refine ⟨s.heap.objs.size, ((0 : Nat) : Int), ((l.toArray.size : Nat) : Int), ((m'.handed : Nat) : Int), m'.lastindex, Heap.get?_push_size _ rfl, ?_⟩
    exact Heap.get?_push_of_some _ (Heap.get?_push_size _ rfl)
end
end Mine
end

section
open PySem PySem.W PyProof.Rows PySem.Calls PySem.SeqAt PySem.StrLaws PySem.Builtin PySem.Builtin.Str PySem.Builtin.Re
set_option Elab.async false
set_option maxRecDepth 100000
set_option linter.unusedVariables false
set_option maxHeartbeats 4000000
namespace Mine
theorem mat_noBool : typeLookup (.type "re.Match") "__bool__" = pure none := by rw [typeLookup_type, builtinLookup_eq_fast]; kernel_rfl
theorem mat_noLen : typeLookup (.type "re.Match") "__len__" = pure none := by rw [typeLookup_type, builtinLookup_eq_fast]; kernel_rfl
theorem str_noIndex : typeLookup (.type "str") "__index__" = pure none := by rw [typeLookup_type, builtinLookup_eq_fast]; kernel_rfl
section
variable {r : Bool} {prog : Program} {w : World} {A : Around} {E : Value → Shared → Prop} {s₀ s s' : Shared} {n : Nat} {L : Addr} {C : List (Addr × Held)} {O : List (Addr × List Value)} {loc : List (Str × Value)} {Γ : Pred} {env : Env} {Q : Value → Shared → Prop}

theorem truthy_match {a : Addr} {M : Model} {Q : Bool → Shared → Prop} (hT : s.TypeIs (.ref a) "re.Match") (h : Q true s) : wpAny M A (truthy (.ref a)) Q E s := by
  unfold truthy
  refine wpAny_bind (wpAny_callSpecial?_none (name := Str.ofString "__bool__") hT mat_noBool ?_)
  refine wpAny_bind (wpAny_specialOf (name := Str.ofString "__len__") hT mat_noLen ?_)
  exact wpAny_pure h

theorem keys33 (P : Params) : KeysLit P [{ hash := PyData.keyHash P (Str.ofString "flags"), key := Value.str (Str.ofString "flags") 327, val := Value.int 1 328 }] := ⟨⟨_, _, rfl, rfl⟩, trivial⟩
theorem get33 {t : Tok} {Q : Option Value → Shared → Prop} (B : Base w s.heap) (h : Q (some (.int 1 328)) { s with toks := s.toks + 1 }) :
    wpAny (model prog w) A (dictGet 33 (.str (Str.ofString "flags") t)) Q E s := by
  have hl : (hd.heap_39 w.params).lookup 33 = some ⟨.type "dict", none, .dict #[{ hash := PyData.keyHash w.params (Str.ofString "flags"), key := Value.str (Str.ofString "flags") 327, val := Value.int 1 328 }] 1, #[]⟩ := by kernel_rfl
  refine wpAny_dictGet_of (strKind_is prog w _ t) (mapOf_K B.K hl (keys33 _)) ?_
  exact h

theorem raw_tuple {M : Model} {a : Addr} {xs : Array Value} {Q : Array Int → Shared → Prop} {ys : Array Int} (ho : s.heap.get? a = some { cls := .type "tuple", data := .seq xs }) (hy : xs.map reRawOf = ys) (h : Q ys s) :
    wpAny M A (reRawItems (.ref a)) Q E s := by
  subst hy
  unfold reRawItems
  exact wpAny_bind (wpAny_seqItems ho rfl (wpAny_pure h))

theorem textOf_bytes (b : Array UInt8) (t : Tok) : reTextOf (.bytes b t) = pure (b.map (·.toNat), 1) := by
  unfold reTextOf
  show (Bytes.bufferQuiet? "_sre" (.bytes b t) >>= _) = _
  rw [PySem.W.KBy.quiet_eq]
  rfl
theorem cutB8 {l : List Nat} (h256 : ∀ c ∈ l, c < 256) (b e : Nat) : (((B8 l).map (·.toNat)).extract b e).map (·.toUInt8) = B8 ((l.drop b).take (e - b)) := by
  rw [B8_nat h256]
  unfold B8
  rw [List.extract_toArray, List.map_toArray]
theorem c_group {a : Addr} {l : List Nat} {t u : Tok} {b e : Nat} (B : Base w s.heap) (h256 : ∀ c ∈ l, c < 256) (hz : l.length ≤ 100000) (hm : IsMatch a l t b e s.heap)
    (h : ∀ tk t', Q (.bytes (B8 ((l.drop b).take (e - b))) t') { s with toks := tk }) :
    wpAny (model prog w) A (call (.builtin "re.Match.group") [.ref a, .str (Str.ofString "flags") u]) Q E s := by
  obtain ⟨tup, i, j, k, li, h1, h2⟩ := hm
  refine wpAny_call_entry mat_slot ⟨_, h1, rfl⟩ mat_entry ?_ (mat_args _ _)
  unfold Builtin.«re.Match.group»
  refine wpAny_bind (wpAny_of_eq (a := ()) (by rfl) ?_)
  show wpAny _ _ (reFound (.ref a) >>= _) _ _ s
  refine wpAny_bind ?_
  unfold reFound
  refine wpAny_bind (wpAny_fieldsOf h1 rfl (wpAny_bind (raw_tuple (ys := #[0, k, b, e]) h2 (by simp [reRawOf]) (wpAny_pure ?_))))
  show wpAny _ _ (reGroupNumber _ (.str (Str.ofString "flags") u) >>= _) _ _ s
  refine wpAny_bind ?_
  unfold reGroupNumber
  show wpAny _ _ (asInt? (.str (Str.ofString "flags") u) >>= _) _ _ s
  refine wpAny_bind (wpAny_of_eq (a := none) (by rfl) ?_)
  refine wpAny_bind (wpAny_specialOf (name := Str.ofString "__index__") (typeIs_str _ _ _) str_noIndex ?_)
  show wpAny _ _ (fieldsOf (.ref 36) >>= _) _ _ s
  refine wpAny_bind (wpAny_fieldsOf (pat_at B) rfl ?_)
  show wpAny _ _ (dictGet 33 _ >>= _) _ _ s
  refine wpAny_bind (get33 B ?_)
  refine wpAny_bind (wpAny_of_eq (a := some 1) (by rfl) ?_)
  refine wpAny_bind (wpAny_pure ?_)
  show wpAny _ _ (if _ then _ else _) _ _ _
  rw [if_neg (by simp)]
  refine wpAny_pure ?_
  show wpAny _ _ (reGroupText _ 1 .none >>= _) _ _ _
  refine wpAny_bind ?_
  unfold reGroupText
  have hb : ¬ ((b : Nat) : Int) < 0 := by omega
  have he : ¬ ((e : Nat) : Int) < 0 := by omega
  refine wp_eq (if_neg (c := (decide (((b : Nat) : Int) < 0) || decide (((e : Nat) : Int) < 0)) = true) (by simp only [hb, he]; decide)) ?_
  refine wpAny_bind (wpAny_of_eq (textOf_bytes _ _) ?_)
  show wpAny _ _ (mkBytes _) _ _ _
  have e1 : (((B8 l).map (·.toNat)).extract b e).map (·.toUInt8) = B8 ((l.drop b).take (e - b)) := cutB8 h256 b e
  show wpAny _ _ (mkBytes ((((B8 l).map (·.toNat)).extract b e).map (·.toUInt8))) _ _ _
  rw [e1]
  refine wpAny_mkBytes ?_ ?_
  · exact wpAny_pure ⟨_, rfl, h _ _⟩
  · simp [B8]; show _ ≤ 16777216; omega
end
end Mine
end

section
open PySem PySem.W PyProof.Rows PySem.Calls PySem.SeqAt PySem.StrLaws PySem.Builtin PySem.Builtin.Str PySem.Builtin.Re
set_option Elab.async false
set_option maxRecDepth 100000
set_option linter.unusedVariables false
set_option maxHeartbeats 4000000
namespace Mine
open Builtin.Bytes (words isSpace)
/-- a sign that no cut between words falls on -/
def Sg (c : Nat) : Prop := isSpace c.toUInt8 = false
def U8 (l : List Nat) : List UInt8 := l.map Nat.toUInt8
theorem sg_of {c : Nat} (h : c < 256) (h1 : c ≠ 32) (h2 : c < 9 ∨ 13 < c) : Sg c := by
  have : ∀ c : Fin 256, c.val ≠ 32 → (c.val < 9 ∨ 13 < c.val) → isSpace c.val.toUInt8 = false := by decide +kernel
  exact this ⟨c, h⟩ h1 h2

theorem dw_all {g : List UInt8} (hg : ∀ c ∈ g, isSpace c = true) (r : List UInt8) : (g ++ r).dropWhile isSpace = r.dropWhile isSpace := by
  induction g with
  | nil => rfl
  | cons c g ih =>
    rw [List.cons_append, List.dropWhile_cons, if_pos (hg c (.head _))]
    exact ih fun x hx => hg x (.tail _ hx)
theorem dw_word {n : List UInt8} (hn : n ≠ []) (hs : ∀ c ∈ n, isSpace c = false) (r : List UInt8) : (n ++ r).dropWhile isSpace = n ++ r := by
  cases n with
  | nil => exact absurd rfl hn
  | cons c n => rw [List.cons_append, List.dropWhile_cons, hs c (.head _)]; rfl
theorem tw_word {n : List UInt8} (hs : ∀ c ∈ n, isSpace c = false) {r : List UInt8} (hr : r = [] ∨ ∃ c t, r = c :: t ∧ isSpace c = true) :
    (n ++ r).takeWhile (!isSpace ·) = n ∧ (n ++ r).dropWhile (!isSpace ·) = r := by
  induction n with
  | nil =>
    rcases hr with rfl | ⟨c, t, rfl, hc⟩
    · exact ⟨rfl, rfl⟩
    · simp [hc]
  | cons c n ih =>
    have := ih fun x hx => hs x (.tail _ hx)
    have h0 := hs c (.head _)
    rw [List.cons_append]
    simp [h0, this]
theorem words_nil (f k : Nat) : words f k [] = [] := by cases f <;> rfl
theorem words_one {f k : Nat} {n r : List UInt8} (hn : n ≠ []) (hs : ∀ c ∈ n, isSpace c = false) (hr : r = [] ∨ ∃ c t, r = c :: t ∧ isSpace c = true) {g : List UInt8} (hg : ∀ c ∈ g, isSpace c = true) :
    words (f + 1) (k + 1) (g ++ (n ++ r)) = n :: words f k r := by
  rw [words, dw_all hg, dw_word hn hs]
  split
  · rename_i h; exact absurd (List.append_eq_nil_iff.mp h).1 hn
  · rw [if_neg (by simp)]
    rw [(tw_word hs hr).1, (tw_word hs hr).2]
    rfl

/-- names with a gap between any two come back -/
theorem words_join {gap : List UInt8} (hgap : gap ≠ []) (hg : ∀ c ∈ gap, isSpace c = true) : ∀ (ns : List (List UInt8)) (f k : Nat) (pre : List UInt8), (∀ c ∈ pre, isSpace c = true) → (∀ n ∈ ns, n ≠ [] ∧ ∀ c ∈ n, isSpace c = false) → ns.length ≤ f → ns.length ≤ k →
    (pre = [] ∨ ns ≠ []) →
    words f k (pre ++ (gap.intercalate ns)) = ns
  | [], f, k, pre, hp, _, _, _, h => by
    have : pre = [] := by simpa using h
    subst this
    exact words_nil _ _
  | [n], 0, _, _, _, _, h, _, _ => by simp at h
  | [n], _, 0, _, _, _, _, h, _ => by simp at h
  | [n], f + 1, k + 1, pre, hp, hn, _, _, _ => by
    have e : gap.intercalate [n] = n ++ [] := by simp [List.intercalate]
    have hn' := hn n (.head _)
    rw [e, words_one hn'.1 hn'.2 (.inl rfl) hp, words_nil]
  | n :: m :: ns, 0, _, _, _, _, h, _, _ => by simp at h
  | n :: m :: ns, _, 0, _, _, _, _, h, _ => by simp at h
  | n :: m :: ns, f + 1, k + 1, pre, hp, hn, h1, h2, _ => by
    have e : gap.intercalate (n :: m :: ns) = n ++ (gap ++ gap.intercalate (m :: ns)) := by simp [List.intercalate, List.intersperse]
    have hn' := hn n (.head _)
    rw [e, words_one hn'.1 hn'.2 ?_ hp]
    · rw [words_join hgap hg (m :: ns) f k gap hg (fun x hx => hn x (.tail _ hx)) (by simp at h1 ⊢; omega) (by simp at h2 ⊢; omega) (.inr (by simp))]
    · right
      cases gap with
      | nil => exact absurd rfl hgap
      | cons c g => exact ⟨c, _, rfl, hg c (.head _)⟩
theorem joinL_inter (gap : List Nat) : ∀ ns : List (List Nat), U8 (joinL gap ns) = (U8 gap).intercalate (ns.map U8)
  | [] => rfl
  | [x] => by simp [joinL, List.intercalate, U8]
  | x :: y :: r => by
    have ih := joinL_inter gap (y :: r)
    rw [joinL, U8, List.map_append, List.map_append]
    show U8 x ++ U8 gap ++ U8 _ = _
    rw [ih]
    simp [List.intercalate, List.intersperse]
theorem ns_le_join {gap : List Nat} (hgap : gap ≠ []) : ∀ ns : List (List Nat), ns.length ≤ (joinL gap ns).length + 1
  | [] => by simp
  | [x] => by simp
  | x :: y :: r => by
    have ih := ns_le_join hgap (y :: r)
    have : 0 < gap.length := List.length_pos_iff.mpr hgap
    simp only [joinL, List.length_append, List.length_cons] at ih ⊢; omega
theorem words_of {gap : List Nat} (hgap : gap ≠ []) (hg : ∀ c ∈ gap, isSpace c.toUInt8 = true) {ns : List (List Nat)} (hn : ∀ n ∈ ns, n ≠ [] ∧ ∀ c ∈ n, Sg c) :
    words ((joinL gap ns).length + 1) ((joinL gap ns).length + 1) (U8 (joinL gap ns)) = ns.map U8 := by
  rw [joinL_inter]
  refine words_join (gap := U8 gap) (by simpa [U8] using hgap) (fun c hc => ?_) (ns.map U8) _ _ [] (fun _ h => nomatch h) (fun n hn' => ?_) ?_ ?_ (.inl rfl)
  · obtain ⟨x, hx, rfl⟩ := List.mem_map.mp hc; exact hg x hx
  · obtain ⟨x, hx, rfl⟩ := List.mem_map.mp hn'
    refine ⟨by simpa [U8] using (hn x hx).1, fun c hc => ?_⟩
    obtain ⟨y, hy, rfl⟩ := List.mem_map.mp hc
    exact (hn x hx).2 y hy
  · rw [List.length_map]; exact ns_le_join hgap ns
  · rw [List.length_map]; exact ns_le_join hgap ns
/-- a text without gaps is one name -/
theorem one_of {gap : List Nat} (hgap : gap ≠ []) (hg : ∀ c ∈ gap, isSpace c.toUInt8 = true) {ns : List (List Nat)} (hne : joinL gap ns ≠ []) (hs : ∀ c ∈ joinL gap ns, isSpace c.toUInt8 = false) : ns = [joinL gap ns] := by
  match ns, hne, hs with
  | [], h, _ => exact absurd rfl h
  | [x], _, _ => rfl
  | x :: y :: r, _, hs =>
    cases gap with
    | nil => exact absurd rfl hgap
    | cons c g =>
      have h1 := hg c (.head _)
      have h2 := hs c (by simp [joinL])
      rw [h1] at h2; cases h2
theorem mem_join_le (gap : List Nat) : ∀ (ns : List (List Nat)) (n : List Nat), n ∈ ns → n.length ≤ (joinL gap ns).length
  | [x], n, h => by rw [List.mem_singleton.mp h]; exact Nat.le_refl _
  | x :: y :: r, n, h => by
    rcases List.mem_cons.mp h with rfl | h
    · simp [joinL]
    · have := mem_join_le gap (y :: r) n h
      simp only [joinL, List.length_append] at this ⊢; omega
theorem paired_unmap : ∀ (ns : List (List Nat)) (vs : List Value), Paired (fun v (w : List UInt8) => IsByt v w.toArray) vs (ns.map U8) → Paired (fun v (w : List Nat) => IsByt v (B8 w)) vs ns
  | [], _, .nil => .nil
  | x :: ns, _, .cons h p => .cons h (paired_unmap ns _ p)
theorem paired_len {α : Type} {R : Value → α → Prop} {vs : List Value} {xs : List α} (p : Paired R vs xs) : vs.length = xs.length := by
  induction p with
  | nil => rfl
  | cons _ _ ih => simp [ih]
section
variable {r : Bool} {prog : Program} {w : World} {A : Around} {E : Value → Shared → Prop} {s₀ s s' : Shared} {n : Nat} {L : Addr} {C : List (Addr × Held)} {O : List (Addr × List Value)} {loc : List (Str × Value)} {Γ : Pred} {env : Env} {Q : Value → Shared → Prop}
theorem wp_mapM_bytes {M : Model} : ∀ (ws : List (List UInt8)) (s : Shared) (Q : List Value → Shared → Prop), (∀ w ∈ ws, w.length ≤ 1000000) →
    (∀ vs tk, Paired (fun v (w : List UInt8) => IsByt v w.toArray) vs ws → Q vs { s with toks := tk }) → wpAny M A (ws.mapM fun w => Builtin.Bytes.Kind.new .bytes w.toArray) Q E s
  | [], s, Q, _, h => wpAny_pure (h [] s.toks .nil)
  | x :: r, s, Q, hz, h => by
    rw [List.mapM_cons]
    refine wpAny_bind (wpAny_mkBytes ?_ (by have := hz x (.head _); show x.toArray.size ≤ 16777216; simp; omega))
    refine wpAny_bind (wp_mapM_bytes r _ _ (fun w hw => hz w (.tail _ hw)) fun vs tk p => ?_)
    exact wpAny_pure (h _ _ (.cons ⟨_, rfl⟩ p))

theorem c_split {l : List Nat} {t : Tok} {gap : List Nat} {ns : List (List Nat)} (hl : l = joinL gap ns) (hgap : gap ≠ []) (hg : ∀ c ∈ gap, isSpace c.toUInt8 = true) (hn : ∀ n ∈ ns, n ≠ [] ∧ ∀ c ∈ n, Sg c) (hz : l.length ≤ 100000)
    (h : Back s (fun v h => LOf cB v (ns.map B8) (Old s.heap) h) Q) :
    wpAny (model prog w) A (call (.builtin "bytes.split") [.bytes (B8 l) t]) Q E s := by
  refine wpAny_call_entry spl_slot (rfl : s.TypeIs (.bytes (B8 l) t) "bytes") spl_entry ?_ (spl_args _)
  unfold Builtin.«bytes.split» Builtin.Bytes.splitM
  refine wpAny_bind (wpAny_of_eq (a := [none, none]) (by rfl) ?_)
  refine wpAny_bind (wpAny_of_eq (a := (-1 : Int)) (by rfl) ?_)
  refine wpAny_bind (wpAny_of_eq (a := B8 l) (by rfl) ?_)
  have hB : (B8 l).toList = U8 l := by simp [B8, U8]
  have hsz : (B8 l).size = l.length := by simp [B8]
  have fin : ∀ vs tk (h₀ : Heap), h₀ = s.heap → Paired (fun v (w : List Nat) => IsByt v (B8 w)) vs ns → Q (.ref h₀.objs.size) { s with heap := h₀.push { cls := .type "list", data := .seq vs.toArray }, toks := tk } := by
    rintro vs tk _ rfl p
    refine h _ _ ⟨_, _, rfl⟩ (Ext.push _ _) ⟨vs, ⟨_, rfl, fun ⟨o, e⟩ => absurd (Heap.lt_size e) (Nat.lt_irrefl _), _, Heap.get?_push_size _ rfl, rfl, _, rfl⟩, ?_⟩
    exact all_map (R := cB) p
  refine wpAny_bind (wpAny_rule ?_)
  have hl1 : (if ((-1 : Int) < 0) then (B8 l).size + 1 else (-1 : Int).toNat) = l.length + 1 := by rw [if_pos (by decide), hsz]
  have hany : (B8 l).any isSpace = (U8 l).any isSpace := by rw [← hB, Array.any_toList]
  have hemp : (B8 l).isEmpty = l.isEmpty := by cases l <;> simp [B8, Array.isEmpty]
  by_cases hc : l ≠ [] ∧ ∀ c ∈ l, isSpace c.toUInt8 = false
  · have hns : ns = [l] := by rw [hl]; exact one_of hgap hg (hl ▸ hc.1) (hl ▸ hc.2)
    have cond : (decide ((if ((-1 : Int) < 0) then (B8 l).size + 1 else (-1 : Int).toNat) > 0) && !(B8 l).isEmpty && !(B8 l).any isSpace) = true := by
      rw [hl1, hany, hemp]
      have h2 : (U8 l).any isSpace = false := by
        rw [List.any_eq_false]
        intro x hx
        obtain ⟨y, hy, rfl⟩ := List.mem_map.mp hx
        simp [hc.2 y hy]
      have h3 : l.isEmpty = false := by simpa using hc.1
      rw [h2, h3]; simp
    refine wp_eq (if_pos cond) ?_
    refine wpAny_bind (wpAny_of_eq (a := .bytes (B8 l) t) (by rfl) (wpAny_bind (wpAny_newList ?_ (by show 1 ≤ 16777216; decide))))
    refine wpAny_pure ⟨_, rfl, fin [.bytes (B8 l) t] s.toks s.heap rfl ?_⟩
    rw [hns]; exact .cons ⟨_, rfl⟩ .nil
  · have cond : (decide ((if ((-1 : Int) < 0) then (B8 l).size + 1 else (-1 : Int).toNat) > 0) && !(B8 l).isEmpty && !(B8 l).any isSpace) = false := by
      rw [hl1, hany, hemp]
      by_cases h0 : l = []
      · subst h0; simp
      · have : (U8 l).any isSpace = true := by
          have h1 : ¬ ∀ c ∈ l, isSpace c.toUInt8 = false := fun q => hc ⟨h0, q⟩
          simp only [Classical.not_forall, Bool.not_eq_false] at h1
          obtain ⟨c, hm, he⟩ := h1
          exact List.any_eq_true.mpr ⟨_, List.mem_map.mpr ⟨c, hm, rfl⟩, he⟩
        rw [this]; simp
    refine wp_eq (if_neg (fun q => Bool.false_ne_true (cond.symm.trans q))) ?_
    have hw : words ((B8 l).size + 1) (if ((-1 : Int) < 0) then (B8 l).size + 1 else (-1 : Int).toNat) (B8 l).toList = ns.map U8 := by
      rw [hl1, hB, hsz, hl]; exact words_of hgap hg hn
    show wpAny _ _ ((words ((B8 l).size + 1) (if ((-1 : Int) < 0) then (B8 l).size + 1 else (-1 : Int).toNat) (B8 l).toList).mapM (fun w => Builtin.Bytes.Kind.new .bytes w.toArray) >>= _) _ _ _
    rw [hw]
    refine wpAny_bind (wp_mapM_bytes _ _ _ (fun x hx => ?_) fun vs tk p => ?_)
    · obtain ⟨y, hy, rfl⟩ := List.mem_map.mp hx
      have := mem_join_le gap ns y hy
      rw [← hl] at this
      simp [U8]; omega
    · have p' := paired_unmap ns vs p
      have hlen := paired_len p'
      refine wpAny_bind (wpAny_newList ?_ ?_)
      · exact wpAny_pure ⟨_, rfl, fin vs tk s.heap rfl p'⟩
      · have := ns_le_join hgap ns
        rw [← hl] at this
        show vs.length ≤ 16777216; omega
end
end Mine
end

section
open PySem PySem.W PyProof.Rows PySem.Calls PySem.SeqAt PySem.StrLaws PySem.Builtin PySem.Builtin.Str PySem.Builtin.Re
set_option Elab.async false
set_option maxRecDepth 100000
set_option linter.unusedVariables false
set_option maxHeartbeats 4000000
namespace Mine
open Builtin.Bytes (words isSpace)
section
variable {r : Bool} {prog : Program} {w : World} {A : Around} {E : Value → Shared → Prop} {s₀ s s' : Shared} {n : Nat} {L : Addr} {C : List (Addr × Held)} {O : List (Addr × List Value)} {loc : List (Str × Value)} {Γ : Pred} {env : Env} {Q : Value → Shared → Prop}

theorem St.newAt (S : St r w s₀ L C O loc Γ s) {a : Addr} (h : ¬ Old s.heap a) : ¬ Old s₀.heap a := fun q => h (q.ext S.keep)

def Mat (v : Value) (l : List Nat) (t : Tok) (b e : Nat) : Pred := fun X h => ∃ a tup i j k li, v = .ref a ∧ ¬ X a ∧ ¬ X tup ∧
  h.get? a = some { cls := .type "re.Match", data := .fields #[.bytes (B8 l) t, .ref 36, .int i 0, .int j 0, .int li 0, .ref tup] } ∧
    h.get? tup = some { cls := .type "tuple", data := .seq #[.int 0 0, .int k 0, .int (b : Nat) 0, .int (e : Nat) 0] }
theorem Mat.fa (v : Value) (l : List Nat) (t : Tok) (b e : Nat) : Fa (Mat v l t b e) :=
  ⟨fun X h h' k ⟨a, tup, i, j, m, li, e1, e2, e3, e4, e5⟩ => ⟨a, tup, i, j, m, li, e1, e2, e3, k _ _ e2 e4 (solid_fields rfl), k _ _ e3 e5 (solid_seq rfl)⟩,
   fun X X' h k ⟨a, tup, i, j, m, li, e1, e2, e3, e4, e5⟩ => ⟨a, tup, i, j, m, li, e1, fun q => (k a q).elim e2 (fun q => by rw [q] at e4; cases e4), fun q => (k tup q).elim e3 (fun q => by rw [q] at e5; cases e5), e4, e5⟩⟩

theorem c_parse {resp : Value} {l : List Nat} {ns : List (List Nat)} (hm : IsByt resp (B8 l)) (hl : ∀ c ∈ l, c < 256 ∧ c ≠ 10) (hz : l.length ≤ 100000)
    (hc : (NoGood l ∧ ns = []) ∨ ∃ p gap, LastGood l p ∧ (l.drop (p + 7)).take (far l (p + 7)) = joinL gap ns ∧ gap ≠ [] ∧ (∀ c ∈ gap, isSpace c.toUInt8 = true) ∧ (∀ n ∈ ns, n ≠ [] ∧ ∀ c ∈ n, Sg c))
    (B : Base w s.heap) (hA : Lv n A) (hn : n ≤ 19) (h : Back s (fun v h => Byts v (ns.map B8) (Old s.heap) h) Q) :
    wpAny (model prog w) A (call (.ref 43) [resp]) Q E s := by
  obtain ⟨t, rfl⟩ := hm
  refine callP [(Str.ofString "resp", _)] (d_parse _) B hA (by omega) (by rfl) (by rfl) fun s₁ L S hA' => ?_
  refine wpAny_execs_cons (wpAny_Assign_Name ?_)
  refine wpAny_Call_method_lateS rfl rfl rfl (nm_gFlags S.b ⟨"re.Pattern", "re.Pattern.match", pat_plain, pat_slot, pat_type, ⟨_, pat_at S.b, rfl⟩, (fun b e => by injection e with e; exact e ▸ ⟨_, pat_at S.b, rfl⟩), ?_⟩)
  refine callWith_method1 (args_cons (rd S rfl (args_nil ?_)))
  refine c_match S.b (fun c hc => (hl c hc).2) (fun c hc => (hl c hc).1) hz ?_
  rcases hc with ⟨hg, rfl⟩ | ⟨p, gap, hg, hcut, hgap, hgs, hns⟩
  · refine .inl ⟨hg, sto S fun s₂ S => ?_⟩
    refine wpAny_execs_cons (wpAny_If (isTrue_not (isTrue_plain (rd S rfl (truthy_none ?_)))))
    refine wpAny_execs_cons (wpAny_Return_some (Tuple_ (args_nil (wpAny_newObj_type ?_ (by size_fits)))))
    have S' := S.alloc { cls := .type "tuple", data := .seq ([] : List Value).toArray }
    exact h _ _ S'.sm S'.keep ⟨[], ⟨_, rfl, S.newAt fun ⟨o, e⟩ => absurd (Heap.lt_size e) (Nat.lt_irrefl _), _, Heap.get?_push_size _ rfl, rfl, _, rfl⟩, .nil⟩
  · refine .inr ⟨p, hg, fun v s₂ sm ex ⟨a, e, im⟩ => ?_⟩
    subst e
    have S := S.ext sm ex
    obtain ⟨tup, i, j, k, li, m1, m2⟩ := im
    have S := S.add (Mat.fa (.ref a) l t (p + 7) (p + 7 + far l (p + 7))) ⟨a, tup, i, j, k, li, rfl, (fun q => nomatch q), (fun q => nomatch q), m1, m2⟩
    refine sto S fun s₃ S => ?_
    have T1 : s₃.TypeIs (.ref a) "re.Match" := by
      obtain ⟨a', tup, i, j, k, li, e1, _, _, m1, m2⟩ := S.g.1
      cases e1
      exact ⟨_, m1, rfl⟩
    refine wpAny_execs_cons (wpAny_If (isTrue_not (isTrue_plain (rd S rfl (truthy_match T1 ?_)))))
    refine wpAny_execs_nil (wpAny_execs_cons (wpAny_Return_some (Call_ (nm_tuple S.b ?_))))
    refine PyProof.Rows.callWith_type1 (args_cons ?_)
    have D1 : ∀ b, Value.ref a = .ref b → ∃ ob, s₃.heap.get? b = some ob ∧ ob.dict = none := by
      obtain ⟨a', tup, i, j, k, li, e1, _, _, m1, m2⟩ := S.g.1
      cases e1
      intro b e; injection e with e; exact e ▸ ⟨_, m1, rfl⟩
    refine wpAny_Call_method_lateS rfl rfl rfl (wpAny_Call_method_lateS rfl rfl rfl (rd S rfl ⟨"re.Match", "re.Match.group", mat_plain, mat_slot, mat_type, T1, D1, ?_⟩))
    refine callWith_method1 (args_cons (kstr S fun s₄ u S => args_nil ?_))
    have im : IsMatch a l t (p + 7) (p + 7 + far l (p + 7)) s₄.heap := by
      obtain ⟨a', tup, i, j, k, li, e1, _, _, m1, m2⟩ := S.g.1
      cases e1
      exact ⟨tup, i, j, k, li, m1, m2⟩
    refine c_group S.b (fun c hc => (hl c hc).1) hz im fun tk t' => ?_
    have S := S.tk tk
    have e2 : p + 7 + far l (p + 7) - (p + 7) = far l (p + 7) := by omega
    rw [e2, hcut]
    refine ⟨"bytes", "bytes.split", PySem.W.FB.plainAttrs_bytes, spl_slot, spl_type, rfl, (fun _ e => nomatch e), ?_⟩
    refine callWith_method0 ?_
    have hlen : (joinL gap ns).length ≤ 100000 := by
      rw [← hcut]; simp; omega
    refine c_split rfl hgap hgs hns hlen fun v s₅ sm ex ⟨vs, ⟨b, e1, nb, hb⟩, pa⟩ => ?_
    subst e1
    have nb' : ¬ Old s.heap b := S.newAt nb
    have S := S.ext sm ex
    have hsz : vs.length ≤ 1000000 := by
      have h1 := paired_len pa
      have h2 := ns_le_join hgap ns
      rw [List.length_map] at h1; omega
    refine args_nil (call_tuple_list hb (fun h' hk => ?_) (by show vs.toArray.size ≤ 16777216; simp; omega))
    have S := S.ext (s' := { s₅ with heap := h' }) ⟨_, _, rfl⟩ hk
    have nt : ¬ Old s.heap h'.objs.size := S.newAt fun ⟨o, e⟩ => absurd (Heap.lt_size e) (Nat.lt_irrefl _)
    have S := S.alloc { cls := .type "tuple", data := .seq vs.toArray }
    refine h _ _ S.sm S.keep ⟨vs, ⟨_, rfl, nt, _, Heap.get?_push_size _ rfl, rfl, _, rfl⟩, pa⟩
end
end Mine
end

section
open PySem PySem.W PyProof.Rows PySem.Calls PySem.SeqAt PySem.StrLaws PySem.Builtin PySem.Builtin.Str
set_option Elab.async false
set_option maxRecDepth 100000
set_option linter.unusedVariables false
set_option maxHeartbeats 4000000
namespace Mine
section
variable {r : Bool} {prog : Program} {w : World} {A : Around} {E : Value → Shared → Prop} {s₀ s s' : Shared} {n : Nat} {L : Addr} {C : List (Addr × Held)} {O : List (Addr × List Value)} {loc : List (Str × Value)} {Γ : Pred} {env : Env} {Q : Value → Shared → Prop}

theorem lookup_mem {α β : Type} [BEq α] [LawfulBEq α] : ∀ {l : List (α × β)} {p : α × β}, (l.map (·.1)).Nodup → p ∈ l → l.lookup p.1 = some p.2
  | (a, b) :: l, p, hn, h => by
    rw [List.map_cons, List.nodup_cons] at hn
    rcases List.mem_cons.mp h with rfl | h
    · rw [List.lookup_cons]; simp
    · have ih := lookup_mem hn.2 h
      rw [List.lookup_cons]
      have : (p.1 == a) = false := by
        cases q : (p.1 == a) with
        | false => rfl
        | true => exact absurd (List.mem_map.mpr ⟨p, h, eq_of_beq q⟩) hn.1
      rw [this]; exact ih

abbrev envC (i : Nat) (f c L : Addr) : Env := envOfC (nameAt i) (scopeAt i) L f (.ref c)

/-- enter a def that has cells -/
theorem callC {i : Nat} {f c : Addr} {pm : Value} {args : List Value} (binds : List (Str × Value)) (names : List Str) (loc : List (Str × Value)) (D : IsDef w.params i f c pm) (B : Base w s.heap) (hA : Lv n A) (hn : n ≤ 20)
    (hbind : bindArgs (docDef (nameAt i) (paramsAt i) (bodyAt i) (scopeAt i) pm (.ref c) .none) ⟨args, []⟩ = pure binds)
    (hkind : ∀ L : Addr, ∀ x ∈ binds, (scopeAt i).names.lookup x.1 = some .local ∨ ((scopeAt i).names.lookup x.1 = some .cell ∧ ((cellsFrom (L + 1) (scopeAt i).names []).lookup x.1).isSome = true))
    (hloc : ∀ L : Addr, ∀ x v, loc.lookup x = some v → bindL (envC i f c L).kindOf binds (fun _ => none) x = some v)
    (hnm : ∀ L : Addr, (cellsFrom (L + 1) (scopeAt i).names []).map (·.1) = names) (hnd : names.Nodup)
    (h : ∀ s₁ L, St true w s L ((cellsFrom (L + 1) (scopeAt i).names []).map fun p => (p.2, .cell (bindC (envC i f c L).kindOf binds (fun _ => none) p.1))) [] loc none_ s₁ → Lv (n + 1) (A.deeper (envC i f c L)) →
      wpAny (model prog w) (A.deeper (envC i f c L)) (execs (bodyAt i) (envC i f c L)) (fun fl s' => Q (match fl with | .ret v => v | _ => .none) s') (fun _ _ => False) s₁)
    (hco : (scopeAt i).isCoroutine = false := by rfl) (hgen : (scopeAt i).isGenerator = false := by rfl) (hk : (scopeAt i).kind = .function := by rfl) :
    wpAny (model prog w) A (call (.ref f) args) Q E s := by
  refine wpAny_call (call_cells_ret (hA.room) (B.K f _ D.fn) D.fd B.lim (codeRec_of B.K D.cd) hbind (hkind _) (fun h₁ tk F X => ?_) hco hgen hk)
  refine wpAny_mono (h _ _ ?_ (hA.deeper _)) (fun fl s' q => q) (fun _ _ q => q)
  have size_new : ∀ a, s.heap.objs.size ≤ a → ¬ Old s.heap a := fun a ha ⟨o, e⟩ => absurd (Heap.lt_size e) (Nat.not_lt.mpr ha)
  exact {
    sm := ⟨_, _, rfl⟩
    base := B
    keep := F.keep
    ns := ⟨_, F.ns, hloc _⟩
    cells := fun p hp => by
      obtain ⟨q, hq, rfl⟩ := List.mem_map.mp hp
      exact X.cell q.1 q.2 (lookup_mem (by rw [hnm]; exact hnd) hq)
    apart := fun p hp => by
      obtain ⟨q, hq, rfl⟩ := List.mem_map.mp hp
      exact Nat.ne_of_gt (X.above q.1 q.2 hq)
    apO := fun _ _ h => nomatch h
    cnd := by
      rw [List.map_map]
      have := X.apart
      show (List.map (fun p : Str × Addr => p.2) _).Nodup
      rw [List.Nodup, List.pairwise_map]
      exact this
    own := fun _ h => nomatch h
    ond := .nil
    new := fun _ => ⟨size_new _ (Nat.le_refl _), fun p hp => by
      obtain ⟨q, hq, rfl⟩ := List.mem_map.mp hp
      exact size_new _ (Nat.le_of_lt (X.above q.1 q.2 hq))⟩
    newO := fun _ h => nomatch h
    fa := none_.fa
    g := trivial }

/-- a cell of the frame's own is read -/
theorem rdC {x : Str} {c : Addr} {pos : Pos} {v : Value} {Q : Value → Shared → Prop} (S : St r w s₀ L C O loc Γ s) (hm : (c, Held.cell (some v)) ∈ C) (h : Q v s) (hc : env.cells.lookup x = some c)
    (hk : env.scope.kind = .function := by rfl) (hl : env.kindOf x = some .cell := by rfl) (hd : (x == ("__debug__" : Str)) = false := by decide) :
    wpAny (model prog w) A (eval (.Name x pos) env) Q E s :=
  wpAny_Name (wpAny_loadName_cell hk hl hc (S.cells _ hm) h) hd
/-- an outer cell is read -/
theorem rdF {x : Str} {c : Addr} {pos : Pos} {v : Value} {Q : Value → Shared → Prop} (hv : s.heap.IsCell c (some v)) (h : Q v s) (hc : env.cells.lookup x = some c)
    (hk : env.scope.kind = .function := by rfl) (hl : env.kindOf x = some .free := by rfl) (hd : (x == ("__debug__" : Str)) = false := by decide) (hn : (x == ("__classdict__" : Str)) = false := by decide) :
    wpAny (model prog w) A (eval (.Name x pos) env) Q E s :=
  wpAny_Name (wpAny_loadName_free hk hl hc hv h hn) hd

theorem St.notOwn (S : St r w s₀ L C O loc Γ s) {p : Addr × Held} (hp : p ∈ C) {q : Addr × List Value} (hq : q ∈ O) : q.1 ≠ p.1 := fun e => S.apO p hp (List.mem_map.mpr ⟨q, hq, e⟩)

/-- what is held at c turns -/
theorem St.setC (S : St true w s₀ L C O loc Γ s) {c : Addr} {x x' : Held} {C' : List (Addr × Held)} {h' : Heap} {tk : Nat} (hc : (c, x) ∈ C) (hC : C'.map (·.1) = C.map (·.1))
    (hC' : ∀ p ∈ C', p = (c, x') ∨ (p ∈ C ∧ p.1 ≠ c)) (hx : x'.At h' c) (hs : Heap.ExtBut c s.heap h') : St true w s₀ L C' O loc Γ { s with heap := h', toks := tk } where
  sm := S.sm.set h' tk
  base := S.base
  keep := fun b o e => hs b o (fun q => (S.new rfl).2 _ hc (q ▸ ⟨o, e⟩)) (S.keep b o e)
  ns := by
    obtain ⟨m, ⟨o', es, ep, ho, q⟩, b⟩ := S.ns
    exact ⟨m, ⟨o', es, ep, hs L _ (fun e => S.apart _ hc e.symm) ho, q⟩, b⟩
  cells := fun p hp => by
    rcases hC' p hp with rfl | ⟨hp, hne⟩
    · exact hx
    · exact (S.cells p hp).by fun o => hs p.1 o hne
  apart := fun p hp => by
    rcases hC' p hp with rfl | ⟨hp, hne⟩
    · exact S.apart (c, x) hc
    · exact S.apart _ hp
  apO := fun p hp => by
    rcases hC' p hp with rfl | ⟨hp, hne⟩
    · exact S.apO (c, x) hc
    · exact S.apO _ hp
  cnd := hC ▸ S.cnd
  own := fun p hp => by
    obtain ⟨n, ho⟩ := S.own p hp
    exact ⟨n, hs p.1 _ (S.notOwn hc hp) ho⟩
  ond := S.ond
  new := fun _ => ⟨(S.new rfl).1, fun p hp => by
    rcases hC' p hp with rfl | ⟨hp, hne⟩
    · exact (S.new rfl).2 (c, x) hc
    · exact (S.new rfl).2 _ hp⟩
  newO := S.newO
  fa := S.fa
  g := by
    show Γ (· ∈ C'.map (·.1) ++ O.map (·.1)) h'
    rw [hC]
    exact S.fa.mono _ _ _ (fun b o hb e _ => hs b o (fun q => hb (List.mem_append_left _ (List.mem_map.mpr ⟨_, hc, q.symm⟩))) e) S.g

/-- a cell of the frame's own is stored: the first, or the second -/
theorem stoC1 {x : Str} {c : Addr} {v : Value} {v₀ : Option Value} {Q : Unit → Shared → Prop} (S : St true w s₀ L ((c, .cell v₀) :: C) O loc Γ s) (h : ∀ s', St true w s₀ L ((c, .cell (some v)) :: C) O loc Γ s' → Q () s') (hc : env.cells.lookup x = some c)
    (hk : env.scope.kind = .function := by rfl) (hl : env.kindOf x = some .cell := by rfl) :
    wpAny (model prog w) A (storeName env x v) Q E s := by
  refine wpAny_storeName_cell hk hl hc (S.cells _ (.head _)) fun h' hv hs => h _ (S.setC (tk := s.toks) (.head _) (by simp) (fun p hp => ?_) (x' := .cell (some v)) hv hs.extBut)
  rcases List.mem_cons.mp hp with rfl | hp
  · exact .inl rfl
  · refine .inr ⟨.tail _ hp, fun e => ?_⟩
    have := S.cnd
    rw [List.map_cons, List.nodup_cons] at this
    exact this.1 (List.mem_map.mpr ⟨p, hp, e⟩)
theorem stoC2 {x : Str} {c : Addr} {v : Value} {v₀ : Option Value} {y : Addr × Held} {Q : Unit → Shared → Prop} (S : St true w s₀ L (y :: (c, .cell v₀) :: C) O loc Γ s) (h : ∀ s', St true w s₀ L (y :: (c, .cell (some v)) :: C) O loc Γ s' → Q () s') (hc : env.cells.lookup x = some c)
    (hk : env.scope.kind = .function := by rfl) (hl : env.kindOf x = some .cell := by rfl) :
    wpAny (model prog w) A (storeName env x v) Q E s := by
  refine wpAny_storeName_cell hk hl hc (S.cells _ (.tail _ (.head _))) fun h' hv hs => h _ (S.setC (tk := s.toks) (.tail _ (.head _)) (by simp) (fun p hp => ?_) (x' := .cell (some v)) hv hs.extBut)
  have nd := S.cnd
  simp only [List.map_cons, List.nodup_cons, List.mem_cons, not_or] at nd
  rcases List.mem_cons.mp hp with rfl | hp
  · exact .inr ⟨.head _, nd.1.1⟩
  rcases List.mem_cons.mp hp with rfl | hp
  · exact .inl rfl
  · exact .inr ⟨.tail _ (.tail _ hp), fun e => nd.2.1 (List.mem_map.mpr ⟨p, hp, e⟩)⟩
end
end Mine
end

section
open PySem PySem.W PyProof.Rows PySem.Calls PySem.SeqAt PySem.StrLaws PySem.Builtin PySem.Builtin.Str
set_option Elab.async false
set_option maxRecDepth 100000
set_option linter.unusedVariables false
set_option maxHeartbeats 4000000
namespace Mine
/-- a heap with some places hidden -/
def hide (h : Heap) (ds : List Addr) : Heap := { h with objs := h.objs.mapIdx fun i o => if ds.contains i then { o with data := .freed } else o }
theorem hide_in {h : Heap} {ds : List Addr} {a : Addr} (ha : a ∈ ds) : (hide h ds).get? a = none := by
  unfold hide Heap.get?
  simp only [Array.getElem?_mapIdx]
  cases q : h.objs[a]? with
  | none => rfl
  | some o =>
    have : ds.contains a = true := List.contains_iff_mem.mpr ha
    simp only [Option.map_some, this, if_true]
theorem hide_out {h : Heap} {ds : List Addr} {a : Addr} (ha : a ∉ ds) : (hide h ds).get? a = h.get? a := by
  unfold hide Heap.get?
  simp only [Array.getElem?_mapIdx]
  cases q : h.objs[a]? with
  | none => rfl
  | some o =>
    have : ds.contains a = false := by
      cases q : ds.contains a with
      | false => rfl
      | true => exact absurd (List.contains_iff_mem.mp q) ha
    simp only [Option.map_some, this]
    rfl
theorem hide_ext (h : Heap) (ds : List Addr) : Ext (hide h ds) h := fun b o e => by
  by_cases hb : b ∈ ds
  · rw [hide_in hb] at e; cases e
  · rwa [hide_out hb] at e
section
variable {r : Bool} {prog : Program} {w : World} {A : Around} {E : Value → Shared → Prop} {s₀ s s' : Shared} {n : Nat} {L : Addr} {C : List (Addr × Held)} {O : List (Addr × List Value)} {loc : List (Str × Value)} {Γ : Pred} {env : Env} {Q : Value → Shared → Prop}

/-- all that is the frame's own -/
abbrev Mn (L : Addr) (C : List (Addr × Held)) (O : List (Addr × List Value)) : List Addr := L :: (C.map (·.1) ++ O.map (·.1))
theorem St.mine (S : St true w s₀ L C O loc Γ s) {b : Addr} (hb : b ∈ Mn L C O) : ¬ Old s₀.heap b := by
  rcases List.mem_cons.mp hb with rfl | hb
  · exact (S.new rfl).1
  rcases List.mem_append.mp hb with hb | hb
  · obtain ⟨p, hp, rfl⟩ := List.mem_map.mp hb; exact (S.new rfl).2 p hp
  · obtain ⟨p, hp, rfl⟩ := List.mem_map.mp hb; exact S.newO p hp
abbrev under (s : Shared) (L : Addr) (C : List (Addr × Held)) (O : List (Addr × List Value)) : Shared := { s with heap := hide s.heap (Mn L C O) }
theorem St.under_ext (S : St true w s₀ L C O loc Γ s) : Ext s₀.heap (under s L C O).heap := fun b o e => by
  show (hide _ _).get? b = _
  rw [hide_out fun hb => S.mine hb ⟨o, e⟩]
  exact S.keep b o e
/-- the same state, seen from all that is not the frame's own -/
theorem St.rebase (S : St true w s₀ L C O loc Γ s) : St true w (under s L C O) L C O loc Γ s where
  sm := ⟨s.heap, s.toks, rfl⟩
  base := S.base.ext S.under_ext
  keep := hide_ext _ _
  ns := S.ns
  cells := S.cells
  apart := S.apart
  apO := S.apO
  cnd := S.cnd
  own := S.own
  ond := S.ond
  new := fun _ => ⟨fun ⟨o, e⟩ => (by rw [hide_in (.head _)] at e; cases e), fun p hp ⟨o, e⟩ => by
    rw [hide_in (List.mem_cons_of_mem _ (List.mem_append_left _ (List.mem_map.mpr ⟨p, hp, rfl⟩)))] at e; cases e⟩
  newO := fun p hp ⟨o, e⟩ => by
    rw [hide_in (List.mem_cons_of_mem _ (List.mem_append_right _ (List.mem_map.mpr ⟨p, hp, rfl⟩)))] at e; cases e
  fa := S.fa
  g := S.g
theorem St.weaken {s₁ : Shared} (S : St true w s₁ L C O loc Γ s) (B : Base w s₀.heap) (sm : Sm s₀ s₁) (e : Ext s₀.heap s₁.heap) : St true w s₀ L C O loc Γ s where
  sm := sm.trans S.sm
  base := B
  keep := e.trans S.keep
  ns := S.ns
  cells := S.cells
  apart := S.apart
  apO := S.apO
  cnd := S.cnd
  own := S.own
  ond := S.ond
  new := fun _ => ⟨fun q => (S.new rfl).1 (q.ext e), fun p hp q => (S.new rfl).2 p hp (q.ext e)⟩
  newO := fun p hp q => S.newO p hp (q.ext e)
  fa := S.fa
  g := S.g

/-- places pinned to what stands there -/
def pinsOf (h : Heap) (wr : List Addr) : List (Addr × Held) := wr.map fun a => (a, .pin ((h.get? a).getD default))
theorem pinsOf_addr (h : Heap) (wr : List Addr) : (pinsOf h wr).map (·.1) = wr := by
  unfold pinsOf; rw [List.map_map]
  show wr.map (fun a => a) = wr
  exact List.map_id' wr
theorem pinsOf_same {h h' : Heap} {wr : List Addr} (e : ∀ b ∈ wr, h'.get? b = h.get? b) : pinsOf h' wr = pinsOf h wr := by
  unfold pinsOf
  exact List.map_congr_left fun b hb => by rw [e b hb]
theorem pinsOf_at {h : Heap} {wr : List Addr} (l : ∀ b ∈ wr, Old h b) : ∀ p ∈ pinsOf h wr, p.2.At h p.1 := by
  intro p hp
  obtain ⟨b, hb, rfl⟩ := List.mem_map.mp hp
  obtain ⟨o, e⟩ := l b hb
  show h.get? b = some _
  rw [e]; rfl

theorem nodup_app {α : Type} {a b : List α} (ha : a.Nodup) (hb : b.Nodup) (h : ∀ x ∈ b, x ∉ a) : (a ++ b).Nodup := by
  rw [List.nodup_append]
  exact ⟨ha, hb, fun x hx y hy e => h y hy (e ▸ hx)⟩

theorem St.pin (S : St true w s₀ L C O loc Γ s) (sm : Sm s s') (ex : Ext s.heap s'.heap) {wr : List Addr} (live : ∀ b ∈ wr, Old s'.heap b) (nw : ∀ b ∈ wr, ¬ Old s.heap b) (nd : wr.Nodup) :
    St true w s₀ L (C ++ pinsOf s'.heap wr) O loc Γ s' := by
  have S' := S.ext sm ex
  have ap : ∀ p ∈ pinsOf s'.heap wr, ¬ Old s.heap p.1 := fun p hp => by obtain ⟨b, hb, rfl⟩ := List.mem_map.mp hp; exact nw b hb
  have hL : Old s.heap L := by obtain ⟨m, ⟨o, es, ep, ho, _⟩, _⟩ := S.ns; exact ⟨o, ho⟩
  refine { S' with cells := ?_, apart := ?_, apO := ?_, cnd := ?_, new := ?_, g := ?_ }
  · intro p hp
    rcases List.mem_append.mp hp with hp | hp
    · exact S'.cells p hp
    · exact pinsOf_at live p hp
  · intro p hp
    rcases List.mem_append.mp hp with hp | hp
    · exact S'.apart p hp
    · exact fun e => ap p hp (e ▸ hL)
  · intro p hp
    rcases List.mem_append.mp hp with hp | hp
    · exact S'.apO p hp
    · exact fun e => ap p hp (S.live (C := C) (List.mem_append_right _ e))
  · rw [List.map_append, pinsOf_addr]
    exact nodup_app S.cnd nd fun x hx hm => nw x hx (S.live (C := C) (List.mem_append_left _ hm))
  · intro _
    refine ⟨(S.new rfl).1, fun p hp => ?_⟩
    rcases List.mem_append.mp hp with hp | hp
    · exact (S.new rfl).2 p hp
    · exact fun q => ap p hp (q.ext S.keep)
  · refine S.fa.mono _ _ _ ex.kp (S.fa.grow _ _ _ (fun b hb => ?_) S.g)
    rcases List.mem_append.mp hb with hb | hb
    · rw [List.map_append, pinsOf_addr] at hb
      rcases List.mem_append.mp hb with hb | hb
      · exact .inl (List.mem_append_left _ hb)
      · refine .inr ?_
        cases q : s.heap.get? b with
        | none => rfl
        | some o => exact absurd ⟨o, q⟩ (nw b hb)
    · exact .inl (List.mem_append_right _ hb)

/-- the pinned places turn -/
theorem St.repin {wr : List Addr} (S : St true w s₀ L (C ++ pinsOf s.heap wr) O loc Γ s) {h' : Heap} {tk : Nat} (live : ∀ b ∈ wr, Old h' b) (hk : ∀ b o, b ∉ wr → s.heap.get? b = some o → h'.get? b = some o) :
    St true w s₀ L (C ++ pinsOf h' wr) O loc Γ { s with heap := h', toks := tk } := by
  have hadr : (C ++ pinsOf h' wr).map (·.1) = (C ++ pinsOf s.heap wr).map (·.1) := by rw [List.map_append, List.map_append, pinsOf_addr, pinsOf_addr]
  have inW : ∀ b ∈ wr, b ∈ (C ++ pinsOf s.heap wr).map (·.1) := fun b hb => by rw [List.map_append, pinsOf_addr]; exact List.mem_append_right _ hb
  have back : ∀ p ∈ C ++ pinsOf h' wr, ∃ q ∈ C ++ pinsOf s.heap wr, q.1 = p.1 := fun p hp => by
    have : p.1 ∈ (C ++ pinsOf s.heap wr).map (·.1) := hadr ▸ List.mem_map.mpr ⟨p, hp, rfl⟩
    exact List.mem_map.mp this
  have nw : ∀ b ∈ wr, ¬ Old s₀.heap b := fun b hb => S.mine (List.mem_cons_of_mem _ (List.mem_append_left _ (inW b hb)))
  have nL : L ∉ wr := fun hb => by
    obtain ⟨p, hp, e⟩ := List.mem_map.mp (inW L hb); exact S.apart p hp e
  have nC : ∀ p ∈ C, p.1 ∉ wr := fun p hp hb => by
    have := S.cnd
    rw [List.map_append, pinsOf_addr, List.nodup_append] at this
    exact this.2.2 p.1 (List.mem_map.mpr ⟨p, hp, rfl⟩) p.1 hb rfl
  have nO : ∀ p ∈ O, p.1 ∉ wr := fun p hp hb => by
    obtain ⟨q, hq, e⟩ := List.mem_map.mp (inW p.1 hb)
    exact S.apO q hq (List.mem_map.mpr ⟨p, hp, e.symm⟩)
  exact {
    sm := S.sm.set h' tk
    base := S.base
    keep := fun b o e => hk b o (fun hb => nw b hb ⟨o, e⟩) (S.keep b o e)
    ns := by
      obtain ⟨m, ⟨o', es, ep, ho, q⟩, b⟩ := S.ns
      exact ⟨m, ⟨o', es, ep, hk L _ nL ho, q⟩, b⟩
    cells := fun p hp => by
      rcases List.mem_append.mp hp with hp | hp
      · exact (S.cells p (List.mem_append_left _ hp)).by fun o => hk p.1 o (nC p hp)
      · exact pinsOf_at live p hp
    apart := fun p hp => by obtain ⟨q, hq, e⟩ := back p hp; exact e ▸ S.apart q hq
    apO := fun p hp => by obtain ⟨q, hq, e⟩ := back p hp; exact e ▸ S.apO q hq
    cnd := hadr ▸ S.cnd
    own := fun p hp => by obtain ⟨n, ho⟩ := S.own p hp; exact ⟨n, hk p.1 _ (nO p hp) ho⟩
    ond := S.ond
    new := fun _ => ⟨(S.new rfl).1, fun p hp => by obtain ⟨q, hq, e⟩ := back p hp; exact e ▸ (S.new rfl).2 q hq⟩
    newO := S.newO
    fa := S.fa
    g := by
      show Γ (· ∈ (C ++ pinsOf h' wr).map (·.1) ++ O.map (·.1)) h'
      rw [hadr]
      exact S.fa.mono _ _ _ (fun b o hb e _ => hk b o (fun q => hb (List.mem_append_left _ (inW b q))) e) S.g }

theorem St.unpin {wr : List Addr} (S : St true w s₀ L (C ++ pinsOf s.heap wr) O loc Γ s) {h' : Heap} {tk : Nat} (hk : ∀ b o, b ∉ wr → s.heap.get? b = some o → h'.get? b = some o) :
    St true w s₀ L C O loc Γ { s with heap := h', toks := tk } := by
  have inW : ∀ b ∈ wr, b ∈ (C ++ pinsOf s.heap wr).map (·.1) := fun b hb => by rw [List.map_append, pinsOf_addr]; exact List.mem_append_right _ hb
  have inC : ∀ p ∈ C, p ∈ C ++ pinsOf s.heap wr := fun p hp => List.mem_append_left _ hp
  have nw : ∀ b ∈ wr, ¬ Old s₀.heap b := fun b hb => S.mine (List.mem_cons_of_mem _ (List.mem_append_left _ (inW b hb)))
  have nL : L ∉ wr := fun hb => by
    obtain ⟨p, hp, e⟩ := List.mem_map.mp (inW L hb); exact S.apart p hp e
  have cnd := S.cnd
  rw [List.map_append, pinsOf_addr, List.nodup_append] at cnd
  have nC : ∀ p ∈ C, p.1 ∉ wr := fun p hp hb => cnd.2.2 p.1 (List.mem_map.mpr ⟨p, hp, rfl⟩) p.1 hb rfl
  have nO : ∀ p ∈ O, p.1 ∉ wr := fun p hp hb => by
    obtain ⟨q, hq, e⟩ := List.mem_map.mp (inW p.1 hb)
    exact S.apO q hq (List.mem_map.mpr ⟨p, hp, e.symm⟩)
  exact {
    sm := S.sm.set h' tk
    base := S.base
    keep := fun b o e => hk b o (fun hb => nw b hb ⟨o, e⟩) (S.keep b o e)
    ns := by
      obtain ⟨m, ⟨o', es, ep, ho, q⟩, b⟩ := S.ns
      exact ⟨m, ⟨o', es, ep, hk L _ nL ho, q⟩, b⟩
    cells := fun p hp => (S.cells p (inC p hp)).by fun o => hk p.1 o (nC p hp)
    apart := fun p hp => S.apart p (inC p hp)
    apO := fun p hp => S.apO p (inC p hp)
    cnd := cnd.1
    own := fun p hp => by obtain ⟨n, ho⟩ := S.own p hp; exact ⟨n, hk p.1 _ (nO p hp) ho⟩
    ond := S.ond
    new := fun _ => ⟨(S.new rfl).1, fun p hp => (S.new rfl).2 p (inC p hp)⟩
    newO := S.newO
    fa := S.fa
    g := by
      refine S.fa.grow _ _ _ (fun b hb => .inl ?_) (S.fa.mono _ _ h' (fun b o hb e _ => hk b o (fun q => hb (List.mem_append_left _ (inW b q))) e) S.g)
      rcases List.mem_append.mp hb with hb | hb
      · exact List.mem_append_left _ (by rw [List.map_append]; exact List.mem_append_left _ hb)
      · exact List.mem_append_right _ hb }
end
end Mine
end

section
open PySem PySem.W PyProof.Rows PySem.Calls PySem.SeqAt PySem.StrLaws PySem.Builtin PySem.Builtin.Str
set_option Elab.async false
set_option maxRecDepth 100000
set_option linter.unusedVariables false
set_option maxHeartbeats 4000000
namespace Mine
section
variable {r : Bool} {prog : Program} {w : World} {A : Around} {E : Value → Shared → Prop} {s₀ s s' : Shared} {n : Nat} {L : Addr} {C : List (Addr × Held)} {O : List (Addr × List Value)} {loc : List (Str × Value)} {Γ : Pred} {env : Env}

/-- the iterator of v, for a loop -/
def Feed (prog : Program) (w : World) (A : Around) (X : Addr → Prop) (v : Value) (s : Shared) (n : Nat) (P : Nat → Value → Prop) : Prop :=
  ∀ (Q : Value → Shared → Prop) (E : Value → Shared → Prop), (∀ (it : Addr) (fp wr : List Addr) (I : Nat → Heap → Prop) (s' : Shared), Walks prog w A it fp wr n P I → I 0 s'.heap → (∀ i h, I i h → ∀ b ∈ fp, Old h b) → wr.Nodup → Sm s s' → Ext s.heap s'.heap →
    (∀ b ∈ wr, ¬ Old s.heap b) → (∀ b ∈ fp, b ∉ wr → ¬ X b ∧ ∃ o, s.heap.get? b = some o ∧ Solid o) → Q (.ref it) s') → wpAny (model prog w) A (pyIter v) Q E s

theorem feedList {X : Addr → Prop} {v : Value} {vs : List Value} (hh : A.handled = none) (hl : Lst v vs X s.heap) : Feed prog w A X v s vs.length (fun i u => vs[i]? = some u) := by
  obtain ⟨a, rfl, hX, hl⟩ := hl
  intro Q E h
  have hlt : a < s.heap.objs.size := by obtain ⟨o, ho, _⟩ := hl; exact Heap.lt_size ho
  refine wpAny_pyIter_list hl ?_
  have W := Walks.list (prog := prog) (w := w) hh s.heap.objs.size a (Nat.ne_of_lt hlt) vs.toArray
  have e1 : vs.toArray.size = vs.length := by simp
  rw [e1] at W
  have e2 : (fun (i : Nat) (u : Value) => vs.toArray[i]? = some u) = fun i u => vs[i]? = some u := by funext i u; simp
  rw [e2] at W
  refine h _ _ _ _ _ W ⟨⟨_, Heap.get?_push_size _ rfl, rfl, rfl⟩, hl.at fun o e => Heap.get?_push_of_some _ e⟩ (fun i h' x b hb => ?_) (by simp) ⟨_, _, rfl⟩ (Ext.push _ _) (fun b hb => ?_) (fun b hb hn => ?_)
  · obtain ⟨⟨o, ho, _⟩, ⟨o', ho', _⟩⟩ := x
    rcases List.mem_cons.mp hb with rfl | hb
    · exact ⟨o, ho⟩
    · rw [List.mem_singleton.mp hb]; exact ⟨o', ho'⟩
  · rw [List.mem_singleton.mp hb]; exact fun ⟨o, e⟩ => absurd (Heap.lt_size e) (Nat.lt_irrefl _)
  · rcases List.mem_cons.mp hb with rfl | hb
    · exact absurd (.head _) hn
    · rw [List.mem_singleton.mp hb]
      obtain ⟨o, ho, hc, ep, hd⟩ := hl
      exact ⟨hX, o, ho, solid_seq hd⟩

theorem feedRange {X : Addr → Prop} {rg : Addr} {n : Nat} {t u v : Tok} (hh : A.handled = none) (hr : IsRange s.heap rg 0 n 1 t u v) (hn : n ≤ 1000000) : Feed prog w A X (.ref rg) s n (fun i u => ∃ t, u = .int (i : Int) t) := by
  intro Q E h
  have W := (Walks.range (prog := prog) (w := w) hh s.heap.objs.size 0 1 n)
  have e2 : (fun (i : Nat) (u : Value) => ∃ t, u = .int ((0 : Int) + (i : Int) * 1) t) = fun i u => ∃ t, u = .int (i : Int) t := by funext i u; simp
  rw [e2] at W
  refine wpAny_pyIter_range hr (small_one (by omega) (by omega) (by omega) (by omega)) (h _ _ _ _ _ W ?_ (fun i h' x b hb => ?_) (by simp) ⟨_, _, rfl⟩ (Ext.push _ _) (fun b hb => ?_) (fun b hb hn => absurd hb hn))
  · have e3 : Builtin.Range.rangeSize 0 (n : Int) 1 = (n : Int) := by rw [rangeSize_nat]; simp
    show IsRangeIter _ _ _ _ _
    rw [e3]
    simpa using Heap.get?_push_size _ rfl
  · rw [List.mem_singleton.mp hb]; exact ⟨_, x⟩
  · rw [List.mem_singleton.mp hb]; exact fun ⟨o, e⟩ => absurd (Heap.lt_size e) (Nat.lt_irrefl _)

/-- what a loop's turn leaves -/
abbrev Left (w : World) (s₀ : Shared) (L : Addr) (pn : List (Addr × Held)) (J : List (Addr × Held) → List (Addr × List Value) → List (Str × Value) → Pred → Prop) (f : Flow) (s : Shared) : Prop :=
  (f = .next ∨ f = .cont) ∧ ∃ C O loc Γ, St true w s₀ L (C ++ pn) O loc Γ s ∧ J C O loc Γ

theorem St.solidOut (S : St r w s₀ L C O loc Γ s) {b : Addr} (hX : ¬ Xs C O b) (hb : ∃ o, s.heap.get? b = some o ∧ Solid o) : b ∉ Mn L C O := fun hm => by
  rcases List.mem_cons.mp hm with rfl | hm
  · obtain ⟨o, ho, hs⟩ := hb
    obtain ⟨m, ⟨o', es, ep, ho', hd, _⟩, _⟩ := S.ns
    rw [ho] at ho'; cases ho'
    exact not_solid_dict hd hs
  · exact hX hm

theorem forV {target iter : Expr} {body : List Stmt} {pos : Pos} {Q : Flow → Shared → Prop} (J : Nat → List (Addr × Held) → List (Addr × List Value) → List (Str × Value) → Pred → Prop)
    (h : wpAny (model prog w) A (eval iter env) (fun xv s₁ => ∃ n P C O loc Γ, St true w s₀ env.locals C O loc Γ s₁ ∧ J 0 C O loc Γ ∧ Feed prog w A (Xs C O) xv s₁ n P ∧
      (∀ pn i v C O loc Γ s₀' s₂ E', i < n → P i v → J i C O loc Γ → Ext s₀.heap s₀'.heap → St true w s₀' env.locals (C ++ pn) O loc Γ s₂ →
        wpAny (model prog w) A (assign target env v) (fun _ s₃ => wpAny (model prog w) A (execs body env) (Left w s₀' env.locals pn (J (i + 1))) E' s₃) E' s₂) ∧
      (∀ C O loc Γ s', J n C O loc Γ → St true w s₀ env.locals C O loc Γ s' → Q .next s')) E s)
    (ht : ∀ it v, letOwnedTupleGo target it v = pure () := by intro _ _; rfl)
    (hs : ∀ x, foldedSetIterable iter env x = pure x := by intro _; rfl) :
    wpAny (model prog w) A (exec (.For target iter body [] pos) env) Q E s := by
  refine wpAny_For (wpAny_mono h (fun xv s₁ h₁ => ?_) fun _ _ e => e) hs
  obtain ⟨n, P, C, O, loc, Γ, S, hJ, src, hb, hd⟩ := h₁
  refine src _ _ fun it fp wr I s' W hI live nd sm ex nw rdo => ?_
  have S' := S.pin sm ex (fun b hb => live 0 _ hI b (W.sub b hb)) nw nd
  have out0 : ∀ b ∈ fp, b ∉ wr → b ∉ Mn env.locals (C ++ pinsOf s'.heap wr) O := fun b hb hn => by
    obtain ⟨h1, h2⟩ := rdo b hb hn
    refine S'.solidOut ?_ (let ⟨o, e, q⟩ := h2; ⟨o, ex b o e, q⟩)
    intro hx
    rw [Xs, List.map_append, pinsOf_addr] at hx
    rcases List.mem_append.mp hx with hx | hx
    · rcases List.mem_append.mp hx with hx | hx
      · exact h1 (List.mem_append_left _ hx)
      · exact hn hx
    · exact h1 (List.mem_append_right _ hx)
  refine codeAny_forLoop (fun k s => ∃ i C O loc Γ, St true w s₀ env.locals (C ++ pinsOf s.heap wr) O loc Γ s ∧ J i C O loc Γ ∧ I i s.heap ∧ i ≤ n ∧ k = n + 1 - i ∧ (∀ b ∈ fp, b ∉ wr → b ∉ Mn env.locals (C ++ pinsOf s.heap wr) O))
    (fun k s hInv => ?_) (n + 1) ⟨0, C, O, loc, Γ, S', hJ, hI, Nat.zero_le _, rfl, out0⟩ (ht _)
  obtain ⟨i, C, O, loc, Γ, S, hJ, hI, hin, rfl, out⟩ := hInv
  by_cases hlt : i < n
  · refine W.item i s _ _ hlt hI fun v h' tk hP hI' hk => ?_
    have live' : ∀ b ∈ wr, Old h' b := fun b hb => live _ _ hI' b (W.sub b hb)
    have S₁ := S.repin (tk := tk) live' hk
    have e0 : Ext s₀.heap (under { s with heap := h', toks := tk } env.locals (C ++ pinsOf h' wr) O).heap := S₁.under_ext
    refine wpAny_mono (hb (pinsOf h' wr) i v C O loc Γ _ _ _ hlt hP hJ e0 S₁.rebase) (fun _ s₃ h₃ => wpAny_mono h₃ (fun f s₄ h₄ => ?_) fun _ _ e => e) fun _ _ e => e
    obtain ⟨hf, C', O', loc', Γ', S₄, hJ'⟩ := h₄
    have eqM : Mn env.locals (C ++ pinsOf h' wr) O = Mn env.locals (C ++ pinsOf s.heap wr) O := by
      show env.locals :: _ = env.locals :: _
      rw [List.map_append, List.map_append, pinsOf_addr, pinsOf_addr]
    have liveU : ∀ b ∈ fp, b ∉ wr → Old (under { s with heap := h', toks := tk } env.locals (C ++ pinsOf h' wr) O).heap b := fun b hb hn => by
      obtain ⟨o, e⟩ := live _ _ hI' b hb
      refine ⟨o, ?_⟩
      show (hide _ _).get? b = _
      rw [hide_out (eqM ▸ out b hb hn)]; exact e
    have samew : ∀ b ∈ wr, s₄.heap.get? b = h'.get? b := fun b hb => by
      have : (b, Held.pin ((h'.get? b).getD default)) ∈ C' ++ pinsOf h' wr := List.mem_append_right _ (List.mem_map.mpr ⟨b, hb, rfl⟩)
      have q := S₄.cells _ this
      obtain ⟨o, e⟩ := live' b hb
      rw [e] at q ⊢
      exact q
    have hI'' : I (i + 1) s₄.heap := W.frame _ _ _ hI' fun b hb o e => by
      by_cases hn : b ∈ wr
      · rw [samew b hn]; exact e
      · obtain ⟨o', e'⟩ := liveU b hb hn
        have := S₄.keep b o' e'
        have e2 : h'.get? b = some o' := hide_ext _ _ b o' e'
        rw [e] at e2; cases e2; exact this
    have S₅ := (S₄.weaken (s₀ := s₀) S.base (S.sm.trans ⟨_, _, rfl⟩) e0)
    have ep : pinsOf s₄.heap wr = pinsOf h' wr := pinsOf_same samew
    have inv : ∃ m, m < n + 1 - i ∧ ∃ i C O loc Γ, St true w s₀ env.locals (C ++ pinsOf s₄.heap wr) O loc Γ s₄ ∧ J i C O loc Γ ∧ I i s₄.heap ∧ i ≤ n ∧ m = n + 1 - i ∧ (∀ b ∈ fp, b ∉ wr → b ∉ Mn env.locals (C ++ pinsOf s₄.heap wr) O) := by
      refine ⟨n + 1 - (i + 1), by omega, i + 1, C', O', loc', Γ', by rw [ep]; exact S₅, hJ', hI'', by omega, rfl, fun b hb hn hm => ?_⟩
      rw [ep] at hm
      exact S₄.mine hm (liveU b hb hn)
    rcases hf with rfl | rfl
    · exact inv
    · exact inv
  · have : i = n := by omega
    subst this
    refine W.done s _ _ hI fun h' tk hk => wpAny_execs_nil ?_
    exact hd C O loc Γ _ hJ (S.unpin hk)
end
end Mine
end

section
open PySem PySem.W PyProof.Rows PySem.Calls PySem.SeqAt PySem.StrLaws PySem.Builtin PySem.Builtin.Str
set_option Elab.async false
set_option maxRecDepth 100000
set_option linter.unusedVariables false
set_option maxHeartbeats 4000000
namespace Mine
section
variable {r : Bool} {prog : Program} {w : World} {A : Around} {E : Value → Shared → Prop} {s₀ s s' : Shared} {n : Nat} {L : Addr} {C : List (Addr × Held)} {O : List (Addr × List Value)} {loc : List (Str × Value)} {Γ : Pred} {env : Env}

/-- the pairs' iterator xv at s, made since s was sa -/
def FeedT (prog : Program) (w : World) (A : Around) (X : Addr → Prop) (xv : Value) (sa s : Shared) (n : Nat) (Pt : Nat → Array Value → Prop) : Prop :=
  ∀ (Q : Value → Shared → Prop) (E : Value → Shared → Prop), (∀ (it : Addr) (fp wr : List Addr) (I : Nat → Heap → Prop) (Mid : Nat → Addr → Heap → Prop) (s' : Shared), WalksT prog w A it fp wr n Pt I Mid → I 0 s'.heap → (∀ i h, I i h → ∀ b ∈ fp, Old h b) → wr.Nodup → Sm sa s' → Ext sa.heap s'.heap →
    (∀ b ∈ wr, ¬ Old sa.heap b) → (∀ b ∈ fp, b ∉ wr → (¬ Old sa.heap b ∨ ¬ X b ∧ ∃ o, sa.heap.get? b = some o ∧ Solid o)) → Q (.ref it) s') → wpAny (model prog w) A (pyIter xv) Q E s

theorem feedZip {X : Addr → Prop} {a b : Value} {xs ys : List Value} {Q : Value → Shared → Prop} (hh : A.handled = none) (ha : Lst a xs X s.heap) (hb : Lst b ys X s.heap)
    (h : ∀ s₁ v, Sm s s₁ → Ext s.heap s₁.heap → FeedT prog w A X v s s₁ (min xs.length ys.length) (fun i vals => ∃ x y, xs[i]? = some x ∧ ys[i]? = some y ∧ vals = #[x, y]) → Q v s₁) :
    wpAny (model prog w) A (call (.type "zip") [a, b]) Q E s := by
  obtain ⟨l1, rfl, hX1, hl1⟩ := ha
  obtain ⟨l2, rfl, hX2, hl2⟩ := hb
  refine call_zip_2 hl1 hl2 fun h' hz hTI hTO hi1 hi2 hsz hk => h _ _ ⟨_, _, rfl⟩ hk fun Q E q => ?_
  have a1 : l1 < s.heap.objs.size := by obtain ⟨o, ho, _⟩ := hl1; exact Heap.lt_size ho
  have a2 : l2 < s.heap.objs.size := by obtain ⟨o, ho, _⟩ := hl2; exact Heap.lt_size ho
  have W := WalksT.zip2 (prog := prog) (w := w) hh _ _ _ _ _ _ _ (zipApart_new a1 a2) xs.toArray ys.toArray
  have e1 : min xs.toArray.size ys.toArray.size = min xs.length ys.length := by simp
  have e2 : (fun (i : Nat) (vals : Array Value) => ∃ x y, xs.toArray[i]? = some x ∧ ys.toArray[i]? = some y ∧ vals = #[x, y]) = fun i vals => ∃ x y, xs[i]? = some x ∧ ys[i]? = some y ∧ vals = #[x, y] := by funext i vals; simp
  rw [e1, e2] at W
  have st0 : IsZip h' (s.heap.objs.size + 4) (s.heap.objs.size + 2) (s.heap.objs.size + 3) .none ∧ IsPair h' (s.heap.objs.size + 2) (.ref s.heap.objs.size) (.ref (s.heap.objs.size + 1)) ∧ (∃ a b, IsPair h' (s.heap.objs.size + 3) a b) ∧
      h'.IsListIter s.heap.objs.size l1 0 ∧ h'.IsListIter (s.heap.objs.size + 1) l2 0 ∧ h'.IsList l1 xs.toArray ∧ h'.IsList l2 ys.toArray :=
    ⟨hz, hTI, ⟨_, _, hTO⟩, hi1, hi2, hl1.at fun o e => hk l1 o e, hl2.at fun o e => hk l2 o e⟩
  have new : ∀ k, ¬ Old s.heap (s.heap.objs.size + k) := fun k ⟨o, e⟩ => absurd (Heap.lt_size e) (Nat.not_lt.mpr (Nat.le_add_right _ _))
  refine W.self 0 _ _ _ st0 (q _ _ _ _ _ _ W st0 (fun i h x b hb => ?_) ?_ ⟨_, _, rfl⟩ hk (fun b hb => ?_) fun b hb hn => ?_)
  · obtain ⟨x1, x2, ⟨_, _, x3⟩, ⟨o4, x4, _⟩, ⟨o5, x5, _⟩, ⟨o6, x6, _⟩, ⟨o7, x7, _⟩⟩ := x
    simp only [List.mem_cons, List.not_mem_nil, or_false] at hb
    rcases hb with rfl | rfl | rfl | rfl | rfl | rfl | rfl
    · exact ⟨_, x1⟩
    · exact ⟨_, x2⟩
    · exact ⟨_, x3⟩
    · exact ⟨_, x4⟩
    · exact ⟨_, x5⟩
    · exact ⟨_, x6⟩
    · exact ⟨_, x7⟩
  · simp
  · simp only [List.mem_cons, List.not_mem_nil, or_false] at hb
    rcases hb with rfl | rfl | rfl | rfl
    · exact new 4
    · exact new 3
    · exact new 0
    · exact new 1
  · simp only [List.mem_cons, List.not_mem_nil, or_false] at hb
    rcases hb with rfl | rfl | rfl | rfl | rfl | rfl | rfl
    · exact .inl (new 4)
    · exact .inl (new 2)
    · exact .inl (new 3)
    · exact .inl (new 0)
    · exact .inl (new 1)
    · obtain ⟨o, ho, hc, ep, hd⟩ := hl1
      exact .inr ⟨hX1, o, ho, solid_seq hd⟩
    · obtain ⟨o, ho, hc, ep, hd⟩ := hl2
      exact .inr ⟨hX2, o, ho, solid_seq hd⟩

theorem forZ {elts : List Expr} {k : Nat} {tp : Pos} {iter : Expr} {body : List Stmt} {pos : Pos} {Q : Flow → Shared → Prop} (J : Nat → List (Addr × Held) → List (Addr × List Value) → List (Str × Value) → Pred → Prop)
    (h : wpAny (model prog w) A (eval iter env) (fun xv s₁ => ∃ sa n Pt C O loc Γ, St true w s₀ env.locals C O loc Γ sa ∧ J 0 C O loc Γ ∧ FeedT prog w A (Xs C O) xv sa s₁ n Pt ∧
      (∀ pn i vals T C O loc Γ s₀' s₂ E', i < n → Pt i vals → J i C O loc Γ → Ext s₀.heap s₀'.heap → s₂.heap.IsTuple T vals → St true w s₀' env.locals (C ++ pn) O loc Γ s₂ →
        wpAny (model prog w) A (assign (.Tuple elts k tp) env (.ref T)) (fun _ s₃ => wpAny (model prog w) A (execs body env) (Left w s₀' env.locals pn (J (i + 1))) E' s₃) E' s₂) ∧
      (∀ C O loc Γ s', J n C O loc Γ → St true w s₀ env.locals C O loc Γ s' → Q .next s')) E s)
    (hs : ∀ x, foldedSetIterable iter env x = pure x := by intro _; rfl) :
    wpAny (model prog w) A (exec (.For (.Tuple elts k tp) iter body [] pos) env) Q E s := by
  refine wpAny_For (wpAny_mono h (fun xv s₁ h₁ => ?_) fun _ _ e => e) hs
  obtain ⟨sa, n, P, C, O, loc, Γ, S, hJ, src, hb, hd⟩ := h₁
  refine src _ _ fun it fp wr I Mid s' W hI live nd sm ex nw rdo => ?_
  have S' := S.pin sm ex (fun b hb => live 0 _ hI b (W.sub b hb)) nw nd
  have out0 : ∀ b ∈ fp, b ∉ wr → b ∉ Mn env.locals (C ++ pinsOf s'.heap wr) O := fun b hb hn => by
    rcases rdo b hb hn with h1 | ⟨h1, h2⟩
    · intro hm
      rcases List.mem_cons.mp hm with rfl | hm
      · obtain ⟨m, ⟨o', es, ep, ho', hd, _⟩, _⟩ := S.ns; exact h1 ⟨_, ho'⟩
      rw [List.map_append, pinsOf_addr] at hm
      rcases List.mem_append.mp hm with hm | hm
      · rcases List.mem_append.mp hm with hm | hm
        · exact h1 (S.live (C := C) (List.mem_append_left _ hm))
        · exact hn hm
      · exact h1 (S.live (C := C) (List.mem_append_right _ hm))
    · refine S'.solidOut ?_ (let ⟨o, e, q⟩ := h2; ⟨o, ex b o e, q⟩)
      intro hx
      rw [Xs, List.map_append, pinsOf_addr] at hx
      rcases List.mem_append.mp hx with hx | hx
      · rcases List.mem_append.mp hx with hx | hx
        · exact h1 (List.mem_append_left _ hx)
        · exact hn hx
      · exact h1 (List.mem_append_right _ hx)
  refine codeAny_forLoop_any (fun k s => ∃ i C O loc Γ, St true w s₀ env.locals (C ++ pinsOf s.heap wr) O loc Γ s ∧ J i C O loc Γ ∧ I i s.heap ∧ i ≤ n ∧ k = n + 1 - i ∧ (∀ b ∈ fp, b ∉ wr → b ∉ Mn env.locals (C ++ pinsOf s.heap wr) O))
    (fun k s hInv => ?_) (n + 1) ⟨0, C, O, loc, Γ, S', hJ, hI, Nat.zero_le _, rfl, out0⟩
  obtain ⟨i, C, O, loc, Γ, S, hJ, hI, hin, rfl, out⟩ := hInv
  by_cases hlt : i < n
  · refine W.item i s _ _ hlt hI fun T vals h₁ tk hP hsz hT hM hk₁ => ?_
    refine W.go elts _ tp i T _ _ _ hM fun h' hI' hk₂ => ?_
    have hT' : h'.IsTuple T vals := by
      obtain ⟨o, ho, q⟩ := hT
      exact ⟨o, hk₂ T o (W.apart _ _ _ hM) ho, q⟩
    have hk : ∀ b o, b ∉ wr → s.heap.get? b = some o → h'.get? b = some o := fun b o hb e => hk₂ b o hb (hk₁ b o hb e)
    have live' : ∀ b ∈ wr, Old h' b := fun b hb => live _ _ hI' b (W.sub b hb)
    have S₁ := S.repin (tk := tk) live' hk
    have e0 : Ext s₀.heap (under { s with heap := h', toks := tk } env.locals (C ++ pinsOf h' wr) O).heap := S₁.under_ext
    refine wpAny_mono (hb (pinsOf h' wr) i vals T C O loc Γ _ { s with heap := h', toks := tk } _ hlt hP hJ e0 hT' S₁.rebase) (fun _ s₃ h₃ => wpAny_mono h₃ (fun f s₄ h₄ => ?_) fun _ _ e => e) fun _ _ e => e
    obtain ⟨hf, C', O', loc', Γ', S₄, hJ'⟩ := h₄
    have eqM : Mn env.locals (C ++ pinsOf h' wr) O = Mn env.locals (C ++ pinsOf s.heap wr) O := by
      show env.locals :: _ = env.locals :: _
      rw [List.map_append, List.map_append, pinsOf_addr, pinsOf_addr]
    have liveU : ∀ b ∈ fp, b ∉ wr → Old (under { s with heap := h', toks := tk } env.locals (C ++ pinsOf h' wr) O).heap b := fun b hb hn => by
      obtain ⟨o, e⟩ := live _ _ hI' b hb
      refine ⟨o, ?_⟩
      show (hide _ _).get? b = _
      rw [hide_out (eqM ▸ out b hb hn)]; exact e
    have samew : ∀ b ∈ wr, s₄.heap.get? b = h'.get? b := fun b hb => by
      have : (b, Held.pin ((h'.get? b).getD default)) ∈ C' ++ pinsOf h' wr := List.mem_append_right _ (List.mem_map.mpr ⟨b, hb, rfl⟩)
      have q := S₄.cells _ this
      obtain ⟨o, e⟩ := live' b hb
      rw [e] at q ⊢
      exact q
    have hI'' : I (i + 1) s₄.heap := W.frame _ _ _ hI' fun b hb o e => by
      by_cases hn : b ∈ wr
      · rw [samew b hn]; exact e
      · obtain ⟨o', e'⟩ := liveU b hb hn
        have := S₄.keep b o' e'
        have e2 : h'.get? b = some o' := hide_ext _ _ b o' e'
        rw [e] at e2; cases e2; exact this
    have S₅ := (S₄.weaken (s₀ := s₀) S.base (S.sm.trans ⟨_, _, rfl⟩) e0)
    have ep : pinsOf s₄.heap wr = pinsOf h' wr := pinsOf_same samew
    have inv : ∃ m, m < n + 1 - i ∧ ∃ i C O loc Γ, St true w s₀ env.locals (C ++ pinsOf s₄.heap wr) O loc Γ s₄ ∧ J i C O loc Γ ∧ I i s₄.heap ∧ i ≤ n ∧ m = n + 1 - i ∧ (∀ b ∈ fp, b ∉ wr → b ∉ Mn env.locals (C ++ pinsOf s₄.heap wr) O) := by
      refine ⟨n + 1 - (i + 1), by omega, i + 1, C', O', loc', Γ', by rw [ep]; exact S₅, hJ', hI'', by omega, rfl, fun b hb hn hm => ?_⟩
      rw [ep] at hm
      exact S₄.mine hm (liveU b hb hn)
    rcases hf with rfl | rfl
    · exact inv
    · exact inv
  · have : i = n := by omega
    subst this
    refine W.done s _ _ hI fun h' tk hk => wpAny_execs_nil ?_
    exact hd C O loc Γ _ hJ (S.unpin hk)
end
end Mine
end

section
open PySem PySem.W PyProof.Rows PySem.Calls PySem.SeqAt PySem.StrLaws PySem.Builtin PySem.Builtin.Str
set_option Elab.async false
set_option maxRecDepth 100000
set_option linter.unusedVariables false
set_option maxHeartbeats 4000000
namespace Mine
section
variable {r : Bool} {prog : Program} {w : World} {A : Around} {E : Value → Shared → Prop} {s₀ s s' : Shared} {n : Nat} {L : Addr} {C : List (Addr × Held)} {O : List (Addr × List Value)} {loc : List (Str × Value)} {Γ : Pred} {env : Env} {Q : Value → Shared → Prop}

theorem subT {value slice : Expr} {o i : Value} {T id : String} (ops : List Value) (hT : s.TypeIs o T)
    (hl : typeLookup (.type T) "__getitem__" = pure (some (.builtin id))) (h : wpAny (model prog w) A (getItem o i) Q E s)
    (hs : subscripted slice false o i = operate ops (getItem o i)) : wpAny (model prog w) A (subscriptTail value slice o i) Q E s := by
  unfold subscriptTail
  refine wpAny_bind ?_
  rw [getitemInPython_of_ne hT.not_modules]
  refine wpAny_bind (wpAny_specialOf hT hl ?_)
  have fin : wpAny (model prog w) A (subscripted slice false o i) (fun r s₃ => wpAny (model prog w) A (letTemporaryGo value o r >>= fun _ => pure r) Q E s₃) E s := by
    rw [hs]
    exact wpAny_operating (wpAny_mono h (fun r s₃ h₃ => wpAny_bind (wpAny_letTemporaryGo (wpAny_pure h₃))) fun _ _ x => x)
  first
    | exact wpAny_bind fin
    | (refine wpAny_bind ?_; exact fin)
    | exact wpAny_pure (wpAny_bind fin)

theorem fm_eq {α β : Type} {f : α → Option β} {g : α → β} : ∀ {l : List α}, (∀ x ∈ l, f x = some (g x)) → l.filterMap f = l.map g
  | [], _ => rfl
  | x :: l, h => by rw [List.filterMap_cons, h x (.head _), List.map_cons, fm_eq fun y hy => h y (.tail _ hy)]
theorem pickRev (vs : List Value) : slicePick vs.toArray none none (some (-1)) = vs.reverse.toArray := by
  unfold slicePick
  congr 1
  have e : sliceBounds none none (some (-1)) vs.toArray.size = ((vs.length : Int) - 1, -1, -1) := by
    unfold sliceBounds; simp
  rw [e]
  have e2 : sliceRange ((vs.length : Int) - 1) (-1) (-1) = (List.range vs.length).map fun k => vs.length - 1 - k := by
    unfold sliceRange
    have c : (if (-1 : Int) > 0 then (if (vs.length : Int) - 1 < -1 then (-1 - ((vs.length : Int) - 1) + -1 - 1) / -1 else 0) else (if (vs.length : Int) - 1 > -1 then ((vs.length : Int) - 1 - -1 - -1 - 1) / (- -1) else 0)).toNat = vs.length := by
      rw [if_neg (by decide)]
      by_cases h : (vs.length : Int) - 1 > -1
      · rw [if_pos h]
        have : ((vs.length : Int) - 1 - -1 - -1 - 1) = vs.length := by omega
        rw [this, show (- -1 : Int) = 1 from rfl, Int.ediv_one]; rfl
      · rw [if_neg h]; omega
    show List.map _ (List.range (Int.toNat _)) = _
    rw [c]
    refine List.map_congr_left fun k hk => ?_
    have := List.mem_range.mp hk
    omega
  show List.filterMap _ (sliceRange ((vs.length : Int) - 1) (-1) (-1)) = _
  rw [e2, List.filterMap_map]
  refine List.ext_getElem? fun i => ?_
  have h1 : List.filterMap ((fun x => vs.toArray[x]?) ∘ fun k => vs.length - 1 - k) (List.range vs.length) = (List.range vs.length).map fun k => (vs[vs.length - 1 - k]?).getD .none := by
    refine fm_eq fun k hk => ?_
    have := List.mem_range.mp hk
    have hlt : vs.length - 1 - k < vs.length := by omega
    simp [hlt]
  rw [h1]
  by_cases hi : i < vs.length
  · have hlt : vs.length - 1 - i < vs.length := by omega
    rw [List.getElem?_reverse hi]
    simp [hi, hlt]
  · rw [List.getElem?_eq_none (by simpa using hi), List.getElem?_eq_none (by simpa using hi)]

theorem Lst.new (h : Heap) (vs : List Value) : Lst (.ref h.objs.size) vs (Old h) (h.push { cls := .type "list", data := .seq vs.toArray }) :=
  ⟨_, rfl, fun ⟨o, e⟩ => absurd (Heap.lt_size e) (Nat.lt_irrefl _), _, Heap.get?_push_size _ rfl, rfl, _, rfl⟩
theorem Lst.older {h k h' : Heap} {v : Value} {vs : List Value} (x : Lst v vs (Old k) h') (e : Ext h k) : Lst v vs (Old h) h' := let ⟨a, e1, e2, e3⟩ := x; ⟨a, e1, fun q => e2 (q.ext e), e3⟩

/-- what a cut does: the values kept, in their order -/
theorem cutTail {X : Addr → Prop} {value : Expr} {lo hi st : Option Int} {lower upper step : Option Expr} {p : Pos} {vl vu vt o : Value} {vs ws : List Value} (hl : Lst o vs X s.heap)
    (pl : IsPart vl lo) (pu : IsPart vu hi) (ps : IsPart vt st) (h0 : st ≠ some 0) (hpick : slicePick vs.toArray lo hi st = ws.toArray) (hz : vs.length ≤ 1000000)
    (h : ∀ v s', Sm s s' → Ext s.heap s'.heap → Lst v ws (Old s.heap) s'.heap → Q v s') :
    wpAny (model prog w) A (subscriptTail value (.Slice lower upper step p) o (.ref s.heap.objs.size)) Q E { s with heap := s.heap.push { cls := .type "slice", data := .fields #[vl, vu, vt] } } := by
  obtain ⟨a, rfl, hX, hl⟩ := hl
  have hl' : (s.heap.push { cls := .type "slice", data := .fields #[vl, vu, vt] }).IsList a vs.toArray := hl.at fun o e => Heap.get?_push_of_some _ e
  have fin : wpAny (model prog w) A (getItem (.ref a) (.ref s.heap.objs.size)) Q E { s with heap := s.heap.push { cls := .type "slice", data := .fields #[vl, vu, vt] } } := by
    refine wpAny_getItem_list_slice hl' (Heap.IsSliceOf.new ..) pl pu ps h0 ?_ (by show vs.toArray.size ≤ 16777216; simp; omega)
    rw [hpick]
    exact h _ _ ⟨_, _, rfl⟩ ((Ext.push _ _).trans (Ext.push _ _)) ((Lst.new _ ws).older (Ext.push _ _))
  have hT : Shared.TypeIs { s with heap := s.heap.push { cls := .type "slice", data := .fields #[vl, vu, vt] } } (.ref a) "list" := hl'.typeIs
  cases step with
  | none => exact subT [.ref s.heap.objs.size, .ref a] hT list_getitem_lookup fin rfl
  | some e => exact subT [.ref a, .ref s.heap.objs.size] hT list_getitem_lookup fin rfl

/-- an item of a list -/
theorem itemTail {X : Addr → Prop} {value slice : Expr} {o x : Value} {vs : List Value} {k : Nat} {u : Tok} (hl : Lst o vs X s.heap) (hx : vs[k]? = some x) (hz : vs.length ≤ 1000000) (h : Q x s)
    (hs : ∀ a, subscripted slice false (.ref a) (.int k u) = operate [.ref a, .int k u] (getItem (.ref a) (.int k u)) := by intro _; rfl) :
    wpAny (model prog w) A (subscriptTail value slice o (.int k u)) Q E s := by
  obtain ⟨a, rfl, hX, hl⟩ := hl
  have hk : k < vs.length := (List.getElem?_eq_some_iff.mp hx).1
  exact subT _ hl.typeIs list_getitem_lookup (wpAny_getItem_list hl (by omega) (by omega) (by simpa using hx) h) (hs a)
/-- an item of a tuple -/
theorem itemTailT {X : Addr → Prop} {value slice : Expr} {o x : Value} {vs : List Value} {k : Nat} {u : Tok} (hl : Tpl o vs X s.heap) (hx : vs[k]? = some x) (hz : vs.length ≤ 1000000) (h : Q x s)
    (hs : ∀ a, subscripted slice false (.ref a) (.int k u) = operate [.ref a, .int k u] (getItem (.ref a) (.int k u)) := by intro _; rfl) :
    wpAny (model prog w) A (subscriptTail value slice o (.int k u)) Q E s := by
  obtain ⟨a, rfl, hX, hl⟩ := hl
  have hk : k < vs.length := (List.getElem?_eq_some_iff.mp hx).1
  refine subT _ hl.typeIs PySem.F.slot_tuple_getitem.lookup (PyProof.Rows.getItem_tuple hl (by omega) (by omega) (j := k) ?_ (by simpa using hx) h) (hs a)
  unfold seqIndex?
  simp
  omega
/-- two lists in one -/
theorem addL {X Y : Addr → Prop} {a b : Value} {vs ws : List Value} (ha : Lst a vs X s.heap) (hb : Lst b ws Y s.heap) (hz : vs.length + ws.length ≤ 1000000)
    (h : ∀ v s', Sm s s' → Ext s.heap s'.heap → Lst v (vs ++ ws) (Old s.heap) s'.heap → Q v s') : wpAny (model prog w) A (binaryOp .Add a b) Q E s := by
  obtain ⟨l, rfl, _, hl⟩ := ha
  obtain ⟨b, rfl, _, hb⟩ := hb
  obtain ⟨⟨cls, dd, data, sl⟩, ho, hc, n, hd⟩ := id hl
  obtain ⟨⟨cls2, dd2, data2, sl2⟩, ho2, hc2, n2, hd2⟩ := id hb
  simp only at hc hd hc2 hd2
  subst hc hd hc2 hd2
  have e : vs.toArray ++ ws.toArray = (vs ++ ws).toArray := by simp
  refine concat_meets ⟨_, ho, rfl⟩ ⟨_, ho2, rfl⟩ noFill_list_add seq_list_add PySem.F.slot_list_add PySem.F.entry_list_add (PySem.F.args_list_add_2 _ _) (list_addW l b vs.toArray ws.toArray n n2 dd dd2 sl sl2 (by show _ ≤ 16777216; simp; omega)) ⟨ho, ho2, ?_⟩
  rw [e]
  exact h _ _ ⟨_, _, rfl⟩ (Ext.push _ _) (Lst.new _ _)
/-- a list written out -/
theorem listE {elts : List Expr} {pos : Pos}
    (h : wpAny (model prog w) A (spliced (backTo pos (starEach elts env))) (fun vs s₁ => vs.length ≤ 1000000 ∧ ∀ v s', Sm s₁ s' → Ext s₁.heap s'.heap → Lst v vs (Old s₁.heap) s'.heap → Q v s') E s) :
    wpAny (model prog w) A (eval (.List elts pos) env) Q E s := by
  refine wpAny_List (wpAny_mono h (fun vs s₁ h₁ => ⟨by have := h₁.1; show _ ≤ 16777216; omega, ?_⟩) fun _ _ e => e)
  exact h₁.2 _ _ ⟨_, _, rfl⟩ (Ext.push _ _) (Lst.new _ _)
theorem tupE {elts : List Expr} {k : Nat} {pos : Pos}
    (h : wpAny (model prog w) A (spliced (backTo pos (starEach elts env))) (fun vs s₁ => vs.length ≤ 1000000 ∧ ∀ v s', Sm s₁ s' → Ext s₁.heap s'.heap → Tpl v vs (Old s₁.heap) s'.heap → Q v s') E s) :
    wpAny (model prog w) A (eval (.Tuple elts k pos) env) Q E s := by
  refine Tuple_ (wpAny_mono h (fun vs s₁ h₁ => wpAny_newObj_type ?_ (by have := h₁.1; show vs.toArray.size ≤ 16777216; simp; omega)) fun _ _ e => e)
  exact h₁.2 _ _ ⟨_, _, rfl⟩ (Ext.push _ _) ⟨_, rfl, fun ⟨o, e⟩ => absurd (Heap.lt_size e) (Nat.lt_irrefl _), _, Heap.get?_push_size _ rfl, rfl, _, rfl⟩
end
end Mine
end

section
open PySem PySem.W PyProof.Rows PySem.Calls PySem.SeqAt PySem.StrLaws PySem.Builtin PySem.Builtin.Str
set_option Elab.async false
set_option maxRecDepth 100000
set_option linter.unusedVariables false
set_option maxHeartbeats 4000000
namespace Mine
section
variable {r : Bool} {prog : Program} {w : World} {A : Around} {E : Value → Shared → Prop} {s₀ s s' : Shared} {n : Nat} {L : Addr} {C : List (Addr × Held)} {O : List (Addr × List Value)} {loc : List (Str × Value)} {Γ : Pred} {env : Env} {Q : Value → Shared → Prop}

/-- five numbers under a million -/
def pad5 (ns : List Int) : List Int := (ns.take 5).map (fun x => x.fmod 1000000) ++ ([5, 8, 13, 34, 89] : List Int).drop (ns.take 5).length

theorem All.take {α : Type} {R : Value → α → Pred} {X : Addr → Prop} {h : Heap} : ∀ {vs : List Value} {xs : List α} (k : Nat), All R vs xs X h → All R (vs.take k) (xs.take k) X h
  | _, _, 0, _ => by simpa [All] using Paired.nil
  | _, _, k + 1, .nil => .nil
  | _, _, k + 1, .cons h p => .cons h (All.take k p)
theorem All.drop {α : Type} {R : Value → α → Pred} {X : Addr → Prop} {h : Heap} : ∀ {vs : List Value} {xs : List α} (k : Nat), All R vs xs X h → All R (vs.drop k) (xs.drop k) X h
  | _, _, 0, p => p
  | _, _, k + 1, .nil => .nil
  | _, _, k + 1, .cons h p => All.drop k p
theorem All.app {α : Type} {R : Value → α → Pred} {X : Addr → Prop} {h : Heap} : ∀ {vs ws : List Value} {xs ys : List α}, All R vs xs X h → All R ws ys X h → All R (vs ++ ws) (xs ++ ys) X h
  | _, _, _, _, .nil, q => q
  | _, _, _, _, .cons h p, q => .cons h (All.app p q)
theorem All.rev {α : Type} {R : Value → α → Pred} {X : Addr → Prop} {h : Heap} : ∀ {vs : List Value} {xs : List α}, All R vs xs X h → All R vs.reverse xs.reverse X h
  | _, _, .nil => .nil
  | v :: vs, x :: xs, .cons h p => by rw [List.reverse_cons, List.reverse_cons]; exact All.app (All.rev p) (.cons h .nil)
theorem All.get {α : Type} {R : Value → α → Pred} {X : Addr → Prop} {h : Heap} : ∀ {vs : List Value} {xs : List α} {i : Nat} {v : Value}, All R vs xs X h → vs[i]? = some v → ∃ x, xs[i]? = some x ∧ R v x X h
  | _, _, i, _, .nil, e => by simp at e
  | v :: vs, x :: xs, 0, u, .cons h p, e => by simp at e; subst e; exact ⟨x, rfl, h⟩
  | v :: vs, x :: xs, i + 1, u, .cons h p, e => by
    obtain ⟨y, e1, e2⟩ := All.get p (by simpa using e)
    exact ⟨y, by simpa using e1, e2⟩
theorem All.at {α : Type} {R : Value → α → Pred} {X : Addr → Prop} {h : Heap} : ∀ {vs : List Value} {xs : List α} {i : Nat} {x : α}, All R vs xs X h → xs[i]? = some x → ∃ v, vs[i]? = some v ∧ R v x X h
  | _, _, i, _, .nil, e => by simp at e
  | v :: vs, x :: xs, 0, u, .cons h p, e => by simp at e; subst e; exact ⟨v, rfl, h⟩
  | v :: vs, x :: xs, i + 1, u, .cons h p, e => by
    obtain ⟨y, e1, e2⟩ := All.at p (by simpa using e)
    exact ⟨y, by simpa using e1, e2⟩
theorem All.imp {α β : Type} {R : Value → α → Pred} {R' : Value → β → Pred} {f : α → β} {X Y : Addr → Prop} {h h' : Heap} (q : ∀ v x, R v x X h → R' v (f x) Y h') : ∀ {vs : List Value} {xs : List α}, All R vs xs X h → All R' vs (xs.map f) Y h'
  | _, _, .nil => .nil
  | _, _, .cons h p => .cons (q _ _ h) (All.imp q p)
theorem Fa.ext {P : Pred} (f : Fa P) {X : Addr → Prop} {h h' : Heap} (e : Ext h h') (p : P X h) : P X h' := f.mono X h h' e.kp p

theorem five (S : St r w s₀ L C O loc Γ s) {P : List Value → Shared → Prop} (h : ∀ vs s', St r w s₀ L C O loc Γ s' → (∀ X h, All cI vs [5, 8, 13, 34, 89] X h) → P vs s') {pos p1 p2 p3 p4 p5 : Pos} {k1 k2 k3 k4 k5 : Nat} :
    wpAny (model prog w) A (spliced (backTo pos (starEach [.Constant (.int 5) k1 p1, .Constant (.int 8) k2 p2, .Constant (.int 13) k3 p3, .Constant (.int 34) k4 p4, .Constant (.int 89) k5 p5] env))) P E s :=
  args_cons (kint S fun _ _ S => args_cons (kint S fun _ _ S => args_cons (kint S fun _ _ S => args_cons (kint S fun _ _ S => args_cons (kint S fun _ _ S => args_nil
    (h _ _ S fun _ _ => .cons ⟨_, rfl⟩ (.cons ⟨_, rfl⟩ (.cons ⟨_, rfl⟩ (.cons ⟨_, rfl⟩ (.cons ⟨_, rfl⟩ .nil))))))))))

theorem c_numbers {script : Value} {ns : List Int} {X : Addr → Prop} (hs : Ints script ns X s.heap) (hz : ns.length ≤ 1000000)
    (B : Base w s.heap) (hA : Lv n A) (hn : n ≤ 19) (h : Back s (fun v h => Ints v (pad5 ns) (Old s.heap) h) Q) :
    wpAny (model prog w) A (call (.ref 90) [script]) Q E s := by
  refine callP [(Str.ofString "script", _)] (d_numbers _) B hA (by omega) (by rfl) (by rfl) fun s₁ L S hA' => ?_
  have hs := (Ints.fa _ _).ext S.keep hs
  obtain ⟨vs, hl, pa⟩ := hs
  have hlen : vs.length = ns.length := paired_len pa
  refine wpAny_execs_cons (asgV (s₀ := s) (C := []) (O := []) (loc := [(Str.ofString "script", script)]) (Γ := none_) (cl := []) (fun _ => true) (fun v y => ∃ i t t', v = .int i t ∧ y = .int (i.fmod 1000000) t') (by rfl) (by rfl) (by decide) (by rfl) (by decide) (by decide) (by rfl) (by rfl) ?_)
  refine Subscript_ (rd S rfl (wpAny_Slice (partN (partS ?_))))
  refine wpAny_Constant_int (partN ?_)
  have S := S.tk (s₁.toks + 1)
  refine cutTail (s := { s₁ with toks := s₁.toks + 1 }) (ws := vs.take 5) hl .none (.int 5 _) .none (by decide) (by rw [show (some (5 : Int)) = some ((5 : Nat) : Int) from rfl, slicePick_upto']) (by omega) fun v s₂ sm ex hv => ?_
  have S := S.ext sm ex
  have S₂ := S
  refine ⟨_, _, S, srcList hA'.hd hv, by show _ ≤ 16777216; simp; omega, fun _ _ _ _ _ _ _ _ => noTests (x := Str.empty) (v := .none), ?_, ?_⟩
  · intro C i u s₃ E' hP _ ex₃ T₃
    have : ∃ i t, u = .int i t := by
      obtain ⟨x, _, t, e⟩ := All.get (All.take 5 pa) hP
      exact ⟨x, t, e⟩
    obtain ⟨i, t, rfl⟩ := this
    refine wpAny_BinOp (rd T₃ rfl (kint T₃ fun s₄ t₄ T₄ => PyProof.Rows.mod_int (by decide) ?_))
    exact ⟨⟨i, t, _, rfl, rfl⟩, (T₄.tk _).sm, T₄.keep⟩
  · intro D s₃ ys us S hD hpl hus hP hF
    rw [filter_true] at hF
    have pf : All cI ys.toList ((ns.take 5).map (fun x => x.fmod 1000000)) (Old s₂.heap) s₃.heap := by
      refine all_map (R := cI) (paired_get hF (ns.take 5) _ (by rw [hus]; simp; omega) hP ?_)
      rintro j v y hv ⟨i, t, t', rfl, rfl⟩
      obtain ⟨x, e, t₂, q⟩ := All.get (All.take 5 pa) hv
      injection q with q1 q2
      subst q1
      exact ⟨i, e, _, rfl⟩
    have hyl : ys.toList.length = (ns.take 5).length := by have := paired_len pf; simpa using this
    have hD' : Lst (.ref D) ys.toList (Old s₂.heap) s₃.heap := ⟨D, rfl, hD, by simpa using hpl.isList⟩
    refine wpAny_execs_cons (wpAny_Return_some (wpAny_BinOp (rd S rfl (Subscript_ ?_))))
    have S := S.add (Ints.fa (.ref D) ((ns.take 5).map (fun x => x.fmod 1000000)) |>.fz _) (S₂.fresh (Ints.fa _ _) ⟨_, hD', pf⟩)
    refine listE ?_
    refine five S (fun ws s₄ S hw => ⟨by have := paired_len (hw (fun _ => False) s.heap); rw [this]; decide, fun v₄ s₅ sm ex hv₄ => ?_⟩)
    have S₄ := S
    have S := S.ext sm ex
    have S := S.add ((Lst.fa v₄ ws).fz _) (S₄.fresh (Lst.fa _ _) hv₄)
    refine wpAny_Slice (partS ?_)
    have f1 := Fz.out (Ints.fa _ _) S.g.2.1
    obtain ⟨us', hl', pa'⟩ := f1
    have hul : us'.length = (ns.take 5).length := by have := paired_len pa'; simpa using this
    have hu5 : us'.length ≤ 5 := by rw [hul]; simp; omega
    refine Call_ (nm_len S.b (callWith_builtin1 (args_cons (rd S rfl (args_nil (lenL S hl' (by omega) fun s₆ t₆ S => ?_))))))
    refine partN (partN ?_)
    have f4 := Fz.out (Lst.fa _ _) S.g.1
    refine cutTail (ws := ws.drop us'.length) f4 (.int _ _) .none .none (by decide) (slicePick_from' _ _) (by have := paired_len (hw (fun _ => False) s.heap); rw [this]; decide) fun v₅ s₇ sm ex hv₅ => ?_
    have S₆ := S
    have S := S.ext sm ex
    have S := S.add ((Lst.fa v₅ _).fz _) (S₆.fresh (Lst.fa _ _) hv₅)
    have g1 := Fz.out (Ints.fa _ _) S.g.2.2.1
    obtain ⟨us₂, hl₂, pa₂⟩ := g1
    have hul₂ : us₂.length = (ns.take 5).length := by have := paired_len pa₂; simpa using this
    have g2 := Fz.out (Lst.fa _ _) S.g.1
    have hw5 : ws.length = 5 := by have := paired_len (hw (fun _ => False) s.heap); simpa using this
    have S₇ := S
    refine addL hl₂ g2 (by simp; omega) fun v₆ s₈ sm ex hv₆ => ?_
    have S := S.ext sm ex
    refine h _ _ S.sm S.keep ⟨_, hv₆.older S₇.keep, ?_⟩
    have pw := hw (Old s.heap) s₈.heap
    have pd := All.drop us'.length pw
    rw [hul] at pd
    exact All.app (show All cI us₂ _ (Old s.heap) s₈.heap from pa₂) (hul ▸ pd)
end
end Mine
end

section
open PySem PySem.W PyProof.Rows PySem.Calls PySem.SeqAt PySem.StrLaws PySem.Builtin PySem.Builtin.Str
set_option Elab.async false
set_option maxRecDepth 100000
set_option linter.unusedVariables false
set_option maxHeartbeats 4000000
namespace Mine
section
variable {r : Bool} {prog : Program} {w : World} {A : Around} {E : Value → Shared → Prop} {s₀ s s' : Shared} {n : Nat} {L : Addr} {C : List (Addr × Held)} {O : List (Addr × List Value)} {loc : List (Str × Value)} {Γ : Pred} {env : Env} {Q : Value → Shared → Prop}

/-- rows of words -/
abbrev RW := List (List (List Nat))
def tR (rs : RW) : List (List Str) := rs.map (·.map T)
def menuW : List (List Nat) := [[], [45], [40], [92, 42], [97]]
def wordOf (k : Nat) (x : Int) : List Nat := (96 + k) :: (menuW[((x.fdiv 6).fmod 5).toNat]?).getD []
def treeStep (rows : RW) (x : Int) : RW := rows ++ [wordOf rows.length x :: (rows[(x.fmod rows.length).toNat]?).getD []]
def grow (ns : List Int) : RW := ns.foldl treeStep [[]]
def treeOf (ns : List Int) : RW := (grow ns).drop 1

theorem St.old {P : Pred} (S : St true w s₀ L C O loc Γ s) (f : Fa P) {X : Addr → Prop} (p : P X s₀.heap) : P (Xs C O) s.heap :=
  f.ext S.keep (f.grow _ _ _ (fun b hb => .inr (by
    cases q : s₀.heap.get? b with
    | none => rfl
    | some o => exact absurd ⟨o, q⟩ (S.mine (List.mem_cons_of_mem _ hb)))) p)
theorem Fz.weaken {P : Pred} (f : Fa P) {N N' : Heap} (e : Ext N N') {X : Addr → Prop} {h : Heap} (p : Fz N' P X h) : Fz N P X h :=
  f.grow _ _ _ (fun b hb => .inl (hb.imp id fun q => q.ext e)) p

theorem strs5 (S : St r w s₀ L C O loc Γ s) {P : List Value → Shared → Prop} (h : ∀ vs s', St r w s₀ L C O loc Γ s' → (∀ X h, All cS vs (menuW.map T) X h) → P vs s') {pos p1 p2 p3 p4 p5 : Pos} {k1 k2 k3 k4 k5 : Nat} :
    wpAny (model prog w) A (spliced (backTo pos (starEach [.Constant (.str (Str.ofString "")) k1 p1, .Constant (.str (Str.ofString "-")) k2 p2, .Constant (.str (Str.ofString "(")) k3 p3, .Constant (.str (Str.ofString "\\*")) k4 p4, .Constant (.str (Str.ofString "a")) k5 p5] env))) P E s :=
  args_cons (kstr S fun _ _ S => args_cons (kstr S fun _ _ S => args_cons (kstr S fun _ _ S => args_cons (kstr S fun _ _ S => args_cons (kstr S fun _ _ S => args_nil
    (h _ _ S fun _ _ => .cons ⟨_, by rw [show Str.ofString "" = T [] by decide +kernel]⟩ (.cons ⟨_, by rw [show Str.ofString "-" = T [45] by decide +kernel]⟩ (.cons ⟨_, by rw [show Str.ofString "(" = T [40] by decide +kernel]⟩
      (.cons ⟨_, by rw [show Str.ofString "\\*" = T [92, 42] by decide +kernel]⟩ (.cons ⟨_, by rw [show Str.ofString "a" = T [97] by decide +kernel]⟩ .nil))))))))))

theorem mod5 (x : Int) : ∃ k : Nat, x.fmod 5 = k ∧ k < 5 := by
  have h1 := Int.fmod_nonneg_of_pos x (b := 5) (by decide)
  have h2 := Int.fmod_lt_of_pos x (b := 5) (by decide)
  exact ⟨(x.fmod 5).toNat, by omega, by omega⟩
theorem modN (x : Int) {m : Nat} (hm : 0 < m) : ∃ k : Nat, x.fmod m = k ∧ k < m := by
  have h1 := Int.fmod_nonneg_of_pos x (b := (m : Int)) (by omega)
  have h2 := Int.fmod_lt_of_pos x (b := (m : Int)) (by omega)
  exact ⟨(x.fmod m).toNat, by omega, by omega⟩

/-- the loop's body -/
theorem tree_turn {rows : RW} {vs : List Value} {D : Addr} {x : Int} {t : Tok} {sN : Heap} {pn : List (Addr × Held)} (hA : Lv n A) (hlen : rows.length ≤ 1000) (hpos : 0 < rows.length) (hsz : ∀ r ∈ rows, r.length ≤ 1000) (hN : Ext sN s₀.heap)
    (S : St true w s₀ L pn [(D, vs)] [(Str.ofString "x", .int x t), (Str.ofString "rows", .ref D)] (Fz sN (All Strs vs (tR rows))) s)
    {Q : Flow → Shared → Prop} (h : ∀ v s', St true w s₀ L pn [(D, vs ++ [v])] [(Str.ofString "rows", .ref D)] (Fz sN (All Strs (vs ++ [v]) (tR (treeStep rows x)))) s' → Q .next s') :
    ∀ body, (∃ t i o p, ((bodyAt 14).drop 1).head? = some (.For t i body o p)) → wpAny (model prog w) A (execs body (envAt 14 97 96 L)) Q E s := by
  rintro body ⟨tg, it, o, p, e⟩
  have e' : body = match ((bodyAt 14).drop 1).head? with | some (.For _ _ b _ _) => b | _ => [] := by rw [e]
  subst e'
  have hvl : vs.length = rows.length := by have := paired_len S.g; simpa [tR] using this
  refine wpAny_execs_cons (wpAny_Assign_Name (wpAny_BinOp ?_))
  refine Call_ (nm_chr S.b (callWith_builtin1 (args_cons (wpAny_BinOp (kint S fun s₁ t₁ S => ?_)))))
  refine Call_ (nm_len S.b (callWith_builtin1 (args_cons (rd S rfl (args_nil (lenL S (S.owned (.head _)) (by omega) fun s₂ t₂ S => ?_))))))
  refine PyProof.Rows.add_int (args_nil (chr_of_range (by omega) (by omega) ?_))
  have S := S.tk (s₂.toks + 1 + 1)
  refine Subscript_ (tupE ?_)
  refine strs5 S (fun ws s₄ S hw => ⟨by have := paired_len (hw (fun _ => False) s.heap); rw [this]; decide, fun v₄ s₅ sm ex hv₄ => ?_⟩)
  have S₄ := S
  have S := S.ext sm ex
  have S := S.add ((Tpl.fa v₄ ws).fz _) (S₄.fresh (Tpl.fa _ _) hv₄)
  refine wpAny_BinOp (wpAny_BinOp (rd S rfl (kint S fun s₆ t₆ S => PyProof.Rows.floordiv_int (by decide) (kint (S.tk _) fun s₇ t₇ S => PyProof.Rows.mod_int (by decide) ?_) (.inl (PyProof.noPylong_small (by decide))))))
  have S := S.tk (s₇.toks + 1)
  obtain ⟨k, hk, hk5⟩ := mod5 (x.fdiv 6)
  rw [hk]
  have f4 := Fz.out (Tpl.fa _ _) S.g.1
  obtain ⟨mw, hmw, hml⟩ : ∃ mw, menuW[k]? = some mw ∧ mw.length ≤ 2 := by
    have : ∀ k : Fin 5, ∃ mw, menuW[k.val]? = some mw ∧ mw.length ≤ 2 := fun k => ⟨menuW[k.val]'k.isLt, List.getElem?_eq_getElem k.isLt, by revert k; decide⟩
    exact this ⟨k, hk5⟩
  obtain ⟨wv, hwv, hwx⟩ := All.at (hw (fun _ => False) s.heap) (show (menuW.map T)[k]? = some (T mw) by rw [List.getElem?_map, hmw]; rfl)
  refine itemTailT f4 hwv (by have := paired_len (hw (fun _ => False) s.heap); rw [this]; decide) ?_
  obtain ⟨t₈, rfl⟩ := hwx
  have eW : Str.mk #[(96 + (rows.length : Int)).toNat] = T [96 + rows.length] := by
    have : (96 + (rows.length : Int)).toNat = 96 + rows.length := by omega
    rw [this]; rfl
  refine (?_ : wpAny _ _ (binaryOp .Add (.str (Str.mk #[(96 + (vs.length : Int)).toNat]) _) _) _ _ _)
  rw [hvl, eW]
  refine addT S (by simp; omega) fun s₈ t₉ S => ?_
  have eWd : ([96 + rows.length] ++ mw) = wordOf rows.length x := by
    unfold wordOf; rw [hk, Int.toNat_natCast, hmw]; rfl
  rw [eWd]
  refine sto S fun s₉ S => ?_
  have S := S.drop (Γ' := Fz sN (All Strs vs (tR rows))) ((All.fa Strs.fa _ _).fz _) (fun _ _ g => g.2)
  refine appendStmt (rd S rfl ⟨D, vs.toArray, rfl, S.own _ (.head _), wpAny_BinOp (listE (args_cons (rd S rfl (args_nil ⟨by show 1 ≤ 1000000; decide, fun va sa sm ex hva => ?_⟩))))⟩)
  have Sb := S
  have S := S.ext sm ex
  have S := S.add ((Lst.fa va _).fz _) (Sb.fresh (Lst.fa _ _) hva)
  refine Subscript_ (rd S rfl (wpAny_BinOp (rd S rfl ?_)))
  refine Call_ (nm_len S.b (callWith_builtin1 (args_cons (rd S rfl (args_nil (lenL S (S.owned (.head _)) (by omega) fun s₁₀ t₁₀ S => ?_))))))
  refine PyProof.Rows.mod_int (by omega) ?_
  have S := S.tk (s₁₀.toks + 1)
  rw [hvl]
  obtain ⟨j, hj, hjl⟩ := modN x hpos
  rw [hj]
  have gA : All Strs vs (tR rows) (Xs pn [(D, vs)]) s₁₀.heap := Fz.out (All.fa Strs.fa _ _) S.g.2
  have hjr : rows[j]? = some rows[j] := List.getElem?_eq_getElem hjl
  obtain ⟨rv, hrv, hrx⟩ := All.at gA (show (tR rows)[j]? = some (rows[j].map T) by simp [tR, hjr])
  refine itemTail (S.owned (.head _)) hrv (by omega) ?_
  obtain ⟨us, hul, hua⟩ := hrx
  have husz : us.length = rows[j].length := by have := paired_len hua; simpa using this
  have hrl := hsz rows[j] (List.getElem_mem hjl)
  have g1 := Fz.out (Lst.fa _ _) S.g.1
  refine addL g1 hul (by simp; omega) fun vr sr sm ex hvr => ?_
  have Sc := S
  have S := S.ext sm ex
  have eR : (wordOf rows.length x :: rows[j]).map T = T (wordOf rows.length x) :: rows[j].map T := rfl
  have S := S.add ((Strs.fa vr ((wordOf rows.length x :: rows[j]).map T)).fz sN) (Fz.weaken (Strs.fa _ _) hN (Sc.fresh (Strs.fa vr ((wordOf rows.length x :: rows[j]).map T)) ⟨_, hvr, .cons ⟨_, rfl⟩ hua⟩))
  refine app1 S (by omega) fun s' S => ?_
  have S := S.only [(Str.ofString "rows", .ref D)] ⟨rfl, trivial⟩
  have S := S.drop (Γ' := Fz sN (All Strs (vs ++ [vr]) (tR (treeStep rows x)))) ((All.fa Strs.fa _ _).fz _) (fun X h g => by
    have e : tR (treeStep rows x) = tR rows ++ [(wordOf rows.length x :: rows[j]).map T] := by simp [tR, treeStep, hj, hjr]
    rw [e]
    exact All.app g.2.2 (.cons g.1 .nil))
  exact wpAny_execs_nil (h vr s' S)
end
end Mine
end

section
open PySem PySem.W PyProof.Rows PySem.Calls PySem.SeqAt PySem.StrLaws PySem.Builtin PySem.Builtin.Str
set_option Elab.async false
set_option maxRecDepth 100000
set_option linter.unusedVariables false
set_option maxHeartbeats 4000000
namespace Mine
section
variable {r : Bool} {prog : Program} {w : World} {A : Around} {E : Value → Shared → Prop} {s₀ s s' : Shared} {n : Nat} {L : Addr} {C : List (Addr × Held)} {O : List (Addr × List Value)} {loc : List (Str × Value)} {Γ : Pred} {env : Env} {Q : Value → Shared → Prop}

theorem grow_snoc {ns : List Int} {i : Nat} {x : Int} (h : ns[i]? = some x) : grow (ns.take (i + 1)) = treeStep (grow (ns.take i)) x := by
  unfold grow
  rw [List.take_add_one, h]
  simp
theorem grow_size {ns : List Int} : ∀ (i : Nat), i ≤ ns.length → (grow (ns.take i)).length = i + 1 ∧ ∀ r ∈ grow (ns.take i), r.length ≤ i := by
  intro i
  induction i with
  | zero => intro _; exact ⟨rfl, fun r hr => by simp [grow] at hr; simp [hr]⟩
  | succ i ih =>
    intro hi
    obtain ⟨h1, h2⟩ := ih (by omega)
    have e : ns[i]? = some ns[i] := List.getElem?_eq_getElem (by omega)
    rw [grow_snoc e]
    unfold treeStep
    refine ⟨by simp [h1], fun r hr => ?_⟩
    rcases List.mem_append.mp hr with hr | hr
    · have := h2 r hr; omega
    · rw [List.mem_singleton.mp hr, List.length_cons]
      cases q : (grow (ns.take i))[(ns[i].fmod (grow (ns.take i)).length).toNat]? with
      | none => simp
      | some r => have := h2 r (List.mem_of_getElem? q); simpa using this

theorem c_tree {numbers : Value} {ns : List Int} {X : Addr → Prop} (hs : Ints numbers ns X s.heap) (hz : ns.length ≤ 100)
    (B : Base w s.heap) (hA : Lv n A) (hn : n ≤ 19) (h : Back s (fun v h => Rows v (tR (treeOf ns)) (Old s.heap) h) Q) :
    wpAny (model prog w) A (call (.ref 97) [numbers]) Q E s := by
  refine callP [(Str.ofString "numbers", _)] (d_tree _) B hA (by omega) (by rfl) (by rfl) fun s₁ L S hA' => ?_
  refine wpAny_execs_cons (wpAny_Assign_Name (List_ (args_cons (listE (args_nil ⟨by decide, fun v s₂ sm ex hv => ?_⟩)))))
  have Sb := S
  have S := S.ext sm ex
  have S := S.add ((All.fa Strs.fa [v] (tR [[]])).fz s.heap) (Sb.fresh (All.fa Strs.fa _ _) (.cons ⟨[], hv, .nil⟩ .nil))
  have S := S.drop (Γ' := Fz s.heap (All Strs [v] (tR [[]]))) ((All.fa Strs.fa _ _).fz _) (fun X h g => g.1)
  refine args_nil (ownNew S (by simp) fun D s₃ S => sto S fun s₄ S => ?_)
  refine wpAny_execs_cons (forV (s₀ := s) (fun i C O loc Γ => ∃ D vs, C = [] ∧ O = [(D, vs)] ∧ loc = [(Str.ofString "rows", .ref D)] ∧ Γ = Fz s.heap (All Strs vs (tR (grow (ns.take i))))) ?_)
  obtain ⟨nvs, hnl, hna⟩ := hs
  refine rd S rfl ⟨nvs.length, _, [], [(D, [v])], [(Str.ofString "rows", .ref D)], _, S.only _ ⟨rfl, trivial⟩, ⟨D, [v], rfl, rfl, rfl, rfl⟩, feedList hA'.hd (S.old (Lst.fa _ _) hnl), ?_, ?_⟩
  · rintro pn i u _ _ _ _ s₀' s₅ E' hi hP ⟨D, vs, rfl, rfl, rfl, rfl⟩ e0 S
    obtain ⟨x, hx, t, rfl⟩ := All.get hna hP
    have hil : i < ns.length := (List.getElem?_eq_some_iff.mp hx).1
    obtain ⟨g1, g2⟩ := grow_size (ns := ns) i (by omega)
    refine PySem.wpAny_assign_Name (sto S fun s₆ S => ?_)
    refine tree_turn (rows := grow (ns.take i)) (x := x) (vs := vs) (D := D) (sN := s.heap) hA' (by omega) (by omega) (fun r hr => by have := g2 r hr; omega) e0 S (fun v s₇ S => ?_) _ ⟨_, _, _, _, rfl⟩
    exact ⟨.inl rfl, [], _, _, _, S, D, _, rfl, rfl, rfl, by rw [grow_snoc hx]⟩
  · rintro _ _ _ _ s₅ ⟨D, vs, rfl, rfl, rfl, rfl⟩ S
    have hnl' : nvs.length = ns.length := paired_len hna
    rw [hnl', List.take_of_length_le (Nat.le_refl _)] at S
    obtain ⟨g1, g2⟩ := grow_size (ns := ns) ns.length (by omega)
    rw [List.take_of_length_le (Nat.le_refl _)] at g1 g2
    have hvl : vs.length = (grow ns).length := by have := paired_len S.g; simpa [tR] using this
    refine wpAny_execs_cons (wpAny_Return_some (Subscript_ (rd S rfl (wpAny_Slice (partS ?_)))))
    refine wpAny_Constant_int (partN (partN ?_))
    have S := S.tk (s₅.toks + 1)
    refine cutTail (s := { s₅ with toks := s₅.toks + 1 }) (ws := vs.drop 1) (S.owned (.head _)) (.int 1 _) .none .none (by decide) (by rw [show (some (1 : Int)) = some ((1 : Nat) : Int) from rfl, slicePick_from']) (by omega) fun v s₆ sm ex hv => ?_
    have Sb := S
    have S := S.ext sm ex
    refine h _ _ S.sm S.keep ⟨_, hv.older Sb.keep, ?_⟩
    have := Fz.fresh (All.fa Strs.fa _ _) S.g
    have := All.drop 1 this
    have e : tR (treeOf ns) = (tR (grow ns)).drop 1 := by unfold treeOf tR; rw [List.map_drop]
    rw [e]; exact this
end
end Mine
end

section
open PySem PySem.W PyProof.Rows PySem.Calls PySem.SeqAt PySem.StrLaws PySem.Builtin PySem.Builtin.Str
set_option Elab.async false
set_option maxRecDepth 100000
set_option linter.unusedVariables false
set_option maxHeartbeats 4000000
namespace Mine
theorem joinL_snoc (sep : List Nat) : ∀ {a : List (List Nat)} (x : List Nat), a ≠ [] → joinL sep (a ++ [x]) = joinL sep a ++ sep ++ x
  | [], _, h => absurd rfl h
  | [y], x, _ => rfl
  | y :: z :: r, x, _ => by
    have ih := joinL_snoc sep (a := z :: r) x (by simp)
    simp only [List.cons_append] at ih ⊢
    rw [joinL, ih, joinL]
    simp
theorem pathOf_join : ∀ row : List (List Nat), joinL [46] row.reverse = pathOf row
  | [] => rfl
  | [x] => rfl
  | x :: y :: r => by
    have ih := pathOf_join (y :: r)
    rw [List.reverse_cons, joinL_snoc _ _ (by simp), ih, pathOf]
    simp
/-- a row whose lengths stay small -/
structure Small (r : List (List Nat)) : Prop where
  len : r.length ≤ 1000
  sum : (r.map List.length).sum ≤ 10000
section
variable {r : Bool} {prog : Program} {w : World} {A : Around} {E : Value → Shared → Prop} {s₀ s s' : Shared} {n : Nat} {L : Addr} {C : List (Addr × Held)} {O : List (Addr × List Value)} {loc : List (Str × Value)} {Γ : Pred} {env : Env} {Q : Value → Shared → Prop}

theorem sum_rev (l : List (List Nat)) : (l.reverse.map List.length).sum = (l.map List.length).sum := by
  rw [List.map_reverse, List.sum_reverse]
theorem pathOf_le {row : List (List Nat)} (h : Small row) : (pathOf row).length ≤ 11000 := by
  rw [← pathOf_join]
  have := joinL_length [46] row.reverse
  rw [sum_rev] at this
  have h1 := h.len
  have h2 := h.sum
  simp at this; omega

theorem one_lookup {x k : Str} {u v : Value} (e : [(k, u)].lookup x = some v) : x = k ∧ u = v := by
  rw [List.lookup_cons] at e
  by_cases h : x = k
  · subst h; simp at e; exact ⟨rfl, e⟩
  · have : (x == k) = false := by simpa using h
    rw [this] at e; cases e
theorem rdK {x : Str} {c : Addr} {pos : Pos} {v : Value} {Q : Value → Shared → Prop} (hv : s.heap.IsCell c (some v)) (h : Q v s) (hc : env.cells.lookup x = some c)
    (hk : env.scope.kind = .function := by rfl) (hl : env.kindOf x = some .cell := by rfl) (hd : (x == ("__debug__" : Str)) = false := by decide) :
    wpAny (model prog w) A (eval (.Name x pos) env) Q E s :=
  wpAny_Name (wpAny_loadName_cell hk hl hc hv h) hd
theorem lst_inj {X Y : Addr → Prop} {h : Heap} {v : Value} {vs ws : List Value} (a : Lst v vs X h) (b : Lst v ws Y h) : vs = ws := by
  obtain ⟨l, rfl, _, o, ho, _, n, hd⟩ := a
  obtain ⟨l', e, _, o', ho', _, n', hd'⟩ := b
  injection e with e; subst e
  rw [ho] at ho'; cases ho'
  rw [hd] at hd'
  injection hd' with e1 _
  simpa using e1
theorem cS_inj {X Y : Addr → Prop} {h k : Heap} : ∀ {vs : List Value} {xs ys : List Str}, All cS vs xs X h → All cS vs ys Y k → xs = ys
  | _, _, _, .nil, .nil => rfl
  | _, _, _, .cons ⟨t, e⟩ p, .cons ⟨u, f⟩ q => by
    rw [e] at f; injection f with f1 _
    rw [f1, cS_inj p q]
theorem strs_inj {X Y : Addr → Prop} {h : Heap} {v : Value} {xs ys : List Str} (a : Strs v xs X h) (b : Strs v ys Y h) : xs = ys := by
  obtain ⟨vs, l, p⟩ := a
  obtain ⟨ws, l', q⟩ := b
  have := lst_inj l l'; subst this
  exact cS_inj p q
theorem tmap_inj : ∀ {a b : List (List Nat)}, a.map T = b.map T → a = b
  | [], [], _ => rfl
  | [], _ :: _, h => by simp at h
  | _ :: _, [], h => by simp at h
  | x :: a, y :: b, h => by
    simp only [List.map_cons, List.cons.injEq] at h
    rw [T_inj h.1, tmap_inj h.2]
/-- name of a row, with its note -/
def nameOf (note : List Nat → List Nat) (row : List (List Nat)) : List Nat := pathOf row ++ note (row.headD [])

theorem c_names {rows nv : Value} {rs : RW} {d : Addr} {f : Str → Option Value} {note : List Nat → List Nat} {X : Addr → Prop} (hr : Rows rows (tR rs) X s.heap) (hnv : nv = .ref d) (hd : s.heap.MapOf (strKind prog w) d f)
    (hf : ∀ r ∈ rs, Small r ∧ ∃ x t, r = x :: t ∧ ∃ v, f (T x) = some v ∧ IsStr v (T (note x)) ∧ (note x).length ≤ 100) (hz : rs.length ≤ 1000)
    (B : Base w s.heap) (hA : Lv n A) (hn : n ≤ 19) (h : Back s (fun v h => Strs v ((rs.map (nameOf note)).map T) (Old s.heap) h) Q) :
    wpAny (model prog w) A (call (.ref 107) [rows, nv]) Q E s := by
  subst hnv
  have hkind : ∀ L : Addr, ∀ x ∈ [(Str.ofString "rows", rows), (Str.ofString "notes", Value.ref d)], (scopeAt 16).names.lookup x.1 = some .local ∨ ((scopeAt 16).names.lookup x.1 = some .cell ∧ ((cellsFrom (L + 1) (scopeAt 16).names []).lookup x.1).isSome = true) := by
    intro L x hx
    rcases List.mem_cons.mp hx with rfl | hx
    · exact .inl (by rfl)
    · rw [List.mem_singleton.mp hx]; exact .inr ⟨by rfl, by rfl⟩
  have hloc : ∀ L : Addr, ∀ x v, [(Str.ofString "rows", rows)].lookup x = some v → bindL (envC 16 107 106 L).kindOf [(Str.ofString "rows", rows), (Str.ofString "notes", Value.ref d)] (fun _ => none) x = some v := by
    intro L x v e
    obtain ⟨rfl, rfl⟩ := one_lookup e
    rfl
  refine callC [(Str.ofString "rows", rows), (Str.ofString "notes", .ref d)] [Str.ofString "notes"] [(Str.ofString "rows", rows)] (d_names _) B hA (by omega) (by rfl) hkind hloc (by intro L; rfl) (by decide) fun s₁ L S hA' => ?_
  have S : St true w s L [(L + 1, .cell (some (.ref d)))] [] [(Str.ofString "rows", rows)] none_ s₁ := S
  obtain ⟨vs, hl, pa⟩ := hr
  have hvl : vs.length = rs.length := by have := paired_len pa; simpa [tR] using this
  refine wpAny_execs_cons (wpAny_Return_some (compV (fun _ => true) (fun v y => ∃ (row : List (List Nat)) (t : Tok), Strs v (row.map T) X s.heap ∧ y = .str (T (nameOf note row)) t) (cl := [(Str.ofString "notes", L + 1)]) (by rfl) (by decide) (by rfl) (by decide) (by decide) ?_))
  refine rd S rfl ⟨_, _, srcList hA'.hd (S.old (Lst.fa _ _) hl), by show _ ≤ 16777216; omega, S.b, fun _ _ _ _ _ _ _ _ => noTests (x := Str.empty) (v := .none), ?_, ?_⟩
  · intro C i v s₃ E' hP _ ex T₃
    obtain ⟨rr, hrr, hs⟩ := All.get pa hP
    obtain ⟨row, hrow, rfl⟩ : ∃ row, rs[i]? = some row ∧ rr = row.map T := by
      unfold tR at hrr
      rw [List.getElem?_map, Option.map_eq_some_iff] at hrr
      obtain ⟨row, h1, h2⟩ := hrr
      exact ⟨row, h1, h2.symm⟩
    obtain ⟨hsm, x, tl, rfl, nt, hfx, ⟨tn, rfl⟩, hnl⟩ := hf row (List.mem_of_getElem? hrow)
    have ex₁ : Ext s.heap s₃.heap := S.keep.trans ex
    have hs' := hs
    have hs := (Strs.fa _ _).ext ex₁ hs
    have hs0 := hs'
    obtain ⟨us, hul, hua⟩ := hs
    have husz : us.length = (x :: tl).length := by have := paired_len hua; simpa using this
    have hrl := hsm.len
    refine wpAny_BinOp (wpAny_Call_method_lateS rfl rfl rfl (kstr T₃ fun s₄ t₄ T₄ => ⟨"str", "str.join", F.plainAttrs_str, F.slot_str_join, F.type_str_join, typeIs_str _ _ _, (fun _ e => nomatch e), ?_⟩))
    refine callWith_method1 (args_cons (Subscript_ (rd T₄ rfl (wpAny_Slice (partN (partN (partS (wpAny_UnaryOp ?_))))))))
    refine kint T₄ fun s₅ t₅ T₅ => P.neg_int ?_
    have T₅ := T₅.tk (s₅.toks + 1)
    have hul₅ := (Lst.fa _ _).ext T₅.keep hul
    refine cutTail (s := { s₅ with toks := s₅.toks + 1 }) (ws := us.reverse) hul₅ .none .none (.int (-1) _) (by decide) (pickRev us) (by omega) fun v₆ s₆ sm ex₆ hv₆ => args_nil ?_
    have T₆ := T₅.ext sm ex₆
    rw [lit3]
    have hj : Strs v₆ (((x :: tl).reverse).map T) (Old _) s₆.heap := ⟨_, hv₆, by rw [List.map_reverse]; exact All.rev (show All cS us _ _ _ from hua)⟩
    refine joinS T₆ hj (by rw [sum_rev]; have := hsm.sum; simp at this hrl ⊢; omega) fun s₇ t₇ T₇ => ?_
    rw [pathOf_join]
    have hc1 : s₁.heap.IsCell (L + 1) (some (.ref d)) := S.cells _ (.head _)
    refine Subscript_ (rdK (hc1.keeps (ex.trans T₇.keep)) (Subscript_ (rd T₇ rfl (wpAny_Constant_int ?_))) (by rfl))
    have T₇ := T₇.tk (s₇.toks + 1)
    have hul₇ := (Lst.fa _ _).ext T₇.keep hul
    obtain ⟨u0, hu0, t₈, rfl⟩ := All.at (i := 0) hua (show ((x :: tl).map T)[0]? = some (T x) by rfl)
    refine itemTail (k := 0) hul₇ hu0 (by omega) ?_
    have hd₇ : s₇.heap.MapOf (strKind prog w) d f := by
      obtain ⟨o, es, ep, ho, q⟩ := hd
      exact ⟨o, es, ep, ex₁.trans T₇.keep _ _ ho, q⟩
    refine subT (s := { s₇ with toks := s₇.toks + 1 }) _ hd₇.typeIs slot_dict_getitem.lookup (wpAny_getItem_of (s := { s₇ with toks := s₇.toks + 1 }) (strKind_is prog w _ _) hd₇ hfx ?_) rfl
    have T₈ := T₇.tk (s₇.toks + 1 + 1)
    refine addT T₈ (by have := pathOf_le hsm; simp; omega) fun s₉ t₉ T₉ => ?_
    exact ⟨⟨x :: tl, t₉, hs0, rfl⟩, T₉.sm, T₉.keep⟩
  · intro D s' ys us sm ex hD hpl hus hP hF
    rw [filter_true] at hF
    have S' := S.ext sm ex
    refine h _ _ S'.sm S'.keep ⟨ys.toList, ⟨D, rfl, fun q => hD (q.ext S.keep), by simpa using hpl.isList⟩, ?_⟩
    rw [List.map_map]
    refine all_map (R := cS) (f := T ∘ nameOf note) (paired_get hF rs _ (by rw [hus]; exact hvl) hP ?_)
    rintro j v y hv ⟨row, t, hs, rfl⟩
    obtain ⟨rr, hrr, hs'⟩ := All.get pa hv
    unfold tR at hrr
    rw [List.getElem?_map, Option.map_eq_some_iff] at hrr
    obtain ⟨row', h1, rfl⟩ := hrr
    have : row = row' := tmap_inj (strs_inj hs hs')
    subst this
    exact ⟨_, h1, _, rfl⟩
end
end Mine
end

section
open PySem PySem.W PyProof.Rows PySem.Calls PySem.SeqAt PySem.StrLaws PySem.Builtin PySem.Builtin.Str
set_option Elab.async false
set_option maxRecDepth 100000
set_option linter.unusedVariables false
set_option maxHeartbeats 4000000
namespace Mine
def cps (x : String) : List Nat := (Str.ofString x).cps.toList
theorem T_cps (x : String) : Str.ofString x = T (cps x) := by unfold cps T; rfl
def headM : List (List Nat) := ["* 7 FETCH (", "* 7 FETCH (FLAGS (z.a) ", "FLAGS ("].map cps
def tailM : List (List Nat) := [")", " UID 7)", " FLAGS (z"].map cps
def gapM : List (List Nat) := [" ", "  ", "\t"].map cps
section
variable {r : Bool} {prog : Program} {w : World} {A : Around} {E : Value → Shared → Prop} {s₀ s s' : Shared} {n : Nat} {L : Addr} {C : List (Addr × Held)} {O : List (Addr × List Value)} {loc : List (Str × Value)} {Γ : Pred} {env : Env} {Q : Value → Shared → Prop}

/-- one of three texts -/
theorem menu3 (S : St r w s₀ L C O loc Γ s) {x1 x2 x3 : String} {k1 k2 k3 kk : Nat} {p1 p2 p3 tp p pos : Pos} {e1 e2 : Expr} {op : Operator}
    (h : ∀ Γ' s', (∀ s₃, St r w s₀ L C O loc Γ' s₃ → St r w s₀ L C O loc Γ s₃) → St r w s₀ L C O loc Γ' s' → wpAny (model prog w) A (eval (.BinOp e1 op e2 p) env) (fun i s₂ => ∃ (k : Nat) (u : Tok) (m : List Nat), i = .int k u ∧ St r w s₀ L C O loc Γ' s₂ ∧ ([x1, x2, x3].map cps)[k]? = some m ∧ ∀ t s₃, St r w s₀ L C O loc Γ' s₃ → Q (.str (T m) t) s₃) E s') :
    wpAny (model prog w) A (eval (.Subscript (.Tuple [.Constant (.str (Str.ofString x1)) k1 p1, .Constant (.str (Str.ofString x2)) k2 p2, .Constant (.str (Str.ofString x3)) k3 p3] kk tp) (.BinOp e1 op e2 p) pos) env) Q E s := by
  have fa := S.fa
  refine Subscript_ (tupE (args_cons (kstr S fun sa ta S => args_cons (kstr S fun sb tb S => args_cons (kstr S fun sc tc S => args_nil ⟨by show 3 ≤ 1000000; decide, fun v s₁ sm ex hv => ?_⟩)))))
  have Sb := S
  have S := S.ext sm ex
  have S := S.add ((Tpl.fa v _).fz _) (Sb.fresh (Tpl.fa _ _) hv)
  refine wpAny_mono (h _ _ (fun s₃ S => S.drop fa fun _ _ g => g.2) S) (fun i s₂ h₂ => ?_) fun _ _ e => e
  obtain ⟨k, u, m, rfl, S, hm, hq⟩ := h₂
  have g := Fz.out (Tpl.fa _ _) S.g.1
  have hk : k = 0 ∨ k = 1 ∨ k = 2 := by
    have := (List.getElem?_eq_some_iff.mp hm).1
    simp at this; omega
  rcases hk with rfl | rfl | rfl
  · simp at hm; subst hm; exact itemTailT (k := 0) g (by rfl) (by show 3 ≤ 1000000; decide) (T_cps x1 ▸ hq _ _ S)
  · simp at hm; subst hm; exact itemTailT (k := 1) g (by rfl) (by show 3 ≤ 1000000; decide) (T_cps x2 ▸ hq _ _ S)
  · simp at hm; subst hm; exact itemTailT (k := 2) g (by rfl) (by show 3 ≤ 1000000; decide) (T_cps x3 ▸ hq _ _ S)

theorem mod3 (x : Int) : ∃ k : Nat, x.fmod 3 = k ∧ k < 3 := by
  have h1 := Int.fmod_nonneg_of_pos x (b := 3) (by decide)
  have h2 := Int.fmod_lt_of_pos x (b := 3) (by decide)
  exact ⟨(x.fmod 3).toNat, by omega, by omega⟩
def pick3 (ms : List (List Nat)) (x : Int) : List Nat := (ms[(x.fmod 3).toNat]?).getD []
theorem pick3_get {ms : List (List Nat)} (h : ms.length = 3) (x : Int) : ∃ k : Nat, x.fmod 3 = k ∧ ms[k]? = some (pick3 ms x) := by
  obtain ⟨k, hk, hk3⟩ := mod3 x
  refine ⟨k, hk, ?_⟩
  unfold pick3
  rw [hk, Int.toNat_natCast, List.getElem?_eq_getElem (by omega)]; rfl
def flagsP : List Nat := cps "FLAGS ("
def lineOf (ns : List (List Nat)) (x : Int) : List Nat :=
  pick3 headM x ++ flagsP ++ joinL (pick3 gapM (x.fdiv 9)) ns ++ cps ")" ++ pick3 tailM (x.fdiv 3)
theorem len3 (ms : List (List Nat)) (x : Int) (b : Nat) (h : ∀ m ∈ ms, m.length ≤ b) : (pick3 ms x).length ≤ b := by
  unfold pick3
  cases q : ms[(x.fmod 3).toNat]? with
  | none => simp
  | some m => exact h m (List.mem_of_getElem? q)
theorem headM_len (x : Int) : (pick3 headM x).length ≤ 40 := len3 _ _ _ (by decide +kernel)
theorem tailM_len (x : Int) : (pick3 tailM x).length ≤ 40 := len3 _ _ _ (by decide +kernel)
theorem gapM_len (x : Int) : (pick3 gapM x).length ≤ 2 := len3 _ _ _ (by decide +kernel)
theorem flagsP_len : flagsP.length = 7 := by decide +kernel

theorem c_line {names tot : Value} {ns : List (List Nat)} {x : Int} {X : Addr → Prop} (hl : Strs names (ns.map T) X s.heap) (ht : IsInt tot x) (hz1 : (ns.map List.length).sum ≤ 90000) (hz2 : ns.length ≤ 1000)
    (B : Base w s.heap) (hA : Lv n A) (hn : n ≤ 19) (h : Back s (fun v _ => IsStr v (T (lineOf ns x))) Q) :
    wpAny (model prog w) A (call (.ref 114) [names, tot]) Q E s := by
  obtain ⟨t, rfl⟩ := ht
  refine callP [(Str.ofString "names", names), (Str.ofString "total", .int x t)] (d_line _) B hA (by omega) (by rfl) (by rfl) fun s₁ L S hA' => ?_
  refine wpAny_execs_cons (wpAny_Assign_Name (menu3 S fun Γ' s₂ hd S => wpAny_BinOp (rd S rfl (kint S fun s₃ t₃ S => PyProof.Rows.mod_int (by decide) ?_))))
  obtain ⟨k, hk, hm⟩ := pick3_get (ms := headM) rfl x
  rw [hk]
  refine ⟨k, _, _, rfl, S.tk _, hm, fun th s₄ S => sto (hd _ S) fun s₅ S => ?_⟩
  refine wpAny_execs_cons (wpAny_Assign_Name (menu3 S fun Γ' s₂ hd S => wpAny_BinOp (wpAny_BinOp (rd S rfl (kint S fun s₃ t₃ S => PyProof.Rows.floordiv_int (by decide) (kint (S.tk _) fun s₄ t₄ S => PyProof.Rows.mod_int (by decide) ?_) (.inl (PyProof.noPylong_small (by decide))))))))
  obtain ⟨k, hk, hm⟩ := pick3_get (ms := tailM) rfl (x.fdiv 3)
  rw [hk]
  refine ⟨k, _, _, rfl, S.tk _, hm, fun tt s₅ S => sto (hd _ S) fun s₆ S => ?_⟩
  refine wpAny_execs_cons (wpAny_Assign_Name (menu3 S fun Γ' s₂ hd S => wpAny_BinOp (wpAny_BinOp (rd S rfl (kint S fun s₃ t₃ S => PyProof.Rows.floordiv_int (by decide) (kint (S.tk _) fun s₄ t₄ S => PyProof.Rows.mod_int (by decide) ?_) (.inl (PyProof.noPylong_small (by decide))))))))
  obtain ⟨k, hk, hm⟩ := pick3_get (ms := gapM) rfl (x.fdiv 9)
  rw [hk]
  refine ⟨k, _, _, rfl, S.tk _, hm, fun tg s₇ S => sto (hd _ S) fun s₈ S => ?_⟩
  refine wpAny_execs_cons (wpAny_Return_some (wpAny_BinOp (wpAny_BinOp (wpAny_BinOp (wpAny_BinOp (rd S rfl (kstr S fun s₉ t₉ S => ?_)))))))
  have l1 := headM_len x
  have l2 := tailM_len (x.fdiv 3)
  have l3 := gapM_len (x.fdiv 9)
  have l4 := flagsP_len
  rw [T_cps]
  refine addT S (by show (pick3 headM x ++ flagsP).length ≤ _; simp; omega) fun sa ta S => ?_
  refine wpAny_Call_method_lateS rfl rfl rfl (rd S rfl ⟨"str", "str.join", F.plainAttrs_str, F.slot_str_join, F.type_str_join, typeIs_str _ _ _, (fun _ e => nomatch e), ?_⟩)
  refine callWith_method1 (args_cons (rd S rfl (args_nil ?_)))
  have hsum : (ns.map List.length).sum + ns.length * (pick3 gapM (x.fdiv 9)).length ≤ 92000 := by
    have : ns.length * (pick3 gapM (x.fdiv 9)).length ≤ 1000 * 2 := Nat.mul_le_mul hz2 l3
    omega
  have hjl := joinL_length (pick3 gapM (x.fdiv 9)) ns
  refine joinS S (S.old (Strs.fa _ _) hl) (by omega) fun sb tb S => ?_
  refine addT S (by show (pick3 headM x ++ flagsP ++ _).length ≤ _; simp; omega) fun sc tc S => kstr S fun sd td S => ?_
  have lp : (cps ")").length = 1 := by decide +kernel
  rw [T_cps]
  refine addT S (by show (pick3 headM x ++ flagsP ++ _ ++ _).length ≤ _; simp; omega) fun se te S => rd S rfl (addT S (by show (pick3 headM x ++ flagsP ++ _ ++ _ ++ _).length ≤ _; simp; omega) fun sf tf S => ?_)
  exact h _ _ S.sm S.keep ⟨tf, rfl⟩
end
end Mine
end

section
open PySem PySem.W PyProof.Rows PySem.Calls PySem.SeqAt PySem.StrLaws PySem.Builtin PySem.Builtin.Str
set_option Elab.async false
set_option maxRecDepth 100000
set_option linter.unusedVariables false
set_option maxHeartbeats 4000000
namespace Mine
section
variable {r : Bool} {prog : Program} {w : World} {A : Around} {E : Value → Shared → Prop} {s₀ s s' : Shared} {n : Nat} {L : Addr} {C : List (Addr × Held)} {O : List (Addr × List Value)} {loc : List (Str × Value)} {Γ : Pred} {env : Env} {Q : Value → Shared → Prop}

/-- an object that is a dict of these pairs, wherever it stands -/
def Dob (prog : Program) (w : World) (o : Obj) (kvs : List (Str × Value)) : Prop := ∀ (h : Heap) (a : Addr), h.get? a = some o → h.DictOf (strKind prog w) a kvs
theorem dob_of {h : Heap} {a : Addr} {kvs : List (Str × Value)} (x : h.DictOf (strKind prog w) a kvs) : ∃ o, h.get? a = some o ∧ Dob prog w o kvs := by
  obtain ⟨o, es, ep, ho, q⟩ := x
  exact ⟨o, ho, fun h' a' e => ⟨o, es, ep, e, q⟩⟩

theorem c_setitem {d : Addr} {kvs : List (Str × Value)} {k : Str} {kv v : Value} {o : Obj} (hk : IsStr kv k) (ho : s.heap.get? d = some o) (hD : Dob prog w o kvs) (hz : kvs.length ≤ 1000)
    (B : Base w s.heap) (hA : Lv n A) (hn : n ≤ 19) (h : ∀ s' o', Sm s s' → Heap.ExtBut d s.heap s'.heap → s'.heap.get? d = some o' → Dob prog w o' (stored kvs k v) → Q .none s') :
    wpAny (model prog w) A (call (.ref 71) [.ref d, kv, v]) Q E s := by
  obtain ⟨t, rfl⟩ := hk
  refine callP [(Str.ofString "a", .ref d), (Str.ofString "b", .str k t), (Str.ofString "c", v)] (d_setitem _) B hA (by omega) (by rfl) (by rfl) fun s₁ L S hA' => ?_
  refine wpAny_execs_cons (wpAny_Assign_Subscript (rd S rfl (rd S rfl (rd S rfl ?_))))
  refine wpAny_setItem_pairs (strKind_is prog w _ _) (hD _ _ (S.keep _ _ ho)) (fun h' hd hs => wpAny_execs_nil ?_) (by show _ ≤ 16777216; omega)
  obtain ⟨o', ho', hD'⟩ := dob_of hd
  refine h _ o' (S.sm.set h' _) (fun b oo hb e => hs.extBut b oo hb (S.keep b oo e)) ho' hD'
end
end Mine
end

section
open PySem PySem.W PyProof.Rows PySem.Calls PySem.SeqAt PySem.StrLaws PySem.Builtin PySem.Builtin.Str
set_option Elab.async false
set_option maxRecDepth 100000
set_option linter.unusedVariables false
set_option maxHeartbeats 4000000
namespace Mine
section
variable {r : Bool} {prog : Program} {w : World} {A : Around} {E : Value → Shared → Prop} {s₀ s s' : Shared} {n : Nat} {L : Addr} {C : List (Addr × Held)} {O : List (Addr × List Value)} {loc : List (Str × Value)} {Γ : Pred} {env : Env} {Q : Value → Shared → Prop}

theorem tcont (xs : List (List Nat)) (x : List Nat) : (xs.map T).contains (T x) = xs.contains x := by
  induction xs with
  | nil => rfl
  | cons y xs ih =>
    rw [List.map_cons, List.contains_cons, List.contains_cons, ih]
    congr 1
    by_cases h : x = y
    · subst h; simp
    · have : T x ≠ T y := fun e => h (T_inj e)
      rw [beq_eq_false_iff_ne.mpr h, beq_eq_false_iff_ne.mpr this]

theorem inE {ea eb : Expr} {p pos : Pos} (hA : Lv n A) (hn : n ≤ 19) (B : Base w s.heap)
    (h : wpAny (model prog w) A (eval ea env) (fun va s₁ => wpAny (model prog w) A (eval eb env) (fun vb s₂ => Base w s₂.heap ∧ ∃ (X : Addr → Prop) (xs : List (List Nat)) (x : List Nat), Strs va (xs.map T) X s₂.heap ∧ IsStr vb (T x) ∧ Back s₂ (fun v _ => v = .bool (xs.contains x)) Q) E s₁) E s)
    (he1 : starEach [ea, eb] env = (false, eval ea env) :: starEach [eb] env := by rfl) (he2 : starEach [eb] env = [(false, eval eb env)] := by rfl)
    (hg : env.globals = mainGlobals := by rfl) (hk : env.scope.kind = .function := by rfl) (hx : env.kindOf (Str.ofString "contains") = some .globalImplicit := by rfl) :
    wpAny (model prog w) A (eval (.Call (.Name (Str.ofString "contains") p) [ea, eb] [] pos) env) Q E s := by
  refine Call_ (nm_gcontains B (callD (d_contains _) (args_cons (wpAny_mono h (fun va s₁ h₁ => args_cons (wpAny_mono h₁ (fun vb s₂ h₂ => args_nil ⟨h₂.1, ?_⟩) fun _ _ e => e) (by rw [he2]; rfl)) fun _ _ e => e) he1) he1) hg hk hx)
  obtain ⟨B₂, X, xs, x, h1, h2, h3⟩ := h₂
  refine c_inS B₂ hA hn h1 h2 ?_
  rw [tcont]; exact h3

theorem notE {ea : Expr} {p pos : Pos} (hA : Lv n A) (hn : n ≤ 19) (B : Base w s.heap)
    (h : wpAny (model prog w) A (eval ea env) (fun va s₁ => Base w s₁.heap ∧ ∃ b, va = .bool b ∧ Back s₁ (fun v _ => v = .bool (!b)) Q) E s)
    (he1 : starEach [ea] env = [(false, eval ea env)] := by rfl)
    (hg : env.globals = mainGlobals := by rfl) (hk : env.scope.kind = .function := by rfl) (hx : env.kindOf (Str.ofString "not_") = some .globalImplicit := by rfl) :
    wpAny (model prog w) A (eval (.Call (.Name (Str.ofString "not_") p) [ea] [] pos) env) Q E s := by
  refine Call_ (nm_gnot_ B (callD (d_not _) (args_cons (wpAny_mono h (fun va s₁ h₁ => args_nil ⟨h₁.1, ?_⟩) fun _ _ e => e) (by rw [he1]; rfl)) (by rw [he1]; rfl)) hg hk hx)
  obtain ⟨B₁, b, rfl, h2⟩ := h₁
  exact c_not B₁ hA hn h2

/-- not_(contains(a, x)) -/
theorem notIn {ea eb : Expr} {p p' pos pos' : Pos} (hA : Lv n A) (hn : n ≤ 19) (B : Base w s.heap)
    (h : wpAny (model prog w) A (eval ea env) (fun va s₁ => wpAny (model prog w) A (eval eb env) (fun vb s₂ => Base w s₂.heap ∧ ∃ (X : Addr → Prop) (xs : List (List Nat)) (x : List Nat), Strs va (xs.map T) X s₂.heap ∧ IsStr vb (T x) ∧ Back s₂ (fun v _ => v = .bool (!xs.contains x)) Q) E s₁) E s)
    (he1 : starEach [ea, eb] env = (false, eval ea env) :: starEach [eb] env := by rfl) (he2 : starEach [eb] env = [(false, eval eb env)] := by rfl)
    (hg : env.globals = mainGlobals := by rfl) (hk : env.scope.kind = .function := by rfl) (hx : env.kindOf (Str.ofString "contains") = some .globalImplicit := by rfl) (hx' : env.kindOf (Str.ofString "not_") = some .globalImplicit := by rfl) :
    wpAny (model prog w) A (eval (.Call (.Name (Str.ofString "not_") p) [.Call (.Name (Str.ofString "contains") p') [ea, eb] [] pos'] [] pos) env) Q E s := by
  refine notE hA hn B (inE hA hn B (wpAny_mono h (fun va s₁ h₁ => wpAny_mono h₁ (fun vb s₂ h₂ => ?_) fun _ _ e => e) fun _ _ e => e) he1 he2 hg hk hx) (by rfl) hg hk hx'
  obtain ⟨B₂, X, xs, x, h1, h2, h3⟩ := h₂
  exact ⟨B₂, X, xs, x, h1, h2, fun v s₃ sm ex e => ⟨B₂.ext ex, _, e, fun v' s₄ sm' ex' e' => h3 v' s₄ (sm.trans sm') (ex.trans ex') e'⟩⟩

/-- a list of the frame's own is given up: a fact remains -/
theorem St.disown {D : Addr} {vs : List Value} (S : St r w s₀ L C ((D, vs) :: O) loc Γ s) : St r w s₀ L C O loc (fun X h => Lst (.ref D) vs X h ∧ Γ X h) s := by
  have nd := S.ond
  rw [List.map_cons, List.nodup_cons] at nd
  exact { S with
    apO := fun p hp hm => S.apO p hp (.tail _ hm)
    own := fun p hp => S.own p (.tail _ hp)
    ond := nd.2
    newO := fun p hp => S.newO p (.tail _ hp)
    fa := (Lst.fa _ _).and S.fa
    g := ⟨⟨D, rfl, fun hm => (List.mem_append.mp hm).elim (fun hm => by
        obtain ⟨p, hp, e⟩ := List.mem_map.mp hm
        exact S.apO p hp (e ▸ List.mem_cons_self ..)) nd.1, (S.own _ (.head _)).isList⟩,
      S.fa.grow _ _ _ (fun b hb => .inl ((List.mem_append.mp hb).elim (fun q => List.mem_append_left _ q) fun q => List.mem_append_right _ (.tail _ q))) S.g⟩ }
theorem St.give {D : Addr} {vs : List Value} (S : St r w s₀ L C ((D, vs) :: O) loc Γ s) : St r w s₀ L C O loc Γ s :=
  S.disown.drop S.fa fun _ _ g => g.2
end
end Mine
end

section
open PySem PySem.W PyProof.Rows PySem.Calls PySem.SeqAt PySem.StrLaws PySem.Builtin PySem.Builtin.Str
set_option Elab.async false
set_option maxRecDepth 100000
set_option linter.unusedVariables false
set_option maxHeartbeats 4000000
namespace Mine
def innerStep (du : List (List Nat) × List (List Nat)) (c : List (List Nat)) : List (List Nat) × List (List Nat) :=
  if du.2.contains (c.headD []) then du else (du.1 ++ [c.headD []], du.2 ++ [((c ++ [[]])[1]?).getD []])
def darkUnder (left : RW) : List (List Nat) × List (List Nat) := left.reverse.foldl innerStep ([], [])
def spotStep (power wt : Int) (sp : List Nat) : Int := if sp = [] then Builtin.bitXor wt power else wt
def cutLeft (dark : List (List Nat)) (left : RW) : RW := (left.filter fun c => !dark.contains (c.headD [])).map fun c => c.filter fun x => !dark.contains x
def stage (st : RW × Int × Int) : RW × Int × Int := (cutLeft (darkUnder st.1).1 st.1, (darkUnder st.1).2.foldl (spotStep st.2.2) st.2.1, st.2.2 + st.2.2)
def stages : Nat → RW × Int × Int → RW × Int × Int
  | 0, st => st
  | k + 1, st => stage (stages k st)
def worthOf (cs : RW) : Int := (stages cs.length (cs, 0, 1)).2.1
section
variable {r : Bool} {prog : Program} {w : World} {A : Around} {E : Value → Shared → Prop} {s₀ s s' : Shared} {n : Nat} {L : Addr} {C : List (Addr × Held)} {O : List (Addr × List Value)} {loc : List (Str × Value)} {Γ : Pred} {env : Env} {Q : Value → Shared → Prop}

abbrev wStage : List Stmt := match ((bodyAt 19).drop 3).head? with | some (.For _ _ b _ _) => b | _ => []
abbrev wFor1 : List Stmt := match (wStage.drop 2).head? with | some (.For _ _ b _ _) => b | _ => []
abbrev wFor2 : List Stmt := match (wStage.drop 3).head? with | some (.For _ _ b _ _) => b | _ => []
abbrev wLoc (lv : Value) (wt pw : Int) (tw tp : Tok) : List (Str × Value) := [(Str.ofString "left", lv), (Str.ofString "worth", .int wt tw), (Str.ofString "power", .int pw tp)]

theorem w_turn1 {v lv : Value} {x : List Nat} {tl ds us : List (List Nat)} {vd vu : List Value} {Dd Du : Addr} {wt pw : Int} {tw tp : Tok} {Q : Flow → Shared → Prop} (hA : Lv n A) (hn : n ≤ 19) (hz : tl.length ≤ 1000) (hd : vd.length ≤ 1000) (hu : vu.length ≤ 1000)
    (S : St true w s₀ L ((L + 1, .cell (some (.ref Dd))) :: C) [(Du, vu), (Dd, vd)] ((Str.ofString "chain", v) :: (Str.ofString "under", .ref Du) :: wLoc lv wt pw tw tp) Γ s)
    (hv : ∀ X h, Γ X h → Strs v ((x :: tl).map T) X h)
    (pd : All cS vd (ds.map T) (fun _ => False) s.heap) (pu : All cS vu (us.map T) (fun _ => False) s.heap)
    (h : ∀ vd' vu' s', vd'.length ≤ vd.length + 1 → vu'.length ≤ vu.length + 1 → All cS vd' ((innerStep (ds, us) (x :: tl)).1.map T) (fun _ => False) s.heap → All cS vu' ((innerStep (ds, us) (x :: tl)).2.map T) (fun _ => False) s.heap →
      St true w s₀ L ((L + 1, .cell (some (.ref Dd))) :: C) [(Du, vu'), (Dd, vd')] ((Str.ofString "under", .ref Du) :: wLoc lv wt pw tw tp) Γ s' → Q .next s') :
    wpAny (model prog w) A (execs wFor1 (envC 19 124 123 L)) Q E s := by
  have S₀ := S
  refine wpAny_execs_cons (wpAny_If (isTrue_plain (notIn hA hn S.b (rd S rfl (Subscript_ (rd S rfl (wpAny_Constant_int ?_)))))))
  have S := S.tk (s.toks + 1)
  obtain ⟨us0, hul, hua⟩ := hv _ _ S.g
  have husz : us0.length = (x :: tl).length := by have := paired_len hua; simpa using this
  obtain ⟨u0, hu0, t₈, rfl⟩ := All.at (i := 0) hua (show ((x :: tl).map T)[0]? = some (T x) by rfl)
  refine itemTail (k := 0) hul hu0 (by rw [husz]; simp; omega) ⟨S.b, fun _ => False, us, x, ⟨vu, S.owned (.head _), pu⟩, ⟨t₈, rfl⟩, fun b s₁ sm ex e => ?_⟩
  subst e
  refine wpAny_truthy_bool ?_
  have S := S.ext sm ex
  by_cases hc : us.contains x = true
  · rw [hc]
    refine wpAny_execs_nil (wpAny_execs_nil (h vd vu _ (by omega) (by omega) ?_ ?_ (S.only _ ⟨rfl, rfl, rfl, rfl, trivial⟩)))
    · unfold innerStep; rw [if_pos (by exact hc)]; exact pd
    · unfold innerStep; rw [if_pos (by exact hc)]; exact pu
  · have hc' : us.contains x = false := by simpa using hc
    rw [hc']
    refine appendStmt (rdC S (.head _) ⟨Dd, vd.toArray, rfl, S.own _ (.tail _ (.head _)), Subscript_ (rd S rfl (wpAny_Constant_int ?_))⟩ (by rfl))
    have S := S.tk (s₁.toks + 1)
    obtain ⟨us1, hul, hua⟩ := hv _ _ S.g
    have husz : us1.length = (x :: tl).length := by have := paired_len hua; simpa using this
    obtain ⟨u1, hu1, t₉, rfl⟩ := All.at (i := 0) hua (show ((x :: tl).map T)[0]? = some (T x) by rfl)
    refine itemTail (k := 0) hul hu1 (by rw [husz]; simp; omega) (app2 S (by omega) fun s₂ S => ?_)
    refine appendStmt (rd S rfl ⟨Du, vu.toArray, rfl, S.own _ (.head _), Subscript_ (wpAny_BinOp (rd S rfl (listE (args_cons (kstr S fun s₃ t₃ S => args_nil ⟨by show 1 ≤ 1000000; decide, fun va sa sm ex hva => ?_⟩)))))⟩)
    have Sb := S
    have S := S.ext sm ex
    have S := S.add ((Lst.fa va _).fz _) (Sb.fresh (Lst.fa _ _) hva)
    obtain ⟨us2, hul, hua⟩ := hv _ _ S.g.2
    have husz : us2.length = (x :: tl).length := by have := paired_len hua; simpa using this
    have g1 := Fz.out (Lst.fa _ _) S.g.1
    refine addL hul g1 (by rw [husz]; simp; omega) fun vb sb sm ex hvb => ?_
    have Sb := S
    have S := S.ext sm ex
    have S := S.add ((Lst.fa vb _).fz _) (Sb.fresh (Lst.fa _ _) hvb)
    refine wpAny_Constant_int ?_
    have S := S.tk (sb.toks + 1)
    have g2 := Fz.out (Lst.fa _ _) S.g.1
    have pc : All cS (us2 ++ [Value.str (Str.ofString "") t₃]) (((x :: tl) ++ [[]]).map T) (fun _ => False) s.heap := by
      rw [List.map_append]
      exact All.app (show All cS us2 _ _ _ from hua) (.cons ⟨t₃, by rw [lit0]⟩ .nil)
    obtain ⟨sec, hsec⟩ : ∃ sec, ((x :: tl) ++ [[]])[1]? = some sec := by
      cases tl with
      | nil => exact ⟨_, rfl⟩
      | cons y r => exact ⟨_, rfl⟩
    obtain ⟨vx, hvx, hx⟩ := All.at (i := 1) pc (show (((x :: tl) ++ [[]]).map T)[1]? = some (T sec) by rw [List.getElem?_map, hsec]; rfl)
    refine itemTail (k := 1) g2 hvx (by simp [husz]; omega) (app1 S (by omega) fun s₅ S => ?_)
    have S := S.drop Sb.fa (fun _ _ g => ⟨g.2.1, g.2.2⟩)
    have S := S.drop (Γ' := Γ) S₀.fa (fun _ _ g => g.2)
    refine wpAny_execs_nil (wpAny_execs_nil (h _ _ _ ?_ ?_ ?_ ?_ (S.only _ ⟨rfl, rfl, rfl, rfl, trivial⟩)))
    · simp
    · simp
    · unfold innerStep
      rw [if_neg (by simpa using hc)]
      rw [List.map_append]
      exact All.app pd (.cons ⟨_, rfl⟩ .nil)
    · unfold innerStep
      rw [if_neg (by simpa using hc)]
      simp only
      rw [List.map_append, hsec]
      exact All.app pu (.cons hx .nil)
end
end Mine
end

section
open PySem PySem.W PyProof.Rows PySem.Calls PySem.SeqAt PySem.StrLaws PySem.Builtin PySem.Builtin.Str
set_option Elab.async false
set_option maxRecDepth 100000
set_option linter.unusedVariables false
set_option maxHeartbeats 4000000
namespace Mine
section
variable {r : Bool} {prog : Program} {w : World} {A : Around} {E : Value → Shared → Prop} {s₀ s s' : Shared} {n : Nat} {L : Addr} {C : List (Addr × Held)} {O : List (Addr × List Value)} {loc : List (Str × Value)} {Γ : Pred} {env : Env} {Q : Value → Shared → Prop}

/-- the rows of a list, its values named -/
def Rv (v : Value) (vs : List Value) (left : RW) : Pred := fun X h => Lst v vs X h ∧ All Strs vs (tR left) X h
theorem Rv.fa (v : Value) (vs : List Value) (left : RW) : Fa (Rv v vs left) := (Lst.fa _ _).and (All.fa Strs.fa _ _)
/-- rows fit for the walk -/
structure Fit (left : RW) : Prop where
  few : left.length ≤ 900
  ne : ∀ c ∈ left, c ≠ []
  len : ∀ c ∈ left, c.length ≤ 1000

theorem inner_snoc {l : RW} {i : Nat} {c : List (List Nat)} (h : l[i]? = some c) : (l.take (i + 1)).foldl innerStep ([], []) = innerStep ((l.take i).foldl innerStep ([], [])) c := by
  rw [List.take_add_one, h]; simp

theorem w_for1 {lv : Value} {vs : List Value} {left : RW} {Dd Du : Addr} {wt pw : Int} {tw tp : Tok} {Q : Flow → Shared → Prop} (hA : Lv n A) (hn : n ≤ 19) (hf : Fit left)
    (S : St true w s₀ L ((L + 1, .cell (some (.ref Dd))) :: C) [(Du, []), (Dd, [])] ((Str.ofString "under", .ref Du) :: wLoc lv wt pw tw tp) (Rv lv vs left) s)
    (h : ∀ vd vu s', vd.length ≤ 1000 → vu.length ≤ 1000 → (∀ X h, All cS vd ((darkUnder left).1.map T) X h) → (∀ X h, All cS vu ((darkUnder left).2.map T) X h) →
      St true w s₀ L ((L + 1, .cell (some (.ref Dd))) :: C) [(Du, vu), (Dd, vd)] ((Str.ofString "under", .ref Du) :: wLoc lv wt pw tw tp) (Rv lv vs left) s' → wpAny (model prog w) A (execs (wStage.drop 3) (envC 19 124 123 L)) Q E s') :
    wpAny (model prog w) A (execs (wStage.drop 2) (envC 19 124 123 L)) Q E s := by
  have hvl : vs.length = left.length := by have := paired_len S.g.2; simpa [tR] using this
  have hfew := hf.few
  refine wpAny_execs_cons (forV (s₀ := s₀) (fun i C' O' loc' Γ' => ∃ vd vu, C' = (L + 1, .cell (some (.ref Dd))) :: C ∧ O' = [(Du, vu), (Dd, vd)] ∧ loc' = (Str.ofString "under", .ref Du) :: wLoc lv wt pw tw tp ∧ Γ' = Rv lv vs left ∧ vd.length ≤ i ∧ vu.length ≤ i ∧
    (∀ X h, All cS vd (((left.reverse.take i).foldl innerStep ([], [])).1.map T) X h) ∧ (∀ X h, All cS vu (((left.reverse.take i).foldl innerStep ([], [])).2.map T) X h)) ?_)
  refine Subscript_ (rd S rfl (wpAny_Slice (partN (partN (partS (wpAny_UnaryOp ?_))))))
  refine kint S fun s₁ t₁ S => P.neg_int ?_
  have S := S.tk (s₁.toks + 1)
  refine cutTail (s := { s₁ with toks := s₁.toks + 1 }) (ws := vs.reverse) S.g.1 .none .none (.int (-1) _) (by decide) (pickRev vs) (by omega) fun v s₂ sm ex hv => ?_
  have Sb := S
  have S := S.ext sm ex
  refine ⟨vs.length, (fun i u => vs.reverse[i]? = some u), _, _, _, _, S, ⟨[], [], rfl, rfl, rfl, rfl, Nat.le_refl _, Nat.le_refl _, fun _ _ => .nil, fun _ _ => .nil⟩, ?_, ?_, ?_⟩
  · have := feedList (prog := prog) (w := w) (A := A) hA.hd (Fz.out (Lst.fa _ _) (Sb.fresh (Lst.fa _ _) hv))
    rw [List.length_reverse] at this
    exact this
  · rintro pn i u _ _ _ _ s₀' s₅ E' hi hP ⟨vd, vu, rfl, rfl, rfl, rfl, hd, hu, pd, pu⟩ e0 S
    have pr := All.rev S.g.2
    obtain ⟨rr, hrr, hst⟩ := All.get pr hP
    have hrr' : (left.reverse.map (·.map T))[i]? = some rr := by rw [List.map_reverse]; exact hrr
    rw [List.getElem?_map, Option.map_eq_some_iff] at hrr'
    obtain ⟨row, hrow, rfl⟩ := hrr'
    have hmem : row ∈ left := List.mem_reverse.mp (List.mem_of_getElem? hrow)
    have hi' : i < vs.length := hi
    obtain ⟨x, tl, rfl⟩ : ∃ x tl, row = x :: tl := by
      cases row with
      | nil => exact absurd rfl (hf.ne _ hmem)
      | cons x tl => exact ⟨x, tl, rfl⟩
    have hlen := hf.len _ hmem
    refine PySem.wpAny_assign_Name (sto S fun s₆ S => ?_)
    refine w_turn1 (x := x) (tl := tl) (ds := ((left.reverse.take i).foldl innerStep ([], [])).1) (us := ((left.reverse.take i).foldl innerStep ([], [])).2) hA hn (by simp at hlen; omega) (by omega) (by omega) S (fun X h g => ?_) (pd _ _) (pu _ _) fun vd' vu' s₇ h1 h2 p1 p2 S => ?_
    · have := All.rev g.2
      obtain ⟨rr, e1, e2⟩ := All.get this hP
      rw [hrr] at e1
      cases e1; exact e2
    · refine ⟨.inl rfl, (L + 1, .cell (some (.ref Dd))) :: C, _, _, _, S, vd', vu', rfl, rfl, rfl, rfl, by omega, by omega, fun X h => ?_, fun X h => ?_⟩
      · rw [inner_snoc hrow]; exact p1
      · rw [inner_snoc hrow]; exact p2
  · rintro _ _ _ _ s₅ ⟨vd, vu, rfl, rfl, rfl, rfl, hd, hu, pd, pu⟩ S
    rw [List.take_of_length_le (by simp; omega)] at pd pu
    exact h vd vu s₅ (by omega) (by omega) pd pu S
end
end Mine
end

section
open PySem PySem.W PyProof.Rows PySem.Calls PySem.SeqAt PySem.StrLaws PySem.Builtin PySem.Builtin.Str
set_option Elab.async false
set_option maxRecDepth 100000
set_option linter.unusedVariables false
set_option maxHeartbeats 4000000
namespace Mine
section
variable {r : Bool} {prog : Program} {w : World} {A : Around} {E : Value → Shared → Prop} {s₀ s s' : Shared} {n : Nat} {L : Addr} {C : List (Addr × Held)} {O : List (Addr × List Value)} {loc : List (Str × Value)} {Γ : Pred} {env : Env} {Q : Value → Shared → Prop}

theorem spot_snoc {l : List (List Nat)} {pw wt : Int} {i : Nat} {c : List Nat} (h : l[i]? = some c) : (l.take (i + 1)).foldl (spotStep pw) wt = spotStep pw ((l.take i).foldl (spotStep pw) wt) c := by
  rw [List.take_add_one, h]; simp

theorem w_for2 {lv : Value} {vd vu : List Value} {us : List (List Nat)} {Dd Du : Addr} {wt pw : Int} {tw tp : Tok} {Q : Flow → Shared → Prop} (hA : Lv n A) (hn : n ≤ 19) (hu : vu.length ≤ 1000) (pu : ∀ X h, All cS vu (us.map T) X h)
    (S : St true w s₀ L C [(Du, vu), (Dd, vd)] ((Str.ofString "under", .ref Du) :: wLoc lv wt pw tw tp) Γ s)
    (h : ∀ t s', St true w s₀ L C [(Dd, vd)] (wLoc lv (us.foldl (spotStep pw) wt) pw t tp) Γ s' → wpAny (model prog w) A (execs (wStage.drop 4) (envC 19 124 123 L)) Q E s') :
    wpAny (model prog w) A (execs (wStage.drop 3) (envC 19 124 123 L)) Q E s := by
  have hul : vu.length = us.length := by have := paired_len (pu (fun _ => False) s.heap); simpa using this
  have fa := S.fa
  have S := S.disown
  refine wpAny_execs_cons (forV (s₀ := s₀) (fun i C' O' loc' Γ' => ∃ t, C' = C ∧ O' = [(Dd, vd)] ∧ loc' = wLoc lv ((us.take i).foldl (spotStep pw) wt) pw t tp ∧ Γ' = fun X h => Lst (.ref Du) vu X h ∧ Γ X h) ?_)
  refine rd S rfl ⟨vu.length, (fun i u => vu[i]? = some u), _, _, _, _, S.only (wLoc lv wt pw tw tp) ⟨rfl, rfl, rfl, trivial⟩, ⟨tw, rfl, rfl, rfl, rfl⟩, feedList hA.hd S.g.1, ?_, ?_⟩
  · rintro pn i u _ _ _ _ s₀' s₅ E' hi hP ⟨t, rfl, rfl, rfl, rfl⟩ e0 S
    obtain ⟨cs, hcs, tc, rfl⟩ := All.get (pu (fun _ => False) s.heap) hP
    rw [List.getElem?_map, Option.map_eq_some_iff] at hcs
    obtain ⟨c, hc, rfl⟩ := hcs
    refine PySem.wpAny_assign_Name (sto S fun s₆ S => ?_)
    refine wpAny_execs_cons (wpAny_If (wpAny_isTrue_Compare1 (rd S rfl (kstr S fun s₇ t₇ S => ?_)) (by rfl)))
    rw [lit0]
    refine eqT (wpAny_truthy_bool ?_)
    by_cases q : c = []
    · rw [decide_eq_true q]
      refine wpAny_execs_cons (wpAny_Assign_Name (Call_ (nm_gixor S.b (callD (d_ixor _) (args_cons (rd S rfl (args_cons (rd S rfl (args_nil ⟨S.b, ?_⟩)))))))))
      refine c_ixor S.b hA hn ⟨_, rfl⟩ ⟨_, rfl⟩ fun v s₈ sm ex hv => ?_
      obtain ⟨t₈, rfl⟩ := hv
      refine sto (S.ext sm ex) fun s₉ S => wpAny_execs_nil (wpAny_execs_nil ?_)
      refine ⟨.inl rfl, _, _, _, _, S.only (wLoc lv ((us.take (i + 1)).foldl (spotStep pw) wt) pw t₈ tp) ?_, t₈, rfl, rfl, rfl, rfl⟩
      rw [spot_snoc hc]
      unfold spotStep
      rw [if_pos q]
      exact ⟨rfl, rfl, rfl, trivial⟩
    · rw [decide_eq_false q]
      refine wpAny_execs_nil (wpAny_execs_nil ?_)
      refine ⟨.inl rfl, _, _, _, _, S.only (wLoc lv ((us.take (i + 1)).foldl (spotStep pw) wt) pw t tp) ?_, t, rfl, rfl, rfl, rfl⟩
      rw [spot_snoc hc]
      unfold spotStep
      rw [if_neg q]
      exact ⟨rfl, rfl, rfl, trivial⟩
  · rintro _ _ _ _ s₅ ⟨t, rfl, rfl, rfl, rfl⟩ S
    rw [hul, List.take_of_length_le (Nat.le_refl _)] at S
    exact h t s₅ (S.drop fa fun _ _ g => g.2)

theorem w_power {lv : Value} {wt pw : Int} {tw tp : Tok} {Q : Flow → Shared → Prop} (hA : Lv n A) (hn : n ≤ 19)
    (S : St true w s₀ L C O (wLoc lv wt pw tw tp) Γ s)
    (h : ∀ t s', St true w s₀ L C O (wLoc lv wt (pw + pw) tw t) Γ s' → wpAny (model prog w) A (execs (wStage.drop 5) (envC 19 124 123 L)) Q E s') :
    wpAny (model prog w) A (execs (wStage.drop 4) (envC 19 124 123 L)) Q E s := by
  refine wpAny_execs_cons (wpAny_Assign_Name (Call_ (nm_giadd S.b (callD (d_iadd _) (args_cons (rd S rfl (args_cons (rd S rfl (args_nil ⟨S.b, ?_⟩)))))))))
  refine c_iadd S.b hA hn ⟨_, rfl⟩ ⟨_, rfl⟩ fun v s₈ sm ex hv => ?_
  obtain ⟨t₈, rfl⟩ := hv
  exact sto (S.ext sm ex) fun s₉ S => h t₈ s₉ (S.only _ ⟨rfl, rfl, rfl, trivial⟩)
end
end Mine
end

section
open PySem PySem.W PyProof.Rows PySem.Calls PySem.SeqAt PySem.StrLaws PySem.Builtin PySem.Builtin.Str
set_option Elab.async false
set_option maxRecDepth 100000
set_option linter.unusedVariables false
set_option maxHeartbeats 4000000
namespace Mine
/-- the text at the head of a list -/
def headOf (h : Heap) : Value → Str
  | .ref a => match h.get? a with
    | some o => match o.data with
      | .seq xs _ => match xs[0]? with | some (Value.str x _) => x | _ => Str.empty
      | _ => Str.empty
    | none => Str.empty
  | _ => Str.empty
def textIn : Value → Str
  | .str x _ => x
  | _ => Str.empty
theorem headOf_strs {X : Addr → Prop} {h : Heap} {v : Value} {x : Str} {tl : List Str} (p : Strs v (x :: tl) X h) : headOf h v = x := by
  obtain ⟨vs, ⟨a, rfl, _, o, ho, _, n, hd⟩, pa⟩ := p
  cases pa with
  | cons q _ =>
    obtain ⟨t, rfl⟩ := q
    show (match h.get? a with | some o => _ | none => _) = x
    rw [ho]
    show (match o.data with | .seq xs _ => _ | _ => _) = x
    rw [hd]
    simp
theorem All.filt {α : Type} {R : Value → α → Pred} {X : Addr → Prop} {h : Heap} {p : Value → Bool} {q : α → Bool} : ∀ {vs : List Value} {xs : List α}, All R vs xs X h → (∀ v x, v ∈ vs → x ∈ xs → R v x X h → p v = q x) → All R (vs.filter p) (xs.filter q) X h
  | _, _, .nil, _ => .nil
  | v :: vs, x :: xs, .cons hx pr, hq => by
    have e := hq v x (.head _) (.head _) hx
    have ih := All.filt pr fun v x hv hx => hq v x (.tail _ hv) (.tail _ hx)
    rw [List.filter_cons, List.filter_cons, e]
    split
    · exact .cons hx ih
    · exact ih
theorem paired_comp {α : Type} {F : Value → Value → Prop} {R : Value → α → Prop} {β : Type} {R' : Value → β → Prop} {f : α → β} (q : ∀ a y r, F a y → R a r → R' y (f r)) : ∀ {as ys : List Value} {rows : List α}, Paired F as ys → Paired R as rows → Paired R' ys (rows.map f)
  | _, _, _, .nil, .nil => .nil
  | _, _, _, .cons h p, .cons h' p' => .cons (q _ _ _ h h') (paired_comp q p p')
theorem same_of_get {us vs : List Value} (hl : us.length = vs.length) (h : ∀ (j : Nat) (v : Value), us[j]? = some v → vs[j]? = some v) : us = vs := by
  refine List.ext_getElem? fun i => ?_
  by_cases hi : i < us.length
  · have e : us[i]? = some us[i] := List.getElem?_eq_getElem hi
    rw [e, h i _ e]
  · rw [List.getElem?_eq_none (by omega), List.getElem?_eq_none (by omega)]
theorem paired_eq : ∀ {us ys : List Value}, Paired (fun u y => y = u) us ys → ys = us
  | _, _, .nil => rfl
  | _, _, .cons h p => by rw [h, paired_eq p]
theorem filt_map (ds : List (List Nat)) : ∀ c : List (List Nat), (c.filter fun x => !ds.contains x).map T = (c.map T).filter fun z => !(ds.map T).contains z
  | [] => rfl
  | x :: c => by
    have ih := filt_map ds c
    rw [List.map_cons, List.filter_cons, List.filter_cons, tcont]
    split
    · rw [List.map_cons, ih]
    · exact ih
theorem filt_same {α : Type} {p q : α → Bool} : ∀ {l : List α}, (∀ x ∈ l, p x = q x) → l.filter p = l.filter q
  | [], _ => rfl
  | x :: l, h => by rw [List.filter_cons, List.filter_cons, h x (.head _), filt_same fun y hy => h y (.tail _ hy)]
section
variable {r : Bool} {prog : Program} {w : World} {A : Around} {E : Value → Shared → Prop} {s₀ s s' : Shared} {n : Nat} {L : Addr} {C : List (Addr × Held)} {O : List (Addr × List Value)} {loc : List (Str × Value)} {Γ : Pred} {env : Env} {Q : Value → Shared → Prop}

theorem test1 {c : Expr} {Q : Bool → Shared → Prop} (h : wpAny (model prog w) A (isTrue c env (eval c env)) Q E s) : wpAny (model prog w) A (testsOf env [c]) Q E s := by
  unfold testsOf
  rw [List.forIn_cons]
  refine wpAny_bind ?_
  rw [if_pos rfl]
  refine wpAny_bind (wpAny_mono h (fun ok s' q => wpAny_pure ?_) fun _ _ e => e)
  show wpAny _ _ (forIn [] ok _) _ _ _
  rw [List.forIn_nil]
  exact wpAny_pure q
theorem lookStr (ds : List (List Nat)) (x : List Nat) : (!(ds.map T).contains (T x)) = !ds.contains x := by rw [tcont]

theorem w_cut {lv : Value} {vs vd : List Value} {left : RW} {ds : List (List Nat)} {Dd : Addr} {wt pw : Int} {tw tp : Tok} {Q : Flow → Shared → Prop} (hA : Lv n A) (hn : n ≤ 19) (hf : Fit left) (pd : ∀ X h, All cS vd (ds.map T) X h)
    (S : St true w s₀ L ((L + 1, .cell (some (.ref Dd))) :: C) [(Dd, vd)] (wLoc lv wt pw tw tp) (Rv lv vs left) s)
    (h : ∀ lv' vs' s', St true w s₀ L ((L + 1, .cell (some (.ref Dd))) :: C) [(Dd, vd)] (wLoc lv' wt pw tw tp) (Rv lv' vs' (cutLeft ds left)) s' → Q .next s') :
    wpAny (model prog w) A (execs (wStage.drop 5) (envC 19 124 123 L)) Q E s := by
  have hvl : vs.length = left.length := by have := paired_len S.g.2; simpa [tR] using this
  have hfew := hf.few
  have hc1 : s.heap.IsCell (L + 1) (some (.ref Dd)) := S.cells _ (.head _)
  have hown := S.owned (D := Dd) (vs := vd) (.head _)
  refine wpAny_execs_cons (asgO (s₀ := s₀) (C := (L + 1, .cell (some (.ref Dd))) :: C) (O := [(Dd, vd)]) (loc := wLoc lv wt pw tw tp) (Γ := Rv lv vs left) (cl := [(Str.ofString "dark", L + 1)])
    (fun v => !(ds.map T).contains (headOf s.heap v)) (fun v its => ∃ row : List (List Nat), Strs v (row.map T) (fun _ => False) s.heap ∧ (∀ X h, All cS its.toList ((row.filter fun x => !ds.contains x).map T) X h))
    (by rfl) (by rfl) (by decide) (by rfl) (by decide) (by decide) (by rfl) (by rfl) ?_)
  refine rd S rfl ⟨_, _, S, srcList hA.hd S.g.1, by show _ ≤ 16777216; omega, ?_, ?_, ?_⟩
  · intro C' i v s₃ E' hP ex T₃
    obtain ⟨rr, hrr, hst⟩ := All.get S.g.2 hP
    unfold tR at hrr
    rw [List.getElem?_map, Option.map_eq_some_iff] at hrr
    obtain ⟨row, hrow, rfl⟩ := hrr
    have hmem := List.mem_of_getElem? hrow
    obtain ⟨x, tl, rfl⟩ : ∃ x tl, row = x :: tl := by
      cases row with
      | nil => exact absurd rfl (hf.ne _ hmem)
      | cons x tl => exact ⟨x, tl, rfl⟩
    have hlen := hf.len _ hmem
    have eh : headOf s.heap v = T x := headOf_strs (tl := tl.map T) hst
    refine test1 (isTrue_plain (notIn hA hn T₃.b (rdK (hc1.keeps ex) (Subscript_ (rd T₃ rfl (wpAny_Constant_int ?_))) (by rfl))))
    have T₄ := T₃.tk (s₃.toks + 1)
    have hst₃ := (Strs.fa _ _).ext ex hst
    obtain ⟨us0, hul, hua⟩ := hst₃
    have husz : us0.length = (x :: tl).length := by have := paired_len hua; simpa using this
    obtain ⟨u0, hu0, t₈, rfl⟩ := All.at (i := 0) hua (show ((x :: tl).map T)[0]? = some (T x) by rfl)
    refine itemTail (k := 0) (s := { s₃ with toks := s₃.toks + 1 }) hul hu0 (by rw [husz]; omega) ⟨T₄.b, fun _ => False, ds, x, ⟨vd, (Lst.fa _ _).ext ex hown, pd _ _⟩, ⟨t₈, rfl⟩, fun b s₅ sm ex' e => ?_⟩
    subst e
    refine wpAny_truthy_bool ⟨?_, T₄.sm.trans sm, ex'⟩
    rw [eh, tcont]
  · intro C' i v s₃ E' hP hp ex T₃
    obtain ⟨rr, hrr, hst⟩ := All.get S.g.2 hP
    unfold tR at hrr
    rw [List.getElem?_map, Option.map_eq_some_iff] at hrr
    obtain ⟨row, hrow, rfl⟩ := hrr
    have hmem := List.mem_of_getElem? hrow
    have hlen := hf.len _ hmem
    have hst₃ := (Strs.fa _ _).ext ex hst
    obtain ⟨ws, hwl, hwa⟩ := hst₃
    have hwsz : ws.length = row.length := by have := paired_len hwa; simpa using this
    refine compV (fun u => !(ds.map T).contains (textIn u)) (fun u y => y = u) (cl := [(Str.ofString "dark", L + 1)]) (by rfl) (by decide) (by rfl) (by decide) (by decide) ?_
    refine rd T₃ rfl ⟨_, _, srcList hA.hd hwl, by show _ ≤ 16777216; omega, T₃.b, ?_, ?_, ?_⟩
    · intro C₂ j u s₄ E₂ hPu ex₄ T₄
      obtain ⟨cs, hcs, tc, rfl⟩ := All.get hwa hPu
      rw [List.getElem?_map, Option.map_eq_some_iff] at hcs
      obtain ⟨c, hc, rfl⟩ := hcs
      refine test1 (isTrue_plain (notIn hA hn T₄.b (rdK (hc1.keeps (ex.trans ex₄)) (rd T₄ rfl ⟨T₄.b, fun _ => False, ds, c, ⟨vd, (Lst.fa _ _).ext (ex.trans ex₄) hown, pd _ _⟩, ⟨tc, rfl⟩, fun b s₅ sm ex' e => ?_⟩) (by rfl))))
      subst e
      refine wpAny_truthy_bool ⟨?_, T₄.sm.trans sm, ex'⟩
      show _ = !(ds.map T).contains (T c)
      rw [tcont]
    · intro C₂ j u s₄ E₂ hPu _ ex₄ T₄
      exact rd T₄ rfl ⟨rfl, T₄.sm, T₄.keep⟩
    · intro D s₄ ys us sm ex' hD hpl hlen' hP' hF
      have hus : us = ws := same_of_get hlen' hP'
      subst hus
      refine ⟨⟨D, ys, rfl, hD, hpl.isList, row, ?_, fun X h => ?_⟩, sm, ex'⟩
      · exact (Strs.fa _ _).grow _ _ _ (fun _ q => q.elim) hst
      · have hy : ys.toList = us.filter fun u => !(ds.map T).contains (textIn u) := paired_eq hF
        rw [hy, filt_map]
        refine All.filt (q := fun z => !(ds.map T).contains z) (show All cS us _ X h from hwa) fun u z _ _ ⟨t, e⟩ => ?_
        rw [e]; rfl
  · intro D s' ys us S' hD hpl hlen hP hF
    have hus : us = vs := same_of_get hlen hP
    subst hus
    have pf := All.filt (p := fun v => !(ds.map T).contains (headOf s.heap v)) (q := fun rr : List Str => !(ds.map T).contains (rr.headD Str.empty)) S.g.2 (fun v rr _ hm hs => by
      unfold tR at hm
      obtain ⟨row, hmem, rfl⟩ := List.mem_map.mp hm
      cases row with
      | nil => exact absurd rfl (hf.ne _ hmem)
      | cons x tl => rw [headOf_strs (tl := tl.map T) hs]; rfl)
    have ef : (tR left).filter (fun rr : List Str => !(ds.map T).contains (rr.headD Str.empty)) = tR (left.filter fun c => !ds.contains (c.headD [])) := by
      unfold tR
      rw [List.filter_map]
      congr 1
      refine filt_same fun c hc => ?_
      cases c with
      | nil => exact absurd rfl (hf.ne _ hc)
      | cons x tl => show (!(ds.map T).contains (T x)) = !ds.contains x; rw [tcont]
    rw [ef] at pf
    have pq : All Strs ys.toList (tR (cutLeft ds left)) (Old s.heap) s'.heap := by
      unfold tR at pf
      have e : tR (cutLeft ds left) = ((left.filter fun c => !ds.contains (c.headD [])).map (·.map T)).map fun rr => rr.filter fun z => !(ds.map T).contains z := by
        unfold cutLeft tR
        rw [List.map_map, List.map_map]
        refine List.map_congr_left fun c _ => ?_
        exact filt_map ds c
      rw [e]
      refine paired_comp (R' := fun v x => Strs v x (Old s.heap) s'.heap) (fun v y rr hy hs => ?_) hF pf
      obtain ⟨a, its, rfl, ha, hl, row, hrow, hits⟩ := hy
      have e1 : rr = row.map T := strs_inj hs hrow
      rw [e1, ← filt_map]
      exact ⟨its.toList, ⟨a, rfl, ha, by simpa using hl⟩, hits _ _⟩
    have S' := S'.add ((Rv.fa (.ref D) ys.toList (cutLeft ds left)).fz _) (S.fresh (Rv.fa _ _ _) ⟨⟨D, rfl, hD, by simpa using hpl.isList⟩, pq⟩)
    refine wpAny_execs_nil (h _ _ _ ((S'.drop (Rv.fa _ _ _) fun X h g => Fz.out (Rv.fa _ _ _) g.1).only _ ⟨rfl, rfl, rfl, trivial⟩))
end
end Mine
end

section
open PySem PySem.W PyProof.Rows PySem.Calls PySem.SeqAt PySem.StrLaws PySem.Builtin PySem.Builtin.Str
set_option Elab.async false
set_option maxRecDepth 100000
set_option linter.unusedVariables false
set_option maxHeartbeats 4000000
namespace Mine
theorem fit_cut {ds : List (List Nat)} {left : RW} (h : Fit left) : Fit (cutLeft ds left) where
  few := by
    unfold cutLeft
    rw [List.length_map]
    exact Nat.le_trans (List.length_filter_le _ _) h.few
  ne := fun c hc => by
    unfold cutLeft at hc
    obtain ⟨c', hc', rfl⟩ := List.mem_map.mp hc
    obtain ⟨h1, h2⟩ := List.mem_filter.mp hc'
    cases c' with
    | nil => exact absurd rfl (h.ne _ h1)
    | cons x tl =>
      rw [List.filter_cons, if_pos (by exact h2)]
      simp
  len := fun c hc => by
    unfold cutLeft at hc
    obtain ⟨c', hc', rfl⟩ := List.mem_map.mp hc
    exact Nat.le_trans (List.length_filter_le _ _) (h.len _ (List.mem_filter.mp hc').1)
theorem fit_stages {cs : RW} (h : Fit cs) : ∀ k, Fit (stages k (cs, 0, 1)).1
  | 0 => h
  | k + 1 => fit_cut (fit_stages h k)
section
variable {r : Bool} {prog : Program} {w : World} {A : Around} {E : Value → Shared → Prop} {s₀ s s' : Shared} {n : Nat} {L : Addr} {C : List (Addr × Held)} {O : List (Addr × List Value)} {loc : List (Str × Value)} {Γ : Pred} {env : Env} {Q : Value → Shared → Prop}

theorem w_stage {lv : Value} {vs : List Value} {left : RW} {wt pw : Int} {tw tp : Tok} {ov : Option Value} {Q : Flow → Shared → Prop} (hA : Lv n A) (hn : n ≤ 19) (hf : Fit left)
    (S : St true w s₀ L ((L + 1, .cell ov) :: C) [] (wLoc lv wt pw tw tp) (Rv lv vs left) s)
    (h : ∀ lv' vs' t1 t2 ov' s', St true w s₀ L ((L + 1, .cell ov') :: C) [] (wLoc lv' (stage (left, wt, pw)).2.1 (stage (left, wt, pw)).2.2 t1 t2) (Rv lv' vs' (stage (left, wt, pw)).1) s' → Q .next s') :
    wpAny (model prog w) A (execs wStage (envC 19 124 123 L)) Q E s := by
  refine wpAny_execs_cons (wpAny_Assign_Name (List_ (args_nil (ownNew S (by simp) fun Dd s₁ S => stoC1 S (fun s₂ S => ?_) (by rfl)))))
  refine wpAny_execs_cons (wpAny_Assign_Name (List_ (args_nil (ownNew S (by simp) fun Du s₃ S => sto S fun s₄ S => ?_))))
  refine w_for1 hA hn hf S fun vd vu s₅ hd hu pd pu S => ?_
  refine w_for2 hA hn hu pu S fun t s₆ S => ?_
  refine w_power hA hn S fun t' s₇ S => ?_
  refine w_cut hA hn hf pd S fun lv' vs' s₈ S => ?_
  exact h lv' vs' t t' _ s₈ S.give

theorem rangeOf {m : Nat} {t : Tok} (S : St r w s₀ L C O loc Γ s) (hm : m ≤ 1000000) (h : ∀ rg s' t u v, St r w s₀ L C O loc Γ s' → IsRange s'.heap rg 0 m 1 t u v → Q (.ref rg) s') :
    wpAny (model prog w) A (call (.type "range") [.int m t]) Q E s := by
  refine call_range_1 ?_
  exact h _ _ _ _ _ (S.ext ⟨_, _, rfl⟩ (Ext.push _ _)) (IsRange.new ..)

theorem c_worth {chains : Value} {cs : RW} {X : Addr → Prop} (hr : Rows chains (tR cs) X s.heap) (hf : Fit cs)
    (B : Base w s.heap) (hA : Lv n A) (hn : n ≤ 18) (h : Back s (fun v _ => IsInt v (worthOf cs)) Q) :
    wpAny (model prog w) A (call (.ref 124) [chains]) Q E s := by
  have hkind : ∀ L : Addr, ∀ x ∈ [(Str.ofString "chains", chains)], (scopeAt 19).names.lookup x.1 = some .local ∨ ((scopeAt 19).names.lookup x.1 = some .cell ∧ ((cellsFrom (L + 1) (scopeAt 19).names []).lookup x.1).isSome = true) := by
    intro L x hx
    rw [List.mem_singleton.mp hx]; exact .inl (by rfl)
  have hloc : ∀ L : Addr, ∀ x v, [(Str.ofString "chains", chains)].lookup x = some v → bindL (envC 19 124 123 L).kindOf [(Str.ofString "chains", chains)] (fun _ => none) x = some v := by
    intro L x v e
    obtain ⟨rfl, rfl⟩ := one_lookup e
    rfl
  refine callC [(Str.ofString "chains", chains)] [Str.ofString "dark"] [(Str.ofString "chains", chains)] (d_worth _) B hA (by omega) (by rfl) hkind hloc (by intro L; rfl) (by decide) fun s₁ L S hA' => ?_
  have S : St true w s L [(L + 1, .cell none)] [] [(Str.ofString "chains", chains)] none_ s₁ := S
  obtain ⟨vs, hl, pa⟩ := hr
  have hvl : vs.length = cs.length := by have := paired_len pa; simpa [tR] using this
  have hfew := hf.few
  have S := S.add (Rv.fa chains vs cs) ⟨S.old (Lst.fa _ _) hl, S.old (All.fa Strs.fa _ _) pa⟩
  have S := S.drop (Γ' := Rv chains vs cs) (Rv.fa _ _ _) fun _ _ g => g.1
  refine wpAny_execs_cons (wpAny_Assign_Name (rd S rfl (sto S fun s₂ S => ?_)))
  refine wpAny_execs_cons (wpAny_Assign_Name (kint S fun s₃ t₃ S => sto S fun s₄ S => ?_))
  refine wpAny_execs_cons (wpAny_Assign_Name (kint S fun s₅ t₅ S => sto S fun s₆ S => ?_))
  refine wpAny_execs_cons (forV (s₀ := s) (fun i C' O' loc' Γ' => ∃ lv vs t1 t2 ov, C' = [(L + 1, .cell ov)] ∧ O' = [] ∧ loc' = wLoc lv (stages i (cs, 0, 1)).2.1 (stages i (cs, 0, 1)).2.2 t1 t2 ∧ Γ' = Rv lv vs (stages i (cs, 0, 1)).1) ?_)
  refine Call_ (nm_range S.b (PyProof.Rows.callWith_type1 (args_cons (Call_ (nm_len S.b (callWith_builtin1 (args_cons (rd S rfl (args_nil (lenL S S.g.1 (by omega) fun s₇ t₇ S => args_nil ?_))))))))))
  refine rangeOf S (by omega) fun rg s₈ t u v S hrg => ?_
  refine ⟨vs.length, _, _, _, _, _, S.only (wLoc chains 0 1 t₃ t₅) ⟨rfl, rfl, rfl, trivial⟩, ⟨chains, vs, t₃, t₅, none, rfl, rfl, rfl, rfl⟩, feedRange hA'.hd hrg (by omega), ?_, ?_⟩
  · rintro pn i u _ _ _ _ s₀' s₉ E' hi ⟨ti, rfl⟩ ⟨lv, vs', t1, t2, ov, rfl, rfl, rfl, rfl⟩ e0 S
    refine PySem.wpAny_assign_Name (sto S fun sa S => ?_)
    have S := S.only (wLoc lv (stages i (cs, 0, 1)).2.1 (stages i (cs, 0, 1)).2.2 t1 t2) ⟨rfl, rfl, rfl, trivial⟩
    refine w_stage hA' (by omega) (fit_stages hf i) S fun lv' vs'' t1' t2' ov' sb S => ?_
    exact ⟨.inl rfl, [(L + 1, .cell ov')], _, _, _, S, lv', vs'', t1', t2', ov', rfl, rfl, rfl, rfl⟩
  · rintro _ _ _ _ s₉ ⟨lv, vs', t1, t2, ov, rfl, rfl, rfl, rfl⟩ S
    refine wpAny_execs_cons (wpAny_Return_some (rd S rfl ?_))
    refine h _ _ S.sm S.keep ⟨t1, ?_⟩
    rw [hvl]; rfl
end
end Mine
end

section
open PySem PySem.W PyProof.Rows PySem.Calls PySem.SeqAt PySem.StrLaws PySem.Builtin PySem.Builtin.Str
set_option Elab.async false
set_option maxRecDepth 100000
set_option linter.unusedVariables false
set_option maxHeartbeats 4000000
namespace Mine
section
variable {r : Bool} {prog : Program} {w : World} {A : Around} {E : Value → Shared → Prop} {s₀ s s' : Shared} {n : Nat} {L : Addr} {C : List (Addr × Held)} {O : List (Addr × List Value)} {loc : List (Str × Value)} {Γ : Pred} {env : Env} {Q : Value → Shared → Prop}

theorem all_true (k : Nat) : ((List.range k).all fun _ => true) = true := by
  rw [List.all_eq_true]; intros; rfl
theorem eqB (b : Array UInt8) (t u : Tok) : EqAt A s (.bytes b t) (.bytes b u) true := fun prog w E Q hq => by
  unfold eqBool
  refine wpAny_holding ?_
  refine wpAny_ite_split (fun _ => ?_) (fun _ => ?_)
  · exact wpAny_bind (wpAny_rule (wpAny_pure hq))
  · refine wpAny_bind (show wpAny _ _ (compareOp .Eq _ _) _ _ _ from eq_bytes ?_)
    simp only [beq_self_eq_true]
    exact wpAny_truthy_bool hq

/-- two lists whose items are equal, item by item -/
theorem neL_eq {X Y : Addr → Prop} {a b : Value} {vs ws : List Value} (hu : A.units < cLine) (ha : Lst a vs X s.heap) (hb : Lst b ws Y s.heap) (hl : vs.length = ws.length)
    (he : ∀ (j : Nat) (v u : Value), vs[j]? = some v → ws[j]? = some u → EqAt A.in1 s v u true) (h : Q (.bool false) s) : wpAny (model prog w) A (compareOp .NotEq a b) Q E s := by
  obtain ⟨l, rfl, _, hl1⟩ := ha
  obtain ⟨l', rfl, _, hl2⟩ := hb
  refine RcNeAt.lists (e := fun _ => true) hl1 hl2 (by simpa using hl) hu (fun j h1 h2 => ?_) prog w E Q ?_
  · have h1' : j < vs.length := by simpa using h1
    have h2' : j < ws.length := by simpa using h2
    refine he j _ _ ?_ ?_
    · simp [h1']
    · simp [h2']
  · rw [all_true]; exact h
theorem neL_len {X Y : Addr → Prop} {a b : Value} {vs ws : List Value} (hu : A.units < cLine) (ha : Lst a vs X s.heap) (hb : Lst b ws Y s.heap) (hl : vs.length ≠ ws.length) (h : Q (.bool true) s) : wpAny (model prog w) A (compareOp .NotEq a b) Q E s := by
  obtain ⟨l, rfl, _, hl1⟩ := ha
  obtain ⟨l', rfl, _, hl2⟩ := hb
  exact RcNeAt.lists_lengths hl1 hl2 (by simpa using hl) hu prog w E Q h
theorem eqL_eq {X Y : Addr → Prop} {a b : Value} {vs ws : List Value} (hu : A.units < cLine) (ha : Lst a vs X s.heap) (hb : Lst b ws Y s.heap) (hl : vs.length = ws.length)
    (he : ∀ (j : Nat) (v u : Value), vs[j]? = some v → ws[j]? = some u → EqAt A.in1 s v u true) (h : Q (.bool true) s) : wpAny (model prog w) A (compareOp .Eq a b) Q E s := by
  obtain ⟨l, rfl, _, hl1⟩ := ha
  obtain ⟨l', rfl, _, hl2⟩ := hb
  refine RcAt.lists (e := fun _ => true) hl1 hl2 (by simpa using hl) hu (fun j h1 h2 => ?_) prog w E Q ?_
  · have h1' : j < vs.length := by simpa using h1
    have h2' : j < ws.length := by simpa using h2
    refine he j _ _ ?_ ?_
    · simp [h1']
    · simp [h2']
  · rw [all_true]; exact h
theorem neT_eq {X Y : Addr → Prop} {a b : Value} {vs ws : List Value} (hu : A.units < cLine) (ha : Tpl a vs X s.heap) (hb : Tpl b ws Y s.heap) (hl : vs.length = ws.length)
    (he : ∀ (j : Nat) (v u : Value), vs[j]? = some v → ws[j]? = some u → EqAt A.in1 s v u true) (h : Q (.bool false) s) : wpAny (model prog w) A (compareOp .NotEq a b) Q E s := by
  obtain ⟨l, rfl, _, hl1⟩ := ha
  obtain ⟨l', rfl, _, hl2⟩ := hb
  refine RcNeAt.tuples (e := fun _ => true) hl1 hl2 hu (fun j h1 h2 => ?_) prog w E Q ?_
  · have h1' : j < vs.length := by simpa using h1
    have h2' : j < ws.length := by simpa using h2
    refine he j _ _ ?_ ?_
    · simp [h1']
    · simp [h2']
  · rw [all_true]; simp only [List.size_toArray, hl, beq_self_eq_true, Bool.and_self, Bool.not_true]; exact h

theorem eqStrs {X Y : Addr → Prop} {a b : Value} {xs : List Str} (hu : A.units < cLine) (ha : Strs a xs X s.heap) (hb : Strs b xs Y s.heap) : EqAt A s a b true := by
  obtain ⟨vs, ⟨l, rfl, _, hl1⟩, p⟩ := ha
  obtain ⟨ws, ⟨l', rfl, _, hl2⟩, q⟩ := hb
  have e1 : vs.length = xs.length := paired_len p
  have e2 : ws.length = xs.length := paired_len q
  by_cases e : l = l'
  · subst e; exact EqAt.same _
  · have := RcAt.lists (A := A) (e := fun _ => true) hl1 hl2 (by simp [e1, e2]) hu (fun j h1 h2 => by
      have h1' : j < vs.length := by simpa using h1
      have h2' : j < ws.length := by simpa using h2
      obtain ⟨x, hx, t, ex⟩ := All.get p (List.getElem?_eq_getElem h1')
      obtain ⟨y, hy, u, ey⟩ := All.get q (List.getElem?_eq_getElem h2')
      rw [hx] at hy; cases hy
      have := EqAt.str_str (A := A.in1) (s := s) x t x u
      simp only [beq_self_eq_true] at this
      simpa [ex, ey] using this)
    rw [all_true] at this
    exact EqAt.of_refs e this
end
end Mine
end

section
open PySem PySem.W PyProof.Rows PySem.Calls PySem.SeqAt PySem.StrLaws PySem.Builtin PySem.Builtin.Str
set_option Elab.async false
set_option maxRecDepth 100000
set_option linter.unusedVariables false
set_option maxHeartbeats 4000000
namespace Mine
open Builtin.Bytes (words isSpace)

theorem tw_all {p : Nat → Bool} : ∀ {l : List Nat}, (∀ c ∈ l, p c = true) → l.takeWhile p = l
  | [], _ => rfl
  | c :: l, h => by rw [List.takeWhile_cons, if_pos (h c (.head _)), tw_all fun x hx => h x (.tail _ hx)]
theorem tailM3 : cps " FLAGS (z" = [32, 70, 76, 65, 71, 83, 32, 40, 122] := by decide +kernel
theorem far_none {l : List Nat} {q : Nat} (hq : q ≤ l.length) (h : ∀ c ∈ l.drop q, c ≠ 41) : q + far l q = l.length := by
  unfold far
  have : (l.drop q).takeWhile (· != 41) = l.drop q := by
    exact tw_all fun c hc => by simpa using h c hc
  rw [this]; simp; omega
theorem far_some {l a b : List Nat} {q : Nat} (e : l.drop q = a ++ 41 :: b) (h : ∀ c ∈ a, c ≠ 41) : far l q = a.length := by
  unfold far
  rw [e]
  have : (a ++ 41 :: b).takeWhile (· != 41) = a := by
    rw [List.takeWhile_append_of_pos (by intro c hc; simpa using h c hc)]
    simp
  rw [this]
theorem noGood_of {l : List Nat} (h : 41 ∉ l) : NoGood l := by
  intro p hp hg
  obtain ⟨hF, hlt⟩ := hg
  have := far_at hlt
  exact h (List.mem_of_getElem? this)

theorem FF_eq : flagsP = FF := by decide +kernel
/-- the last place of the flags in a line -/
theorem lastGood_of {h j t : List Nat} (hj : ∀ c ∈ j, c ≠ 41 ∧ c ≠ 70) (ht : (∀ c ∈ t, c ≠ 70) ∨ t = cps " FLAGS (z") :
    LastGood (h ++ FF ++ j ++ [41] ++ t) h.length ∧ far (h ++ FF ++ j ++ [41] ++ t) (h.length + 7) = j.length ∧ ((h ++ FF ++ j ++ [41] ++ t).drop (h.length + 7)).take (far (h ++ FF ++ j ++ [41] ++ t) (h.length + 7)) = j := by
  have hd : (h ++ FF ++ j ++ [41] ++ t).drop (h.length + 7) = j ++ 41 :: t := by
    have e : h ++ FF ++ j ++ [41] ++ t = (h ++ FF) ++ (j ++ 41 :: t) := by simp
    rw [e]
    have : h.length + 7 = (h ++ FF).length := by simp [FF]
    rw [this, List.drop_left]
  have hfar := far_some hd fun c hc => (hj c hc).1
  have hlen : (h ++ FF ++ j ++ [41] ++ t).length = h.length + 7 + j.length + 1 + t.length := by simp [FF]; omega
  refine ⟨⟨⟨fun i hi => ?_, ?_⟩, fun p' hp hle hg => ?_⟩, hfar, ?_⟩
  · have e : h ++ FF ++ j ++ [41] ++ t = h ++ (FF ++ (j ++ [41] ++ t)) := by simp
    rw [e, List.getElem?_append_right (by omega), show h.length + i - h.length = i by omega, List.getElem?_append_left (by simpa [FF] using hi)]
  · rw [hfar, hlen]; omega
  · obtain ⟨hF, hlt⟩ := hg
    have h0 : (h ++ FF ++ j ++ [41] ++ t)[p']? = some 70 := hF 0 (by decide)
    have e : h ++ FF ++ j ++ [41] ++ t = h ++ (FF ++ (j ++ 41 :: t)) := by simp
    obtain ⟨k, rfl⟩ : ∃ k, p' = h.length + k := ⟨p' - h.length, by omega⟩
    rw [e, List.getElem?_append_right (by omega), show h.length + k - h.length = k by omega] at h0
    by_cases hk : k < 7
    · rw [List.getElem?_append_left (by simpa [FF] using hk)] at h0
      have : k = 1 ∨ k = 2 ∨ k = 3 ∨ k = 4 ∨ k = 5 ∨ k = 6 := by omega
      rcases this with rfl | rfl | rfl | rfl | rfl | rfl <;> simp [FF] at h0
    · obtain ⟨i, rfl⟩ : ∃ i, k = 7 + i := ⟨k - 7, by omega⟩
      rw [List.getElem?_append_right (by simp [FF]), show 7 + i - FF.length = i by simp [FF]] at h0
      by_cases hi : i < j.length
      · rw [List.getElem?_append_left hi] at h0
        exact (hj 70 (List.mem_of_getElem? h0)).2 rfl
      · obtain ⟨m, rfl⟩ : ∃ m, i = j.length + m := ⟨i - j.length, by omega⟩
        rw [List.getElem?_append_right (by omega), show j.length + m - j.length = m by omega] at h0
        cases m with
        | zero => simp at h0
        | succ m =>
          rw [List.getElem?_cons_succ] at h0
          rcases ht with ht | rfl
          · exact ht 70 (List.mem_of_getElem? h0) rfl
          · rw [tailM3] at h0 hlen hle hlt e
            have hm : m = 1 := by
              have hm9 : m < 9 := (List.getElem?_eq_some_iff.mp h0).1
              have : m = 0 ∨ m = 1 ∨ m = 2 ∨ m = 3 ∨ m = 4 ∨ m = 5 ∨ m = 6 ∨ m = 7 ∨ m = 8 := by omega
              rcases this with rfl | rfl | rfl | rfl | rfl | rfl | rfl | rfl | rfl <;> simp at h0 <;> rfl
            subst hm
            have hdr : (h ++ FF ++ j ++ [41] ++ [32, 70, 76, 65, 71, 83, 32, 40, 122]).drop (h.length + (7 + (j.length + (1 + 1))) + 7) = [122] := by
              have e2 : h ++ FF ++ j ++ [41] ++ [32, 70, 76, 65, 71, 83, 32, 40, 122] = (h ++ FF ++ j ++ [41] ++ [32, 70, 76, 65, 71, 83, 32, 40]) ++ [122] := by simp
              rw [e2]
              have : h.length + (7 + (j.length + (1 + 1))) + 7 = (h ++ FF ++ j ++ [41] ++ [32, 70, 76, 65, 71, 83, 32, 40]).length := by simp [FF]; omega
              rw [this, List.drop_left]
            have := far_none (l := h ++ FF ++ j ++ [41] ++ [32, 70, 76, 65, 71, 83, 32, 40, 122]) (q := h.length + (7 + (j.length + (1 + 1))) + 7) (by rw [hlen]; simp; omega) (by rw [hdr]; decide)
            omega
  · rw [hfar, hd]; simp
end Mine
end

section
open PySem PySem.W PyProof.Rows PySem.Calls PySem.SeqAt PySem.StrLaws PySem.Builtin PySem.Builtin.Str
set_option Elab.async false
set_option maxRecDepth 100000
set_option linter.unusedVariables false
set_option maxHeartbeats 4000000
namespace Mine
open Builtin.Bytes (words isSpace)
structure WordOk (x : List Nat) : Prop where
  wd : Wd x
  sg : ∀ c ∈ x, Sg c
  br : ∀ c ∈ x, c ≠ 41 ∧ c ≠ 70
  len : x.length ≤ 3
def noteM : List (List Nat) := [[], [58], [58, 120, 46, 121]]
structure RowOk (note : List Nat → List Nat) (r : List (List Nat)) : Prop where
  ne : r ≠ []
  len : r.length ≤ 5
  ws : ∀ x ∈ r, WordOk x
  nt : note (r.headD []) ∈ noteM
structure RowsOk (note : List Nat → List Nat) (rs : RW) : Prop where
  few : rs.length ≤ 5
  all : ∀ r ∈ rs, RowOk note r

theorem note_char {nt : List Nat} (h : nt ∈ noteM) : (nt = [] ∨ ∃ r, nt = 58 :: r) ∧ (∀ c ∈ nt, c < 128 ∧ c ≠ 10) ∧ nt.length ≤ 4 ∧ (∀ c ∈ nt, Sg c ∧ c ≠ 41 ∧ c ≠ 70) := by
  simp only [noteM, List.mem_cons, List.not_mem_nil, or_false] at h
  rcases h with rfl | rfl | rfl
  · exact ⟨.inl rfl, by decide, by decide, fun _ h => nomatch h⟩
  · exact ⟨.inr ⟨_, rfl⟩, by decide, by decide, fun c hc => by
      rw [List.mem_singleton.mp hc]; exact ⟨by unfold Sg; decide, by decide, by decide⟩⟩
  · refine ⟨.inr ⟨_, rfl⟩, by decide, by decide, fun c hc => ?_⟩
    simp only [List.mem_cons, List.not_mem_nil, or_false] at hc
    rcases hc with rfl | rfl | rfl | rfl <;> exact ⟨by unfold Sg; decide, by decide, by decide⟩
theorem word_small {r : List (List Nat)} (hw : ∀ x ∈ r, WordOk x) : (r.map List.length).sum ≤ 3 * r.length := by
  induction r with
  | nil => simp
  | cons x r ih =>
    have h1 := (hw x (.head _)).len
    have h2 := ih fun y hy => hw y (.tail _ hy)
    simp only [List.map_cons, List.sum_cons, List.length_cons]; omega
section
variable {note : List Nat → List Nat} {r : List (List Nat)} {rs : RW}
theorem RowOk.small (h : RowOk note r) : Small r := ⟨by have := h.len; omega, by have := word_small h.ws; have := h.len; omega⟩
theorem RowOk.path (h : RowOk note r) : (pathOf r).length ≤ 20 := by
  rw [← pathOf_join]
  have h1 := joinL_length [46] r.reverse
  rw [sum_rev] at h1
  have := word_small h.ws
  have := h.len
  simp at h1; omega
theorem RowOk.nameLen (h : RowOk note r) : (nameOf note r).length ≤ 24 := by
  unfold nameOf
  have := h.path
  have := (note_char h.nt).2.2.1
  rw [List.length_append]; omega
theorem RowOk.chars (h : RowOk note r) : ∀ c ∈ nameOf note r, Sg c ∧ c ≠ 41 ∧ c ≠ 70 ∧ c < 128 ∧ c ≠ 10 := by
  intro c hc
  rcases List.mem_append.mp hc with hc | hc
  · rcases pathOf_mem hc with rfl | ⟨x, hx, q⟩
    · exact ⟨by unfold Sg; decide, by decide, by decide, by decide, by decide⟩
    · have w := h.ws x hx
      exact ⟨w.sg c q, (w.br c q).1, (w.br c q).2, w.wd.low c q, fun e => w.wd.nl (e ▸ q)⟩
  · obtain ⟨_, h2, _, h4⟩ := note_char h.nt
    exact ⟨(h4 c hc).1, (h4 c hc).2.1, (h4 c hc).2.2, (h2 c hc).1, (h2 c hc).2⟩
theorem RowOk.nameNe (h : RowOk note r) : nameOf note r ≠ [] := by
  cases r with
  | nil => exact absurd rfl h.ne
  | cons x tl =>
    intro e
    exact pathOf_ne (h.ws x (.head _)).wd (List.append_eq_nil_iff.mp e).1
end
theorem pick3_mem {ms : List (List Nat)} (h : ms.length = 3) (x : Int) : pick3 ms x ∈ ms := by
  obtain ⟨k, _, e⟩ := pick3_get h x
  exact List.mem_of_getElem? e
theorem gap_ok (x : Int) : pick3 gapM x ≠ [] ∧ (∀ c ∈ pick3 gapM x, isSpace c.toUInt8 = true) ∧ (∀ c ∈ pick3 gapM x, c ≠ 41 ∧ c ≠ 70 ∧ c < 128 ∧ c ≠ 10) := by
  have : ∀ m ∈ gapM, m ≠ [] ∧ (∀ c ∈ m, isSpace c.toUInt8 = true) ∧ (∀ c ∈ m, c ≠ 41 ∧ c ≠ 70 ∧ c < 128 ∧ c ≠ 10) := by decide +kernel
  exact this _ (pick3_mem rfl x)
theorem head_ok (x : Int) : ∀ c ∈ pick3 headM x, c < 128 ∧ c ≠ 10 := by
  have : ∀ m ∈ headM, ∀ c ∈ m, c < 128 ∧ c ≠ 10 := by decide +kernel
  exact this _ (pick3_mem rfl x)
theorem tail_ok (x : Int) : (∀ c ∈ pick3 tailM x, c < 128 ∧ c ≠ 10) ∧ ((∀ c ∈ pick3 tailM x, c ≠ 70) ∨ pick3 tailM x = cps " FLAGS (z") := by
  have : ∀ m ∈ tailM, (∀ c ∈ m, c < 128 ∧ c ≠ 10) ∧ ((∀ c ∈ m, c ≠ 70) ∨ m = cps " FLAGS (z") := by decide +kernel
  exact this _ (pick3_mem rfl x)
theorem join_mem {sep : List Nat} {c : Nat} : ∀ {ns : List (List Nat)}, c ∈ joinL sep ns → c ∈ sep ∨ ∃ n ∈ ns, c ∈ n
  | [], h => by cases h
  | [x], h => .inr ⟨x, .head _, h⟩
  | x :: y :: r, h => by
    rw [joinL] at h
    rcases List.mem_append.mp h with h | h
    · rcases List.mem_append.mp h with h | h
      · exact .inr ⟨x, .head _, h⟩
      · exact .inl h
    · rcases join_mem h with h | ⟨n, hn, h⟩
      · exact .inl h
      · exact .inr ⟨n, .tail _ hn, h⟩
theorem line_eq (ns : List (List Nat)) (x : Int) : lineOf ns x = pick3 headM x ++ FF ++ joinL (pick3 gapM (x.fdiv 9)) ns ++ [41] ++ pick3 tailM (x.fdiv 3) := by
  unfold lineOf
  rw [FF_eq, show cps ")" = [41] by decide +kernel]

section
variable {note : List Nat → List Nat} {rs : RW}
theorem RowsOk.join (h : RowsOk note rs) (x : Int) : ∀ c ∈ joinL (pick3 gapM x) (rs.map (nameOf note)), c ≠ 41 ∧ c ≠ 70 ∧ c < 128 ∧ c ≠ 10 := by
  intro c hc
  rcases join_mem hc with hc | ⟨n, hn, hc⟩
  · exact (gap_ok x).2.2 c hc
  · obtain ⟨r, hr, rfl⟩ := List.mem_map.mp hn
    have := (h.all r hr).chars c hc
    exact ⟨this.2.1, this.2.2.1, this.2.2.2.1, this.2.2.2.2⟩
theorem RowsOk.sum (h : RowsOk note rs) : ((rs.map (nameOf note)).map List.length).sum ≤ 120 := by
  have key : ∀ rs : RW, (∀ r ∈ rs, RowOk note r) → ((rs.map (nameOf note)).map List.length).sum ≤ 24 * rs.length := by
    intro rs
    induction rs with
    | nil => intro _; simp
    | cons r rs ih =>
      intro hh
      have h1 := (hh r (.head _)).nameLen
      have h2 := ih fun y hy => hh y (.tail _ hy)
      simp only [List.map_cons, List.sum_cons, List.length_cons]; omega
  have := key rs h.all
  have := h.few
  omega
theorem RowsOk.joinLen (h : RowsOk note rs) (x : Int) : (joinL (pick3 gapM x) (rs.map (nameOf note))).length ≤ 130 := by
  have h1 := joinL_length (pick3 gapM x) (rs.map (nameOf note))
  have h2 := h.sum
  have h3 := gapM_len x
  have h4 := h.few
  have : (rs.map (nameOf note)).length * (pick3 gapM x).length ≤ 5 * 2 := Nat.mul_le_mul (by simpa using h4) h3
  omega
theorem RowsOk.line (h : RowsOk note rs) (x : Int) : (∀ c ∈ lineOf (rs.map (nameOf note)) x, c < 128 ∧ c ≠ 10) ∧ (lineOf (rs.map (nameOf note)) x).length ≤ 1000 := by
  rw [line_eq]
  refine ⟨fun c hc => ?_, ?_⟩
  · rcases List.mem_append.mp hc with hc | hc
    · rcases List.mem_append.mp hc with hc | hc
      · rcases List.mem_append.mp hc with hc | hc
        · rcases List.mem_append.mp hc with hc | hc
          · exact head_ok x c hc
          · have : ∀ c ∈ FF, c < 128 ∧ c ≠ 10 := by decide
            exact this c hc
        · have := h.join _ c hc
          exact ⟨this.2.2.1, this.2.2.2⟩
      · rw [List.mem_singleton.mp hc]; decide
    · exact (tail_ok _).1 c hc
  · have l1 := headM_len x
    have l2 := tailM_len (x.fdiv 3)
    have l3 := h.joinLen (x.fdiv 9)
    simp [FF]; omega
/-- what the parser needs of a line -/
theorem RowsOk.parse (h : RowsOk note rs) (x : Int) : ∃ p gap, LastGood (lineOf (rs.map (nameOf note)) x) p ∧
    ((lineOf (rs.map (nameOf note)) x).drop (p + 7)).take (far (lineOf (rs.map (nameOf note)) x) (p + 7)) = joinL gap (rs.map (nameOf note)) ∧ gap ≠ [] ∧ (∀ c ∈ gap, isSpace c.toUInt8 = true) ∧ (∀ n ∈ rs.map (nameOf note), n ≠ [] ∧ ∀ c ∈ n, Sg c) := by
  rw [line_eq]
  obtain ⟨h1, _, h3⟩ := lastGood_of (h := pick3 headM x) (j := joinL (pick3 gapM (x.fdiv 9)) (rs.map (nameOf note))) (t := pick3 tailM (x.fdiv 3)) (fun c hc => ⟨(h.join _ c hc).1, (h.join _ c hc).2.1⟩) (tail_ok _).2
  refine ⟨_, pick3 gapM (x.fdiv 9), h1, h3, (gap_ok _).1, (gap_ok _).2.1, fun n hn => ?_⟩
  obtain ⟨r, hr, rfl⟩ := List.mem_map.mp hn
  exact ⟨(h.all r hr).nameNe, fun c hc => ((h.all r hr).chars c hc).1⟩
end
end Mine
end

section
open PySem PySem.W PyProof.Rows PySem.Calls PySem.SeqAt PySem.StrLaws PySem.Builtin PySem.Builtin.Str
set_option Elab.async false
set_option maxRecDepth 100000
set_option linter.unusedVariables false
set_option maxHeartbeats 4000000
namespace Mine
section
variable {r : Bool} {prog : Program} {w : World} {A : Around} {E : Value → Shared → Prop} {s₀ s s' : Shared} {n : Nat} {L : Addr} {C : List (Addr × Held)} {O : List (Addr × List Value)} {loc : List (Str × Value)} {Γ : Pred} {env : Env} {Q : Value → Shared → Prop}

theorem sumL {X : Addr → Prop} {v : Value} {vs : List Value} {ns : List Int} (hh : A.handled = none) (S : St r w s₀ L C O loc Γ s) (hl : Lst v vs X s.heap) (pa : All cI vs ns X s.heap)
    (h : ∀ tot t s', St r w s₀ L C O loc Γ s' → Q (.int tot t) s') : wpAny (model prog w) A (call (.builtin "sum") [v]) Q E s := by
  obtain ⟨a, rfl, _, hl⟩ := hl
  have hlt : a < s.heap.objs.size := by obtain ⟨o, ho, _⟩ := hl; exact Heap.lt_size ho
  refine call_sum_walkG (wpAny_pyIter_list hl ?_)
  refine ⟨s.heap.objs.size, _, _, _, _, _, (fun i => ns.getD i 0), rfl, Walks.list (prog := prog) (w := w) (A := A.in1) hh s.heap.objs.size a (Nat.ne_of_lt hlt) vs.toArray, ⟨⟨_, Heap.get?_push_size _ rfl, rfl, rfl⟩, hl.at fun o e => Heap.get?_push_of_some _ e⟩, fun b hb => ?_, fun i v hv => ?_, fun h' tk t' hk => ?_⟩
  · rw [Heap.size_push]
    rcases List.mem_cons.mp hb with rfl | hb
    · exact Nat.lt_succ_self _
    · rw [List.mem_singleton.mp hb]; exact Nat.lt_succ_of_lt hlt
  · obtain ⟨x, hx, t, e⟩ := All.get pa (show vs[i]? = some v by simpa using hv)
    exact ⟨t, by rw [e]; show _ = Value.int (ns.getD i 0) t; rw [List.getD_eq_getElem?_getD, hx]; rfl⟩
  · exact h _ _ _ (S.ext (s' := { s with heap := h', toks := tk }) ⟨_, _, rfl⟩ (ext_of_push (o := { cls := .type "list_iterator", data := .fields #[.ref a, .int 0 0] }) hk))

/-- a place held in the middle turns -/
theorem St.setMid {B : List (Addr × Held)} {c : Addr} {x x' : Held} {h' : Heap} {tk : Nat} (S : St true w s₀ L (C ++ (c, x) :: B) O loc Γ s) (hx : x'.At h' c) (hs : Heap.ExtBut c s.heap h') :
    St true w s₀ L (C ++ (c, x') :: B) O loc Γ { s with heap := h', toks := tk } := by
  have nd := S.cnd
  rw [List.map_append, List.map_cons, List.nodup_append, List.nodup_cons] at nd
  refine S.setC (c := c) (x := x) (x' := x') (List.mem_append_right _ (.head _)) (by simp) (fun p hp => ?_) hx hs
  rcases List.mem_append.mp hp with hp | hp
  · exact .inr ⟨List.mem_append_left _ hp, fun e => nd.2.2 p.1 (List.mem_map.mpr ⟨p, hp, rfl⟩) c (.head _) e⟩
  · rcases List.mem_cons.mp hp with rfl | hp
    · exact .inl rfl
    · exact .inr ⟨List.mem_append_right _ (.tail _ hp), fun e => nd.2.1.1 (List.mem_map.mpr ⟨p, hp, e⟩)⟩

abbrev lawEnv (L : Addr) : Env := envC 20 129 128 L
/-- what stays known through the law -/
def GA (nv : Value) (nvs : List Value) (ns : List Int) (dv : Value) (dvs : List Value) (drawn : RW) : Pred := fun X h => (Lst nv nvs X h ∧ All cI nvs ns X h) ∧ Rv dv dvs drawn X h
theorem GA.fa (nv : Value) (nvs : List Value) (ns : List Int) (dv : Value) (dvs : List Value) (drawn : RW) : Fa (GA nv nvs ns dv dvs drawn) := ((Lst.fa _ _).and (All.fa cI.fa _ _)).and (Rv.fa _ _ _)

theorem law_A {script : Value} {nums : List Int} {X : Addr → Prop} {Q : Flow → Shared → Prop} (hA : Lv n A) (hn : n ≤ 10) (hs : Ints script nums X s₀.heap) (hz : nums.length ≤ 1000)
    (S : St true w s₀ L C [] [(Str.ofString "script", script)] none_ s)
    (h : ∀ nv nvs dv dvs tot t s', St true w s₀ L C [] [(Str.ofString "numbers", nv), (Str.ofString "total", .int tot t), (Str.ofString "drawn", dv)] (GA nv nvs (pad5 nums) dv dvs (treeOf (pad5 nums))) s' →
      wpAny (model prog w) A (execs ((bodyAt 20).drop 3) (lawEnv L)) Q E s') :
    wpAny (model prog w) A (execs (bodyAt 20) (lawEnv L)) Q E s := by
  have hp5 : (pad5 nums).length = 5 := by unfold pad5; simp; omega
  refine wpAny_execs_cons (wpAny_Assign_Name (Call_ (nm_gL_numbers S.b (callD (d_numbers _) (args_cons (rd S rfl (args_nil ⟨S.b, ?_⟩)))))))
  refine c_numbers (S.old (Ints.fa _ _) hs) (by omega) S.b hA (by omega) fun nv s₁ sm ex hnv => ?_
  have Sb := S
  have S := S.ext sm ex
  obtain ⟨nvs, hnl, hna⟩ := hnv
  have S := S.add (((Lst.fa nv nvs).and (All.fa cI.fa nvs (pad5 nums))).fz _) (Sb.fresh ((Lst.fa nv nvs).and (All.fa cI.fa nvs (pad5 nums))) ⟨hnl, hna⟩)
  have S := S.drop (Γ' := fun X h => Lst nv nvs X h ∧ All cI nvs (pad5 nums) X h) ((Lst.fa _ _).and (All.fa cI.fa _ _)) fun X h g => Fz.out ((Lst.fa _ _).and (All.fa cI.fa _ _)) g.1
  refine sto S fun s₂ S => ?_
  refine wpAny_execs_cons (wpAny_Assign_Name (Call_ (nm_sum S.b (callWith_builtin1 (args_cons (rd S rfl (args_nil (sumL hA.hd S S.g.1 S.g.2 fun tot t s₃ S => sto S fun s₄ S => ?_))))))))
  refine wpAny_execs_cons (wpAny_Assign_Name (Call_ (nm_gL_tree S.b (callD (d_tree _) (args_cons (rd S rfl (args_nil ⟨S.b, ?_⟩)))))))
  refine c_tree ⟨nvs, S.g⟩ (by omega) S.b hA (by omega) fun dv s₅ sm ex hdv => ?_
  have Sb := S
  have S := S.ext sm ex
  obtain ⟨dvs, hdl, hda⟩ := hdv
  have S := S.add ((Rv.fa dv dvs (treeOf (pad5 nums))).fz _) (Sb.fresh (Rv.fa dv dvs (treeOf (pad5 nums))) ⟨hdl, hda⟩)
  have S := S.drop (Γ' := GA nv nvs (pad5 nums) dv dvs (treeOf (pad5 nums))) (GA.fa _ _ _ _ _ _) fun X h g => ⟨g.2, Fz.out (Rv.fa _ _ _) g.1⟩
  exact sto S fun s₆ S => h nv nvs dv dvs tot t s₆ (S.only _ ⟨rfl, rfl, rfl, trivial⟩)
end
end Mine
end

section
open PySem PySem.W PyProof.Rows PySem.Calls PySem.SeqAt PySem.StrLaws PySem.Builtin PySem.Builtin.Str
set_option Elab.async false
set_option maxRecDepth 100000
set_option linter.unusedVariables false
set_option maxHeartbeats 4000000
namespace Mine
theorem valueAt_cons (p : Str × Value) (l : List (Str × Value)) (k : Str) : valueAt (p :: l) k = if p.1 = k then some p.2 else valueAt l k := by
  unfold valueAt
  rw [List.find?_cons]
  by_cases h : p.1 = k <;> simp [h]
theorem valueAt_put_ne {k k' : Str} {v : Value} (h : k' ≠ k) : ∀ l : List (Str × Value), valueAt (l.map fun kv => if kv.1 = k then (kv.1, v) else kv) k' = valueAt l k'
  | [] => rfl
  | p :: l => by
    rw [List.map_cons, valueAt_cons, valueAt_cons, valueAt_put_ne h l]
    by_cases e : p.1 = k
    · have : ¬ p.1 = k' := fun q => h (q.symm.trans e)
      rw [if_pos e, if_neg this, if_neg this]
    · simp [e]
theorem valueAt_put_same {k : Str} {v : Value} : ∀ l : List (Str × Value), l.any (fun kv => kv.1 = k) = true → valueAt (l.map fun kv => if kv.1 = k then (kv.1, v) else kv) k = some v
  | [], h => by simp at h
  | p :: l, h => by
    rw [List.map_cons, valueAt_cons]
    by_cases e : p.1 = k
    · simp [e]
    · rw [List.any_cons] at h
      simp only [e, decide_false, Bool.false_or] at h
      simp only [e, if_false]
      exact valueAt_put_same l h
theorem valueAt_snoc_ne {k k' : Str} {v : Value} (h : k' ≠ k) : ∀ l : List (Str × Value), valueAt (l ++ [(k, v)]) k' = valueAt l k'
  | [] => by rw [List.nil_append, valueAt_cons, if_neg (fun q => h q.symm)]
  | p :: l => by rw [List.cons_append, valueAt_cons, valueAt_cons, valueAt_snoc_ne h l]
theorem valueAt_snoc_same {k : Str} {v : Value} : ∀ l : List (Str × Value), ¬ l.any (fun kv => kv.1 = k) = true → valueAt (l ++ [(k, v)]) k = some v
  | [], _ => by rw [List.nil_append, valueAt_cons, if_pos rfl]
  | p :: l, h => by
    rw [List.any_cons] at h
    have e : ¬ p.1 = k := fun q => h (by simp [q])
    rw [List.cons_append, valueAt_cons, if_neg e]
    exact valueAt_snoc_same l fun q => h (by rw [q]; simp)
theorem valueAt_stored (kvs : List (Str × Value)) (k k' : Str) (v : Value) : valueAt (stored kvs k v) k' = if k' = k then some v else valueAt kvs k' := by
  unfold stored
  by_cases h : k' = k
  · subst h
    rw [if_pos rfl]
    split
    · rename_i q; exact valueAt_put_same kvs q
    · rename_i q; exact valueAt_snoc_same kvs q
  · rw [if_neg h]
    split
    · exact valueAt_put_ne h kvs
    · exact valueAt_snoc_ne h kvs
theorem noteM_eq : noteM = ["", ":", ":x.y"].map cps := by decide +kernel

/-- heads of rows, each with its own first sign -/
def Heads (drawn : RW) : Prop := ∀ j r, drawn[j]? = some r → r.length ≤ 1000 ∧ ∃ x tl, r = x :: tl ∧ x.head? = some (97 + j)
def Noted (drawn : RW) (ns : List Int) (i : Nat) (kvs : List (Str × Value)) : Prop :=
  ∀ j r x, j < i → drawn[j]? = some r → ns[j]? = some x → ∃ v, valueAt kvs (T (r.headD [])) = some v ∧ IsStr v (T (pick3 noteM (x.fdiv 30)))
section
variable {r : Bool} {prog : Program} {w : World} {A : Around} {E : Value → Shared → Prop} {s₀ s s' : Shared} {n : Nat} {L : Addr} {C : List (Addr × Held)} {O : List (Addr × List Value)} {loc : List (Str × Value)} {Γ : Pred} {env : Env} {Q : Value → Shared → Prop}

theorem law_B {nv dv : Value} {nvs dvs : List Value} {ns : List Int} {drawn : RW} {tot : Int} {t : Tok} {Q : Flow → Shared → Prop} (hA : Lv n A) (hn : n ≤ 10) (h5 : ns.length = 5) (hd5 : drawn.length = 5) (hh : Heads drawn)
    (S : St true w s₀ L C [] [(Str.ofString "numbers", nv), (Str.ofString "total", .int tot t), (Str.ofString "drawn", dv)] (GA nv nvs ns dv dvs drawn) s)
    (h : ∀ d o kvs s', Dob prog w o kvs → Noted drawn ns 5 kvs → St true w s₀ L (C ++ [(d, .pin o)]) [] [(Str.ofString "notes", .ref d), (Str.ofString "total", .int tot t), (Str.ofString "drawn", dv)] (GA nv nvs ns dv dvs drawn) s' →
      wpAny (model prog w) A (execs ((bodyAt 20).drop 5) (lawEnv L)) Q E s') :
    wpAny (model prog w) A (execs ((bodyAt 20).drop 3) (lawEnv L)) Q E s := by
  have hnl : nvs.length = 5 := by have := paired_len S.g.1.2; omega
  have hdl : dvs.length = 5 := by have := paired_len S.g.2.2; simpa [tR, hd5] using this
  refine wpAny_execs_cons (wpAny_Assign_Name (wpAny_Dict_empty ?_))
  have hnew : ¬ Old s.heap s.heap.objs.size := fun ⟨o, e⟩ => absurd (Heap.lt_size e) (Nat.lt_irrefl _)
  have hget : (s.heap.push { cls := .type "dict", data := .dict #[] }).get? s.heap.objs.size = some { cls := .type "dict", data := .dict #[] } := Heap.get?_push_size _ rfl
  have S := S.pin (s' := { s with heap := s.heap.push { cls := .type "dict", data := .dict #[] } }) (wr := [s.heap.objs.size]) ⟨_, _, rfl⟩ (Ext.push _ _) (fun b hb => by rw [List.mem_singleton.mp hb]; exact ⟨_, hget⟩) (fun b hb => by rw [List.mem_singleton.mp hb]; exact hnew) (by simp)
  have e1 : pinsOf (s.heap.push { cls := .type "dict", data := .dict #[] }) [s.heap.objs.size] = [(s.heap.objs.size, .pin { cls := .type "dict", data := .dict #[] })] := by
    unfold pinsOf; rw [List.map_cons, List.map_nil, hget]; rfl
  have S : St true w s₀ L (C ++ [(s.heap.objs.size, .pin { cls := .type "dict", data := .dict #[] })]) [] _ _ _ := e1 ▸ S
  generalize s.heap.objs.size = d at S
  have D0 : Dob prog w { cls := .type "dict", data := .dict #[] } [] := fun h' a' e => ⟨_, #[], 0, e, ⟨rfl, rfl, rfl⟩, rfl, fun _ he => by simp at he, .nil, .nil⟩
  refine sto S fun s₁ S => ?_
  have S := S.only [(Str.ofString "notes", .ref d), (Str.ofString "numbers", nv), (Str.ofString "total", .int tot t), (Str.ofString "drawn", dv)] ⟨rfl, rfl, rfl, rfl, trivial⟩
  refine wpAny_execs_cons (forZ (s₀ := s₀) (fun i C' O' loc' Γ' => ∃ o kvs, C' = C ++ [(d, .pin o)] ∧ O' = [] ∧ loc' = [(Str.ofString "notes", .ref d), (Str.ofString "numbers", nv), (Str.ofString "total", .int tot t), (Str.ofString "drawn", dv)] ∧ Γ' = GA nv nvs ns dv dvs drawn ∧
    Dob prog w o kvs ∧ kvs.length ≤ i ∧ Noted drawn ns i kvs) ?_)
  refine Call_ (nm_zip S.b (PyProof.Rows.callWith_type1 (args_cons (rd S rfl (args_cons (rd S rfl (args_nil ?_)))))))
  refine feedZip hA.hd S.g.2.1 S.g.1.1 fun s₂ v sm ex fd => ?_
  refine ⟨_, 5, _, _, _, _, _, S, ⟨_, [], rfl, rfl, rfl, rfl, D0, Nat.le_refl _, fun j _ _ hj => absurd hj (Nat.not_lt_zero _)⟩, by rw [hdl, hnl] at fd; exact fd, ?_, ?_⟩
  · rintro pn i vals Tt _ _ _ _ s₀' s₃ E' hi ⟨a, b, ha, hb, rfl⟩ ⟨o, kvs, rfl, rfl, rfl, rfl, hD, hkl, hN⟩ e0 hT S
    obtain ⟨x, hx, tx, rfl⟩ := All.get S.g.1.2 hb
    obtain ⟨rr, hrr, hst⟩ := All.get S.g.2.2 ha
    unfold tR at hrr
    rw [List.getElem?_map, Option.map_eq_some_iff] at hrr
    obtain ⟨row, hrow, rfl⟩ := hrr
    obtain ⟨hrl, wd, tl, rfl, hwd⟩ := hh i row hrow
    refine PySem.wpAny_assign_Tuple hA.hd hT (by rfl) (by rfl) fun h' he => ?_
    have S := S.ext (s' := { s₃ with heap := h' }) ⟨_, _, rfl⟩ (fun b o e => he b o (Nat.ne_of_lt (Heap.lt_size e)) e)
    refine assignInOrder_cons (PySem.wpAny_assign_Name (sto S fun s₄ S => assignInOrder_cons (PySem.wpAny_assign_Name (sto S fun s₅ S => assignInOrder_nil ?_))))
    refine wpAny_execs_cons (wpAny_Expr ?_ (by rfl) (by rfl))
    refine Call_ (nm_gsetitem S.b (callD (d_setitem _) (args_cons (rd S rfl (args_cons (Subscript_ (rd S rfl (wpAny_Constant_int ?_))))))))
    have S := S.tk (s₅.toks + 1)
    obtain ⟨rr', hrr', hst'⟩ := All.get S.g.2.2 ha
    have e2 : rr' = (wd :: tl).map T := by
      unfold tR at hrr'
      rw [List.getElem?_map, hrow] at hrr'
      exact (Option.some.inj hrr').symm
    subst e2
    obtain ⟨us0, hul, hua⟩ := hst'
    have husz : us0.length = (wd :: tl).length := by have := paired_len hua; simpa using this
    obtain ⟨u0, hu0, t₈, rfl⟩ := All.at (i := 0) hua (show ((wd :: tl).map T)[0]? = some (T wd) by rfl)
    refine itemTail (k := 0) (s := { s₅ with toks := s₅.toks + 1 }) hul hu0 (by rw [husz]; omega) ?_
    refine args_cons (menu3 S fun Γ' s₆ hd S => wpAny_BinOp (wpAny_BinOp (rd S rfl (kint S fun s₇ t₇ S => PyProof.Rows.floordiv_int (by decide) (kint (S.tk _) fun s₈ t₈ S => PyProof.Rows.mod_int (by decide) ?_) (.inl (PyProof.noPylong_small (by decide)))))))
    obtain ⟨k, hk, hm⟩ := pick3_get (ms := noteM) rfl (x.fdiv 30)
    rw [hk]
    refine ⟨k, _, _, rfl, S.tk _, noteM_eq ▸ hm, fun tn s₉ S => args_nil ?_⟩
    have S := hd _ S
    refine ⟨S.b, c_setitem (k := T wd) ⟨_, rfl⟩ ?_ hD (by omega) S.b hA (by omega) fun s' o' sm exb ho' hD' => ?_⟩
    · have : (d, Held.pin o) ∈ (C ++ [(d, Held.pin o)]) ++ pn := List.mem_append_left _ (List.mem_append_right _ (.head _))
      exact S.cells _ this
    · rw [List.append_assoc] at S
      obtain ⟨hh', tk', rfl⟩ := sm
      have S := St.setMid (C := C) (c := d) (x := .pin o) (B := pn) (x' := .pin o') (tk := tk') S ho' exb
      refine wpAny_execs_nil ⟨.inl rfl, C ++ [(d, .pin o')], [], _, _, by rw [List.append_assoc]; exact S.only [(Str.ofString "notes", .ref d), (Str.ofString "numbers", nv), (Str.ofString "total", .int tot t), (Str.ofString "drawn", dv)] ⟨rfl, rfl, rfl, rfl, trivial⟩, o', _, rfl, rfl, rfl, rfl, hD', Nat.le_trans (stored_length_le _ _ _) (by omega), ?_⟩
      intro j rj xj hj hrj hxj
      rw [valueAt_stored]
      by_cases hji : j = i
      · subst hji
        rw [hrow] at hrj; cases hrj
        rw [hx] at hxj; cases hxj
        exact ⟨_, if_pos rfl, _, rfl⟩
      · obtain ⟨v, hv, hvs⟩ := hN j rj xj (by omega) hrj hxj
        refine ⟨v, ?_, hvs⟩
        rw [if_neg, hv]
        intro q
        have q := T_inj q
        obtain ⟨_, y, tl', rfl, hy⟩ := hh j rj hrj
        simp only [List.headD_cons] at q
        rw [q, hwd] at hy
        simp at hy; omega
  · rintro _ _ _ _ s₉ ⟨o, kvs, rfl, rfl, rfl, rfl, hD, hkl, hN⟩ S
    exact h d o kvs s₉ hD hN (S.only _ ⟨rfl, rfl, rfl, trivial⟩)
end
end Mine
end

section
open PySem PySem.W PyProof.Rows PySem.Calls PySem.SeqAt PySem.StrLaws PySem.Builtin PySem.Builtin.Str
set_option Elab.async false
set_option maxRecDepth 100000
set_option linter.unusedVariables false
set_option maxHeartbeats 4000000
namespace Mine
section
variable {r : Bool} {prog : Program} {w : World} {A : Around} {E : Value → Shared → Prop} {s₀ s s' : Shared} {n : Nat} {L : Addr} {C : List (Addr × Held)} {O : List (Addr × List Value)} {loc : List (Str × Value)} {Γ : Pred} {env : Env} {Q : Value → Shared → Prop}

/-- the notes stand in the dict -/
def InNotes (kvs : List (Str × Value)) (note : List Nat → List Nat) (drawn : RW) : Prop := ∀ r ∈ drawn, ∀ x ∈ r, note x ∈ noteM ∧ ∃ v, valueAt kvs (T x) = some v ∧ IsStr v (T (note x))
theorem names_pre {kvs : List (Str × Value)} {note : List Nat → List Nat} {rs : RW} (h : RowsOk note rs) (hN : InNotes kvs note rs) :
    ∀ r ∈ rs, Small r ∧ ∃ x t, r = x :: t ∧ ∃ v, valueAt kvs (T x) = some v ∧ IsStr v (T (note x)) ∧ (note x).length ≤ 100 := by
  intro r hr
  have ho := h.all r hr
  refine ⟨ho.small, ?_⟩
  cases r with
  | nil => exact absurd rfl ho.ne
  | cons x t =>
    obtain ⟨h1, v, h2, h3⟩ := hN _ hr x (.head _)
    exact ⟨x, t, rfl, v, h2, h3, by have := (note_char h1).2.2.1; omega⟩

/-- the line of rows, read back -/
theorem readBack {line : Value} {note : List Nat → List Nat} {rs : RW} {x : Int} (hl : IsStr line (T (lineOf (rs.map (nameOf note)) x))) (ho : RowsOk note rs) (hA : Lv n A) (hn : n ≤ 10) {env : Env} {e : Expr} {p1 p2 pos pos' : Pos}
    (S : St r w s₀ L C O loc Γ s) (he : ∀ (Q : Value → Shared → Prop), Q line s → wpAny (model prog w) A (eval e env) Q E s)
    (h : ∀ v s', St r w s₀ L C O loc Γ s' → Sm s s' → Ext s.heap s'.heap → Byts v ((rs.map (nameOf note)).map B8) (Old s.heap) s'.heap → Q v s')
    (hs : starEach [e] env = [(false, eval e env)] := by rfl)
    (hg : env.globals = mainGlobals := by rfl) (hk : env.scope.kind = .function := by rfl) (hx : env.kindOf (Str.ofString "ParseFlags") = some .globalImplicit := by rfl) (hx' : env.kindOf (Str.ofString "_law_octets") = some .globalImplicit := by rfl) :
    wpAny (model prog w) A (eval (.Call (.Name (Str.ofString "ParseFlags") p1) [.Call (.Name (Str.ofString "_law_octets") p2) [e] [] pos'] [] pos) env) Q E s := by
  obtain ⟨hc, hz⟩ := ho.line x
  refine Call_ (nm_gParseFlags S.b (callD (d_parse _) (args_cons (Call_ (nm_gL_octets S.b (callD (d_octets _) (args_cons (he _ (args_nil ⟨S.b, ?_⟩)) (by rw [hs]; rfl)) (by rw [hs]; rfl)) hg hk hx')))) hg hk hx)
  refine c_octets hl (fun c q => by have := (hc c q).1; omega) (by omega) S.b hA (by omega) fun v s₁ sm ex hv => args_nil ?_
  have S₁ := S.ext sm ex
  refine ⟨S₁.b, c_parse hv (fun c q => ⟨by have := (hc c q).1; omega, (hc c q).2⟩) (by omega) (.inr (ho.parse x)) S₁.b hA (by omega) fun v' s₂ sm' ex' hv' => ?_⟩
  exact h v' s₂ (S₁.ext sm' ex') (sm.trans sm') (ex.trans ex') ((Byts.fa _ _).grow _ _ _ (fun b hb => .inl (hb.ext ex)) hv')

def GC (tv mv : Value) (nms : List (List Nat)) (G : Pred) : Pred := fun X h => Byts tv (nms.map B8) X h ∧ Strs mv (nms.map T) X h ∧ G X h
theorem GC.fa (tv mv : Value) (nms : List (List Nat)) {G : Pred} (g : Fa G) : Fa (GC tv mv nms G) := (Byts.fa _ _).and ((Strs.fa _ _).and g)

theorem law_C {dv : Value} {nv : Value} {nvs dvs : List Value} {ns : List Int} {drawn : RW} {tot : Int} {t : Tok} {d : Addr} {o : Obj} {kvs : List (Str × Value)} {note : List Nat → List Nat} {Q : Flow → Shared → Prop} (hA : Lv n A) (hn : n ≤ 10)
    (ho : RowsOk note drawn) (hD : Dob prog w o kvs) (hN : InNotes kvs note drawn)
    (S : St true w s₀ L (C ++ [(d, .pin o)]) [] [(Str.ofString "notes", .ref d), (Str.ofString "total", .int tot t), (Str.ofString "drawn", dv)] (GA nv nvs ns dv dvs drawn) s)
    (h : ∀ tv mv tt s', St true w s₀ L (C ++ [(d, .pin o)]) [] [(Str.ofString "told", tv), (Str.ofString "names", mv), (Str.ofString "text", .str (T (lineOf (drawn.map (nameOf note)) tot)) tt), (Str.ofString "notes", .ref d), (Str.ofString "total", .int tot t), (Str.ofString "drawn", dv)]
      (GC tv mv (drawn.map (nameOf note)) (GA nv nvs ns dv dvs drawn)) s' → wpAny (model prog w) A (execs ((bodyAt 20).drop 8) (lawEnv L)) Q E s') :
    wpAny (model prog w) A (execs ((bodyAt 20).drop 5) (lawEnv L)) Q E s := by
  have hfew := ho.few
  have fa := S.fa
  refine wpAny_execs_cons (wpAny_Assign_Name (Call_ (nm_gL_names S.b (callD (d_names _) (args_cons (rd S rfl (args_cons (rd S rfl (args_nil ⟨S.b, ?_⟩)))))))))
  have hget : s.heap.get? d = some o := S.cells (d, .pin o) (List.mem_append_right _ (.head _))
  refine c_names (rs := drawn) ⟨dvs, S.g.2⟩ rfl (hD _ _ hget).mapOf (names_pre ho hN) (by omega) S.b hA (by omega) fun mv s₁ sm ex hmv => ?_
  have Sb := S
  have S := S.ext sm ex
  have S := S.add ((Strs.fa mv _).fz _) (Sb.fresh (Strs.fa mv _) hmv)
  have S := S.drop (Γ' := fun X h => Strs mv ((drawn.map (nameOf note)).map T) X h ∧ GA nv nvs ns dv dvs drawn X h) ((Strs.fa _ _).and fa) fun X h g => ⟨Fz.out (Strs.fa _ _) g.1, g.2⟩
  refine sto S fun s₂ S => ?_
  refine wpAny_execs_cons (wpAny_Assign_Name (Call_ (nm_gL_line S.b (callD (d_line _) (args_cons (rd S rfl (args_cons (rd S rfl (args_nil ⟨S.b, ?_⟩)))))))))
  refine c_line S.g.1 ⟨_, rfl⟩ (by have := ho.sum; omega) (by simp; omega) S.b hA (by omega) fun lv s₃ sm ex hlv => ?_
  obtain ⟨tt, rfl⟩ := hlv
  have S := S.ext sm ex
  refine sto S fun s₄ S => ?_
  refine wpAny_execs_cons (wpAny_Assign_Name (readBack (rs := drawn) (note := note) (x := tot) ⟨tt, rfl⟩ ho hA hn S (fun Q q => rd S rfl q) fun tv s₅ S' sm ex htv => ?_))
  have S' := S'.add ((Byts.fa tv _).fz _) (S.fresh (Byts.fa tv _) htv)
  have S' := S'.drop (Γ' := GC tv mv (drawn.map (nameOf note)) (GA nv nvs ns dv dvs drawn)) (GC.fa _ _ _ fa) fun X h g => ⟨Fz.out (Byts.fa _ _) g.1, g.2⟩
  exact sto S' fun s₆ S => h tv mv tt s₆ (S.only _ ⟨rfl, rfl, rfl, rfl, rfl, rfl, trivial⟩)
end
end Mine
end

section
open PySem PySem.W PyProof.Rows PySem.Calls PySem.SeqAt PySem.StrLaws PySem.Builtin PySem.Builtin.Str
set_option Elab.async false
set_option maxRecDepth 100000
set_option linter.unusedVariables false
set_option maxHeartbeats 4000000
namespace Mine
section
variable {r : Bool} {prog : Program} {w : World} {A : Around} {E : Value → Shared → Prop} {s₀ s s' : Shared} {n : Nat} {L : Addr} {C : List (Addr × Held)} {O : List (Addr × List Value)} {loc : List (Str × Value)} {Γ : Pred} {env : Env} {Q : Value → Shared → Prop}

theorem paired_at {F : Value → Value → Prop} : ∀ {us ys : List Value} {j : Nat} {v y : Value}, Paired F us ys → us[j]? = some v → ys[j]? = some y → F v y
  | _, _, _, _, _, .nil, e, _ => by simp at e
  | _, _, 0, _, _, .cons h _, e, f => by simp at e f; subst e; subst f; exact h
  | _, _, j + 1, _, _, .cons _ p, e, f => paired_at p (by simpa using e) (by simpa using f)
theorem Lv.in1 (h : Lv n A) (hn : n ≤ 19) : A.in1.units < cLine := by
  have := h.un; show A.units + 1 < 9900; omega
theorem Lv.lt (h : Lv n A) (hn : n ≤ 19) : A.units < cLine := by
  have := h.un; show A.units < 9900; omega

theorem law_D1 {tv mv : Value} {nms : List (List Nat)} {G : Pred} {Q : Flow → Shared → Prop} (hA : Lv n A) (hn : n ≤ 10) (hlow : ∀ x ∈ nms, (∀ c ∈ x, c < 256) ∧ x.length ≤ 1000) (hz : nms.length ≤ 1000)
    (S : St true w s₀ L C [] ((Str.ofString "told", tv) :: (Str.ofString "names", mv) :: loc) (GC tv mv nms G) s)
    (h : ∀ s', St true w s₀ L C [] ((Str.ofString "told", tv) :: (Str.ofString "names", mv) :: loc) (GC tv mv nms G) s' → wpAny (model prog w) A (execs ((bodyAt 20).drop 9) (lawEnv L)) Q E s') :
    wpAny (model prog w) A (execs ((bodyAt 20).drop 8) (lawEnv L)) Q E s := by
  obtain ⟨mvs, hml, hma⟩ := S.g.2.1
  have hmlen : mvs.length = nms.length := by have := paired_len hma; simpa using this
  refine wpAny_execs_cons (wpAny_If (wpAny_isTrue_Compare1 (rd S rfl (Call_ (nm_tuple S.b (PyProof.Rows.callWith_type1 (args_cons ?_))))) (by rfl)))
  refine compV (fun _ => true) (fun v y => ∃ x t t', v = .str (T x) t ∧ y = .bytes (B8 x) t') (cl := []) (by rfl) (by decide) (by rfl) (by decide) (by decide) ?_
  refine rd S rfl ⟨_, _, srcList hA.hd hml, by show _ ≤ 16777216; omega, S.b, fun _ _ _ _ _ _ _ _ => noTests (x := Str.empty) (v := .none), ?_, ?_⟩
  · intro C' i v s₃ E' hP _ ex T₃
    obtain ⟨xs, hxs, t, rfl⟩ := All.get hma hP
    rw [List.getElem?_map, Option.map_eq_some_iff] at hxs
    obtain ⟨x, hx, rfl⟩ := hxs
    obtain ⟨h1, h2⟩ := hlow x (List.mem_of_getElem? hx)
    refine Call_ (nm_gL_octets T₃.b (callD (d_octets _) (args_cons (rd T₃ rfl (args_nil ⟨T₃.b, ?_⟩)))))
    refine c_octets ⟨t, rfl⟩ h1 (by omega) T₃.b hA (by omega) fun v s₄ sm ex' hv => ?_
    obtain ⟨t', rfl⟩ := hv
    exact ⟨⟨x, t, t', rfl, rfl⟩, sm, ex'⟩
  · intro D s₅ ys us sm ex hD hpl hlen hP hF
    rw [filter_true] at hF
    have hus : us = mvs := same_of_get hlen hP
    subst hus
    have S := S.ext sm ex
    have hyl : us.length = ys.toList.length := hF.length
    refine args_nil (call_tuple_list hpl.isList (fun h' hk => ?_) (by show ys.size ≤ 16777216; simp at hyl; omega))
    have S := S.ext (s' := { s₅ with heap := h' }) ⟨_, _, rfl⟩ hk
    have S := S.alloc { cls := .type "tuple", data := .seq ys }
    obtain ⟨tvs, htl, hta⟩ := S.g.1
    have htlen : tvs.length = nms.length := by have := paired_len hta; simpa using this
    have hT2 : Tpl (.ref h'.objs.size) ys.toList (fun _ => False) (h'.push { cls := .type "tuple", data := .seq ys }) := ⟨_, rfl, id, { cls := .type "tuple", data := .seq ys }, Heap.get?_push_size _ rfl, rfl, 0, by simp⟩
    refine neT_eq (hA.lt (by omega)) htl hT2 (by omega) (fun j v u hv hu => ?_) (wpAny_truthy_bool ?_)
    · obtain ⟨b, hb, t1, rfl⟩ := All.get hta hv
      rw [List.getElem?_map, Option.map_eq_some_iff] at hb
      obtain ⟨x, hx, rfl⟩ := hb
      have : IsByt u (B8 x) := by
        obtain ⟨v0, hv0⟩ : ∃ v0, us[j]? = some v0 := ⟨us[j]'(by rw [hmlen]; exact (List.getElem?_eq_some_iff.mp hx).1), List.getElem?_eq_getElem _⟩
        obtain ⟨xs, hxs, t2, e2⟩ := All.get hma hv0
        rw [List.getElem?_map, hx] at hxs
        have := paired_at hF hv0 hu
        obtain ⟨x', ta, tb, e3, e4⟩ := this
        rw [e2] at e3
        injection e3 with e3 _
        have : T x = T x' := (Option.some.inj hxs).trans e3
        rw [T_inj this]; exact ⟨tb, e4⟩
      obtain ⟨t2, rfl⟩ := this
      exact eqB _ _ _
    · exact wpAny_execs_nil (h _ S)
end
end Mine
end

section
open PySem PySem.W PyProof.Rows PySem.Calls PySem.SeqAt PySem.StrLaws PySem.Builtin PySem.Builtin.Str
set_option Elab.async false
set_option maxRecDepth 100000
set_option linter.unusedVariables false
set_option maxHeartbeats 4000000
namespace Mine
theorem cut41 (l : List Nat) : ∃ p nt, l = p ++ nt ∧ 41 ∉ p ∧ (nt = [] ∨ ∃ r, nt = 41 :: r) := by
  induction l with
  | nil => exact ⟨[], [], rfl, by simp, .inl rfl⟩
  | cons c l ih =>
    by_cases h : c = 41
    · subst h; exact ⟨[], 41 :: l, rfl, by simp, .inr ⟨l, rfl⟩⟩
    · obtain ⟨p, nt, e, h1, h2⟩ := ih
      refine ⟨c :: p, nt, by rw [e]; rfl, ?_, h2⟩
      intro q
      rcases List.mem_cons.mp q with q | q
      · exact h q.symm
      · exact h1 q
section
variable {r : Bool} {prog : Program} {w : World} {A : Around} {E : Value → Shared → Prop} {s₀ s s' : Shared} {n : Nat} {L : Addr} {C : List (Addr × Held)} {O : List (Addr × List Value)} {loc : List (Str × Value)} {Γ : Pred} {env : Env} {Q : Value → Shared → Prop}

theorem law_D2 {l : List Nat} {t : Tok} {Q : Flow → Shared → Prop} (hA : Lv n A) (hn : n ≤ 10) (hl : (∀ c ∈ l, c < 128 ∧ c ≠ 10) ∧ l.length ≤ 1000) (ht : loc.lookup (Str.ofString "text") = some (.str (T l) t))
    (S : St true w s₀ L C [] loc Γ s)
    (h : ∀ s', St true w s₀ L C [] loc Γ s' → wpAny (model prog w) A (execs ((bodyAt 20).drop 10) (lawEnv L)) Q E s') :
    wpAny (model prog w) A (execs ((bodyAt 20).drop 9) (lawEnv L)) Q E s := by
  obtain ⟨hc, hz⟩ := hl
  obtain ⟨p, nt, rfl, h41, hnt⟩ := cut41 l
  simp only [List.length_append] at hz
  have hcp : ∀ c ∈ p, c < 128 ∧ c ≠ 10 := fun c q => hc c (List.mem_append_left _ q)
  refine wpAny_execs_cons (wpAny_If (wpAny_isTrue_Compare1 (Call_ (nm_gParseFlags S.b (callD (d_parse _) (args_cons (Call_ (nm_gL_octets S.b (callD (d_octets _) (args_cons (Subscript_ ?_))))))))) (by rfl)))
  refine wpAny_Call_method_lateS rfl rfl rfl (rd S ht ⟨"str", "str.split", F.plainAttrs_str, F.slot_str_split, F.type_str_split, typeIs_str _ _ _, (fun _ e => nomatch e), ?_⟩)
  refine callWith_method1 (args_cons (kstr S fun s₁ t₁ S => args_nil ?_))
  rw [show Str.ofString ")" = T [41] by decide +kernel]
  refine split1 S (by simp; omega) h41 hnt fun D l l' t' s₂ S hD hl => ?_
  subst hl
  refine wpAny_Constant_int (item_strsT hD (by decide) (by simp) (by decide) fun y t₄ e => ?_)
  have : y = T p := by simpa using e.symm
  subst this
  have S := S.tk (s₂.toks + 1)
  refine args_nil ⟨S.b, ?_⟩
  refine c_octets ⟨_, rfl⟩ (fun c q => by have := (hcp c q).1; omega) (by omega) S.b hA (by omega) fun v s₃ sm ex hv => args_nil ?_
  have S := S.ext sm ex
  refine ⟨S.b, c_parse hv (fun c q => ⟨by have := (hcp c q).1; omega, (hcp c q).2⟩) (by omega) (.inl ⟨noGood_of h41, rfl⟩) S.b hA (by omega) fun v' s₄ sm' ex' hv' => ?_⟩
  have Sb := S
  have S := S.ext sm' ex'
  obtain ⟨ws, hwl, hwa⟩ := hv'
  have hw0 : ws = [] := by cases hwa; rfl
  subst hw0
  refine tupE (args_nil ⟨by decide, fun v₅ s₅ sm ex hv₅ => ?_⟩)
  have S := S.ext sm ex
  refine neT_eq (hA.lt (by omega)) ((Tpl.fa _ _).ext ex hwl) hv₅ rfl (fun j v u hv _ => by simp at hv) (wpAny_truthy_bool ?_)
  exact wpAny_execs_nil (h _ S)

/-! ### names are read back one way only -/
theorem cut_uniq {c : Nat} : ∀ {x x' a a' : List Nat}, x ++ c :: a = x' ++ c :: a' → c ∉ x → c ∉ x' → x = x' ∧ a = a'
  | [], [], _, _, e, _, _ => by simp at e; exact ⟨rfl, e⟩
  | [], y :: x', _, _, e, _, h => by simp at e; exact absurd (e.1 ▸ List.mem_cons_self ..) h
  | y :: x, [], _, _, e, h, _ => by simp at e; exact absurd (e.1 ▸ List.mem_cons_self ..) h
  | y :: x, z :: x', _, _, e, h, h' => by
    simp only [List.cons_append, List.cons.injEq] at e
    obtain ⟨h1, h2⟩ := cut_uniq e.2 (fun q => h (.tail _ q)) (fun q => h' (.tail _ q))
    exact ⟨by rw [e.1, h1], h2⟩
theorem cut_last {c : Nat} {x x' a a' : List Nat} (e : a ++ c :: x = a' ++ c :: x') (h : c ∉ x) (h' : c ∉ x') : x = x' ∧ a = a' := by
  have e2 := congrArg List.reverse e
  simp only [List.reverse_append, List.reverse_cons, List.append_assoc, List.singleton_append] at e2
  obtain ⟨h1, h2⟩ := cut_uniq e2 (by simpa using h) (by simpa using h')
  exact ⟨List.reverse_inj.mp h1, List.reverse_inj.mp h2⟩
theorem path_inj : ∀ {a b : List (List Nat)}, (∀ x ∈ a, Wd x) → (∀ x ∈ b, Wd x) → a ≠ [] → b ≠ [] → pathOf a = pathOf b → a = b
  | [], _, _, _, h, _, _ => absurd rfl h
  | _, [], _, _, _, h, _ => absurd rfl h
  | [x], [y], _, _, _, _, e => by rw [show x = y from e]
  | [x], y :: z :: r, hx, _, _, _, e => by
    exfalso
    have : 46 ∈ x := by rw [show x = pathOf (z :: r) ++ 46 :: y from e]; simp
    exact (hx x (.head _)).dot this
  | y :: z :: r, [x], _, hx, _, _, e => by
    exfalso
    have : 46 ∈ x := by rw [show x = pathOf (z :: r) ++ 46 :: y from e.symm]; simp
    exact (hx x (.head _)).dot this
  | x :: y :: r, x' :: y' :: r', hx, hy, _, _, e => by
    obtain ⟨h1, h2⟩ := cut_last (show pathOf (y :: r) ++ 46 :: x = pathOf (y' :: r') ++ 46 :: x' from e) (hx x (.head _)).dot (hy x' (.head _)).dot
    rw [h1, path_inj (fun z hz => hx z (.tail _ hz)) (fun z hz => hy z (.tail _ hz)) (by simp) (by simp) h2]
theorem path_no58 {a : List (List Nat)} (h : ∀ x ∈ a, Wd x) : 58 ∉ pathOf a := fun hc => by
  rcases pathOf_mem hc with q | ⟨x, hx, q⟩
  · exact absurd q (by decide)
  · exact (h x hx).col q
theorem name_inj {note : List Nat → List Nat} {a b : List (List Nat)} (ha : RowOk note a) (hb : RowOk note b) (e : nameOf note a = nameOf note b) : a = b := by
  refine path_inj (fun x hx => (ha.ws x hx).wd) (fun x hx => (hb.ws x hx).wd) ha.ne hb.ne ?_
  have n1 := path_no58 fun x hx => (ha.ws x hx).wd
  have n2 := path_no58 fun x hx => (hb.ws x hx).wd
  unfold nameOf at e
  rcases (note_char ha.nt).1 with e1 | ⟨r1, e1⟩ <;> rcases (note_char hb.nt).1 with e2 | ⟨r2, e2⟩ <;> rw [e1, e2] at e
  · simpa using e
  · exfalso; rw [List.append_nil] at e; exact n1 (by rw [e]; simp)
  · exfalso; rw [List.append_nil] at e; exact n2 (by rw [← e]; simp)
  · exact (cut_uniq e n1 n2).1
theorem B8_inj {a b : List Nat} (ha : ∀ c ∈ a, c < 256) (hb : ∀ c ∈ b, c < 256) (e : B8 a = B8 b) : a = b := by
  have h1 := B8_nat ha
  have h2 := B8_nat hb
  rw [e, h2] at h1
  simpa using h1.symm
end
end Mine
end

section
open PySem PySem.W PyProof.Rows PySem.Calls PySem.SeqAt PySem.StrLaws PySem.Builtin PySem.Builtin.Str
set_option Elab.async false
set_option maxRecDepth 100000
set_option linter.unusedVariables false
set_option maxHeartbeats 4000000
namespace Mine
section
variable {r : Bool} {prog : Program} {w : World} {A : Around} {E : Value → Shared → Prop} {s₀ s s' : Shared} {n : Nat} {L : Addr} {C : List (Addr × Held)} {O : List (Addr × List Value)} {loc : List (Str × Value)} {Γ : Pred} {env : Env} {Q : Value → Shared → Prop}

/-- the chain of a flag -/
def Chained (note : List Nat → List Nat) (v : Value) (its : Array Value) : Prop := ∃ row, RowOk note row ∧ IsByt v (B8 (nameOf note row)) ∧ ∀ X h, All cS its.toList (row.map T) X h

theorem chainElt {note : List Nat → List Nat} {v : Value} {row : List (List Nat)} {C' : Addr} {s₃ : Shared} {env : Env} {p1 p2 pos : Pos} {E' : Value → Shared → Prop} (hA : Lv n A) (hn : n ≤ 16) (ho : RowOk note row) (hv : IsByt v (B8 (nameOf note row)))
    (T₃ : Turn w C' (Str.ofString "flag") v s₃) (hL : env.locals = C' := by rfl)
    (hg : env.globals = mainGlobals := by rfl) (hk : env.scope.kind = .function := by rfl) (hx : env.kindOf (Str.ofString "_law_chain") = some .globalImplicit := by rfl) (hl : env.kindOf (Str.ofString "flag") = some .local := by rfl) :
    wpAny (model prog w) A (eval (.Call (.Name (Str.ofString "_law_chain") p1) [.Name (Str.ofString "flag") p2] [] pos) env) (fun y s₄ => (∃ a its, y = .ref a ∧ ¬ Old s₃.heap a ∧ s₄.heap.IsList a its ∧ Chained note v its) ∧ Sm s₃ s₄ ∧ Ext s₃.heap s₄.heap) E' s₃ := by
  subst hL
  refine Call_ (nm_gL_chain T₃.b (callD (d_chain _) (args_cons (rd T₃ rfl (args_nil ⟨T₃.b, ?_⟩) hk hl))) hg hk hx)
  obtain ⟨h1, h2, h3, h4⟩ := note_char ho.nt
  refine c_chain hv (fun z hz => (ho.ws z hz).wd) h1 h2 (by have := ho.nameLen; unfold nameOf at this; omega) T₃.b hA (by omega) fun v' s₄ sm ex ⟨vs, ⟨a, e, ha, hl⟩, pa⟩ => ?_
  exact ⟨⟨a, vs.toArray, e, ha, hl, row, ho, hv, fun X h => by simpa using (show All cS vs (row.map T) X h from pa)⟩, sm, ex⟩

theorem chains_rec {note : List Nat → List Nat} {X : Addr → Prop} {h h₀ h' : Heap} : ∀ {rs : RW} {us ys : List Value}, (∀ r ∈ rs, RowOk note r) → All cB us ((rs.map (nameOf note)).map B8) X h →
    Paired (fun v y => ∃ a its, y = .ref a ∧ ¬ Old h₀ a ∧ h'.IsList a its ∧ Chained note v its) us ys → All Strs ys (tR rs) (Old h₀) h'
  | [], _, _, _, .nil, .nil => .nil
  | r :: rs, _, _, ho, .cons ⟨t, hb⟩ p, .cons ⟨a, its, e, ha, hl, row, hr, ⟨t', hv⟩, hits⟩ q => by
    have hor := ho r (.head _)
    have hrow : row = r := by
      rw [hb] at hv
      injection hv with hv _
      have := B8_inj (fun c hc => by have := (hor.chars c hc).2.2.2.1; omega) (fun c hc => by have := (hr.chars c hc).2.2.2.1; omega) hv
      exact (name_inj hor hr this).symm
    subst hrow
    exact .cons ⟨its.toList, ⟨a, e, ha, by simpa using hl⟩, hits _ _⟩ (chains_rec (fun x hx => ho x (.tail _ hx)) p q)

/-- chains = [..], and the test behind it -/
theorem law_E {tv mv dv : Value} {dvs nvs : List Value} {ns : List Int} {nv : Value} {drawn : RW} {note : List Nat → List Nat} {l : List Nat} {t tt : Tok} {tot : Int} {d : Addr} {Q : Flow → Shared → Prop} (hA : Lv n A) (hn : n ≤ 10) (ho : RowsOk note drawn)
    (S : St true w s₀ L C [] [(Str.ofString "told", tv), (Str.ofString "names", mv), (Str.ofString "text", .str (T l) tt), (Str.ofString "notes", .ref d), (Str.ofString "total", .int tot t), (Str.ofString "drawn", dv)] (GC tv mv (drawn.map (nameOf note)) (GA nv nvs ns dv dvs drawn)) s)
    (h : ∀ cv cvs s', St true w s₀ L C [] [(Str.ofString "chains", cv), (Str.ofString "notes", .ref d), (Str.ofString "total", .int tot t)] (Rv cv cvs drawn) s' → wpAny (model prog w) A (execs ((bodyAt 20).drop 12) (lawEnv L)) Q E s') :
    wpAny (model prog w) A (execs ((bodyAt 20).drop 10) (lawEnv L)) Q E s := by
  have hfew := ho.few
  obtain ⟨tvs, htl, hta⟩ := S.g.1
  have htlen : tvs.length = drawn.length := by have := paired_len hta; simpa using this
  refine wpAny_execs_cons (asgO (s₀ := s₀) (C := C) (O := []) (loc := [(Str.ofString "told", tv), (Str.ofString "names", mv), (Str.ofString "text", .str (T l) tt), (Str.ofString "notes", .ref d), (Str.ofString "total", .int tot t), (Str.ofString "drawn", dv)]) (Γ := GC tv mv (drawn.map (nameOf note)) (GA nv nvs ns dv dvs drawn)) (cl := [])
    (fun _ => true) (Chained note) (by rfl) (by rfl) (by decide) (by rfl) (by decide) (by decide) (by rfl) (by rfl) ?_)
  refine rd S rfl ⟨_, _, S, srcTup hA.hd htl, by show _ ≤ 16777216; omega, fun _ _ _ _ _ _ _ _ => noTests (x := Str.empty) (v := .none), ?_, ?_⟩
  · intro C' i v s₃ E' hP _ ex T₃
    obtain ⟨b, hb, hv⟩ := All.get hta hP
    rw [List.map_map, List.getElem?_map, Option.map_eq_some_iff] at hb
    obtain ⟨row, hrow, rfl⟩ := hb
    exact chainElt hA (by omega) (ho.all row (List.mem_of_getElem? hrow)) hv T₃
  · intro D s' ys us S' hD hpl hlen hP hF
    have hus := same_of_get hlen hP
    subst hus
    rw [filter_true] at hF
    have pq := chains_rec ho.all hta hF
    have S' := S'.add ((Rv.fa (.ref D) ys.toList drawn).fz _) (S.fresh (Rv.fa _ _ _) ⟨⟨D, rfl, hD, by simpa using hpl.isList⟩, pq⟩)
    have hyl : ys.toList.length = drawn.length := by have := paired_len pq; simpa [tR] using this
    have g1 := Fz.out (Rv.fa _ _ _) S'.g.1
    have g2 : Rv dv dvs drawn _ _ := S'.g.2.2.2.2
    have hdl : dvs.length = drawn.length := by have := paired_len g2.2; simpa [tR] using this
    refine wpAny_execs_cons (wpAny_If (wpAny_isTrue_Compare1 (rd S' rfl (rd S' rfl (neL_eq (hA.lt (by omega)) g1.1 g2.1 (by omega) (fun j v u hv hu => ?_) (wpAny_truthy_bool ?_)))) (by rfl)))
    · obtain ⟨x, hx, hs1⟩ := All.get g1.2 hv
      obtain ⟨y, hy, hs2⟩ := All.get g2.2 hu
      rw [hx] at hy; cases hy
      exact eqStrs (hA.in1 (by omega)) hs1 hs2
    · refine wpAny_execs_nil (h (.ref D) ys.toList s' ((S'.drop (Rv.fa _ _ _) fun X h g => Fz.out (Rv.fa _ _ _) g.1).only _ ⟨rfl, rfl, rfl, trivial⟩))
end
end Mine
end

section
open PySem PySem.W PyProof.Rows PySem.Calls PySem.SeqAt PySem.StrLaws PySem.Builtin PySem.Builtin.Str
set_option Elab.async false
set_option maxRecDepth 100000
set_option linter.unusedVariables false
set_option maxHeartbeats 4000000
namespace Mine
/-- rows without the words of one -/
def without (gone : List (List Nat)) (rs : RW) : RW := rs.map fun c => c.filter fun x => !gone.contains x
def restOf (gone : List (List Nat)) (rs : RW) : RW := (without gone rs).filter fun c => decide (c ≠ [])
section
variable {r : Bool} {prog : Program} {w : World} {A : Around} {E : Value → Shared → Prop} {s₀ s s' : Shared} {n : Nat} {L : Addr} {C : List (Addr × Held)} {O : List (Addr × List Value)} {loc : List (Str × Value)} {Γ : Pred} {env : Env} {Q : Value → Shared → Prop}

theorem rowsOk_rest {note : List Nat → List Nat} {kvs : List (Str × Value)} {drawn : RW} {gone : List (List Nat)} (h : RowsOk note drawn) (hN : InNotes kvs note drawn) : RowsOk note (restOf gone drawn) ∧ InNotes kvs note (restOf gone drawn) := by
  have sub : ∀ r ∈ restOf gone drawn, r ≠ [] ∧ ∃ c ∈ drawn, r.length ≤ c.length ∧ ∀ x ∈ r, x ∈ c := by
    intro r hr
    obtain ⟨h1, h2⟩ := List.mem_filter.mp hr
    obtain ⟨c, hc, rfl⟩ := List.mem_map.mp h1
    exact ⟨by simpa using h2, c, hc, List.length_filter_le _ _, fun x hx => (List.mem_filter.mp hx).1⟩
  refine ⟨⟨?_, fun r hr => ?_⟩, fun r hr x hx => ?_⟩
  · refine Nat.le_trans (List.length_filter_le _ _) ?_
    unfold without; rw [List.length_map]; exact h.few
  · obtain ⟨hne, c, hc, hl, hsub⟩ := sub r hr
    have hoc := h.all c hc
    refine ⟨hne, Nat.le_trans hl hoc.len, fun x hx => hoc.ws x (hsub x hx), ?_⟩
    cases r with
    | nil => exact absurd rfl hne
    | cons x t => exact (hN c hc x (hsub x (.head _))).1
  · obtain ⟨hne, c, hc, hl, hsub⟩ := sub r hr
    exact hN c hc x (hsub x hx)
theorem fit_rows {note : List Nat → List Nat} {rs : RW} (h : RowsOk note rs) : Fit rs :=
  ⟨by have := h.few; omega, fun c hc => (h.all c hc).ne, fun c hc => by have := (h.all c hc).len; omega⟩

abbrev lFor : List Stmt := match ((bodyAt 20).drop 13).head? with | some (.For _ _ b _ _) => b | _ => []

theorem l_rest {cv gv : Value} {cvs : List Value} {drawn : RW} {gone : List (List Nat)} {t : Tok} {tot : Int} {d : Addr} {ks : List Value} {Dc : Addr} {i : Nat} {Q : Flow → Shared → Prop} (hA : Lv n A) (hn : n ≤ 10) (hf : Fit drawn) (hi : cvs[i]? = some gv) (hg : drawn[i]? = some gone)
    (S : St true w s₀ L ((L + 2, .cell (some gv)) :: C) O [(Str.ofString "chains", cv), (Str.ofString "notes", .ref d), (Str.ofString "total", .int tot t)] (Rv cv cvs drawn) s)
    (h : ∀ rv rvs s', St true w s₀ L ((L + 2, .cell (some gv)) :: C) O [(Str.ofString "rest", rv), (Str.ofString "chains", cv), (Str.ofString "notes", .ref d), (Str.ofString "total", .int tot t)] (fun X h => Rv rv rvs (without gone drawn) X h ∧ Rv cv cvs drawn X h) s' → wpAny (model prog w) A (execs (lFor.drop 1) (lawEnv L)) Q E s') :
    wpAny (model prog w) A (execs lFor (lawEnv L)) Q E s := by
  have hcl : cvs.length = drawn.length := by have := paired_len S.g.2; simpa [tR] using this
  have hfew := hf.few
  have hc1 : s.heap.IsCell (L + 2) (some gv) := S.cells _ (.head _)
  obtain ⟨gr, hgr, hgs⟩ := All.get S.g.2 hi
  have e1 : gr = gone.map T := by
    unfold tR at hgr
    rw [List.getElem?_map, hg] at hgr
    exact (Option.some.inj hgr).symm
  subst e1
  refine wpAny_execs_cons (asgO (s₀ := s₀) (C := (L + 2, .cell (some gv)) :: C) (O := O) (loc := [(Str.ofString "chains", cv), (Str.ofString "notes", .ref d), (Str.ofString "total", .int tot t)]) (Γ := Rv cv cvs drawn) (cl := [(Str.ofString "gone", L + 2)])
    (fun _ => true) (fun v its => ∃ row : List (List Nat), Strs v (row.map T) (fun _ => False) s.heap ∧ (∀ X h, All cS its.toList ((row.filter fun x => !gone.contains x).map T) X h))
    (by rfl) (by rfl) (by decide) (by rfl) (by decide) (by decide) (by rfl) (by rfl) ?_)
  refine rd S rfl ⟨_, _, S, srcList hA.hd S.g.1, by show _ ≤ 16777216; omega, fun _ _ _ _ _ _ _ _ => noTests (x := Str.empty) (v := .none), ?_, ?_⟩
  · intro C' i v s₃ E' hP hp ex T₃
    obtain ⟨rr, hrr, hst⟩ := All.get S.g.2 hP
    unfold tR at hrr
    rw [List.getElem?_map, Option.map_eq_some_iff] at hrr
    obtain ⟨row, hrow, rfl⟩ := hrr
    have hlen := hf.len _ (List.mem_of_getElem? hrow)
    have hst₃ := (Strs.fa _ _).ext ex hst
    obtain ⟨ws, hwl, hwa⟩ := hst₃
    have hwsz : ws.length = row.length := by have := paired_len hwa; simpa using this
    refine compV (fun u => !(gone.map T).contains (textIn u)) (fun u y => y = u) (cl := [(Str.ofString "gone", L + 2)]) (by rfl) (by decide) (by rfl) (by decide) (by decide) ?_
    refine rd T₃ rfl ⟨_, _, srcList hA.hd hwl, by show _ ≤ 16777216; omega, T₃.b, ?_, ?_, ?_⟩
    · intro C₂ j u s₄ E₂ hPu ex₄ T₄
      obtain ⟨cs, hcs, tc, rfl⟩ := All.get hwa hPu
      rw [List.getElem?_map, Option.map_eq_some_iff] at hcs
      obtain ⟨c, hc, rfl⟩ := hcs
      refine test1 (isTrue_plain (notIn hA (by omega) T₄.b (rdK (hc1.keeps (ex.trans ex₄)) (rd T₄ rfl ⟨T₄.b, _, gone, c, (Strs.fa _ _).ext (ex.trans ex₄) hgs, ⟨tc, rfl⟩, fun b s₅ sm ex' e => ?_⟩) (by rfl))))
      subst e
      refine wpAny_truthy_bool ⟨?_, T₄.sm.trans sm, ex'⟩
      show _ = !(gone.map T).contains (T c)
      rw [tcont]
    · intro C₂ j u s₄ E₂ hPu _ ex₄ T₄
      exact rd T₄ rfl ⟨rfl, T₄.sm, T₄.keep⟩
    · intro D s₄ ys us sm ex' hD hpl hlen' hP' hF
      have hus : us = ws := same_of_get hlen' hP'
      subst hus
      refine ⟨⟨D, ys, rfl, hD, hpl.isList, row, ?_, fun X h => ?_⟩, sm, ex'⟩
      · exact (Strs.fa _ _).grow _ _ _ (fun _ q => q.elim) hst
      · have hy : ys.toList = us.filter fun u => !(gone.map T).contains (textIn u) := paired_eq hF
        rw [hy, filt_map]
        refine All.filt (q := fun z => !(gone.map T).contains z) (show All cS us _ X h from hwa) fun u z _ _ ⟨t, e⟩ => ?_
        rw [e]; rfl
  · intro D s' ys us S' hD hpl hlen hP hF
    have hus : us = cvs := same_of_get hlen hP
    subst hus
    rw [filter_true] at hF
    have pq : All Strs ys.toList (tR (without gone drawn)) (Old s.heap) s'.heap := by
      have e : tR (without gone drawn) = (tR drawn).map fun rr => rr.filter fun z => !(gone.map T).contains z := by
        unfold without tR
        rw [List.map_map, List.map_map]
        refine List.map_congr_left fun c _ => ?_
        exact filt_map gone c
      rw [e]
      refine paired_comp (R' := fun v x => Strs v x (Old s.heap) s'.heap) (fun v y rr hy hs => ?_) hF S.g.2
      obtain ⟨a, its, rfl, ha, hl, row, hrow, hits⟩ := hy
      have e1 : rr = row.map T := strs_inj hs hrow
      rw [e1, ← filt_map]
      exact ⟨its.toList, ⟨a, rfl, ha, by simpa using hl⟩, hits _ _⟩
    have fa := S'.fa
    have S' := S'.add ((Rv.fa (.ref D) ys.toList (without gone drawn)).fz _) (S.fresh (Rv.fa _ _ _) ⟨⟨D, rfl, hD, by simpa using hpl.isList⟩, pq⟩)
    refine h _ ys.toList _ (S'.drop ((Rv.fa _ _ _).and fa) fun X h g => ⟨Fz.out (Rv.fa _ _ _) g.1, g.2⟩)
end
end Mine
end

section
open PySem PySem.W PyProof.Rows PySem.Calls PySem.SeqAt PySem.StrLaws PySem.Builtin PySem.Builtin.Str
set_option Elab.async false
set_option maxRecDepth 100000
set_option linter.unusedVariables false
set_option maxHeartbeats 4000000
namespace Mine
def lenIn (h : Heap) : Value → Nat
  | .ref a => match h.get? a with
    | some o => match o.data with
      | .seq xs _ => xs.size
      | _ => 0
    | none => 0
  | _ => 0
theorem lenIn_lst {X : Addr → Prop} {h : Heap} {v : Value} {vs : List Value} (p : Lst v vs X h) : lenIn h v = vs.length := by
  obtain ⟨a, rfl, _, o, ho, _, n, hd⟩ := p
  show (match h.get? a with | some o => _ | none => _) = _
  rw [ho]
  show (match o.data with | .seq xs _ => _ | _ => _) = _
  rw [hd]
  simp
section
variable {r : Bool} {prog : Program} {w : World} {A : Around} {E : Value → Shared → Prop} {s₀ s s' : Shared} {n : Nat} {L : Addr} {C : List (Addr × Held)} {O : List (Addr × List Value)} {loc : List (Str × Value)} {Γ : Pred} {env : Env} {Q : Value → Shared → Prop}

theorem l_line {cv gv rv : Value} {cvs rvs : List Value} {drawn rest : RW} {note : List Nat → List Nat} {t : Tok} {tot : Int} {d : Addr} {o : Obj} {kvs : List (Str × Value)} {ks : List Value} {Dc : Addr} {B : List (Addr × Held)} {Q : Flow → Shared → Prop} (hA : Lv n A) (hn : n ≤ 10) (hr : rest.length ≤ 900)
    (ho : RowsOk note (rest.filter fun c => decide (c ≠ []))) (hN : InNotes kvs note (rest.filter fun c => decide (c ≠ []))) (hD : Dob prog w o kvs) (hks : ks.length ≤ 1000) (hlen : ∀ c ∈ rest, c.length ≤ 1000)
    (S : St true w s₀ L ((L + 2, .cell (some gv)) :: (L + 1, .cell (some (.ref Dc))) :: (d, .pin o) :: B) [(Dc, ks)] [(Str.ofString "rest", rv), (Str.ofString "chains", cv), (Str.ofString "notes", .ref d), (Str.ofString "total", .int tot t)] (fun X h => Rv rv rvs rest X h ∧ Rv cv cvs drawn X h) s)
    (h : ∀ tt s' x, St true w s₀ L ((L + 2, .cell (some gv)) :: (L + 1, .cell (some (.ref Dc))) :: (d, .pin o) :: B) [(Dc, ks)] [(Str.ofString "line", .str (T (lineOf ((rest.filter fun c => decide (c ≠ [])).map (nameOf note)) x)) tt), (Str.ofString "chains", cv), (Str.ofString "notes", .ref d), (Str.ofString "total", .int tot t)] (Rv cv cvs drawn) s' →
      wpAny (model prog w) A (execs (lFor.drop 2) (lawEnv L)) Q E s') :
    wpAny (model prog w) A (execs (lFor.drop 1) (lawEnv L)) Q E s := by
  have fa : Fa (Rv cv cvs drawn) := Rv.fa _ _ _
  have hrl : rvs.length = rest.length := by have := paired_len S.g.1.2; simpa [tR] using this
  refine wpAny_execs_cons (wpAny_Assign_Name (Call_ (nm_gL_line S.b (callD (d_line _) (args_cons (Call_ (nm_gL_names S.b (callD (d_names _) (args_cons ?_)))))))))
  refine compV (fun v => decide (lenIn s.heap v ≠ 0)) (fun v y => y = v) (cl := []) (by rfl) (by decide) (by rfl) (by decide) (by decide) ?_
  refine rd S rfl ⟨_, _, srcList hA.hd S.g.1.1, by show _ ≤ 16777216; omega, S.b, ?_, ?_, ?_⟩
  · intro C' i v s₃ E' hP ex T₃
    obtain ⟨rr, hrr, us, hul, hua⟩ := All.get S.g.1.2 hP
    have el := lenIn_lst hul
    refine test1 (wpAny_isTrue_Compare1 (rd T₃ rfl (listE (args_nil ⟨by decide, fun v₄ s₄ sm ex' hv₄ => ?_⟩))) (by rfl))
    have hul₄ := (Lst.fa _ _).ext (ex.trans ex') hul
    by_cases hz : us.length = 0
    · have : us = [] := List.length_eq_zero_iff.mp hz
      subst this
      refine neL_eq (hA.lt (by omega)) hul₄ hv₄ rfl (fun j v u hv _ => by simp at hv) (wpAny_truthy_bool ⟨?_, sm, ex'⟩)
      rw [el]; rfl
    · refine neL_len (hA.lt (by omega)) hul₄ hv₄ (by simpa using hz) (wpAny_truthy_bool ⟨?_, sm, ex'⟩)
      rw [el]; simpa using hz
  · intro C' i v s₃ E' hP _ ex T₃
    exact rd T₃ rfl ⟨rfl, T₃.sm, T₃.keep⟩
  · intro D s₅ ys us sm ex hDn hpl hlen' hP hF
    have hus : us = rvs := same_of_get hlen' hP
    subst hus
    have hy : ys.toList = us.filter fun v => decide (lenIn s.heap v ≠ 0) := paired_eq hF
    have pf : All Strs ys.toList (tR (rest.filter fun c => decide (c ≠ []))) (Xs ((L + 2, .cell (some gv)) :: (L + 1, .cell (some (.ref Dc))) :: (d, .pin o) :: B) [(Dc, ks)]) s₅.heap := by
      have e : tR (rest.filter fun c => decide (c ≠ [])) = (tR rest).filter fun rr => decide (rr ≠ []) := by
        unfold tR
        rw [List.filter_map]
        congr 1
        refine filt_same fun c _ => ?_
        cases c <;> simp
      rw [hy, e]
      refine (All.fa Strs.fa _ _).ext ex (All.filt S.g.1.2 fun v rr _ _ ⟨ws, hwl, hwa⟩ => ?_)
      have := paired_len hwa
      rw [lenIn_lst hwl, this]
      cases rr <;> simp
    have S₅ := S.ext sm ex
    have hDl : Lst (.ref D) ys.toList (fun _ => False) s₅.heap := ⟨D, rfl, id, by simpa using hpl.isList⟩
    have hget : s₅.heap.get? d = some o := S₅.cells (d, .pin o) (.tail _ (.tail _ (.head _)))
    have hrows : Rows (.ref D) (tR (rest.filter fun c => decide (c ≠ []))) (fun _ => False) s₅.heap := ⟨ys.toList, hDl, (All.fa Strs.fa _ _).grow _ _ _ (fun _ q => q.elim) pf⟩
    refine args_cons (rd S₅ rfl (args_nil ⟨S₅.b, ?_⟩))
    have hfew := ho.few
    refine c_names (rs := rest.filter fun c => decide (c ≠ [])) hrows rfl (hD _ _ hget).mapOf (names_pre ho hN) (by omega) S₅.b hA (by omega) fun mv s₆ sm₆ ex₆ hmv => ?_
    have S₆ := S₅.ext sm₆ ex₆
    have S₆ := S₆.add ((Strs.fa mv _).fz _) (S₅.fresh (Strs.fa mv _) hmv)
    refine args_cons (wpAny_BinOp (wpAny_BinOp (rd S₆ rfl (Call_ (nm_len S₆.b (callWith_builtin1 (args_cons (rdC S₆ (.tail _ (.head _)) (args_nil (lenL S₆ (S₆.owned (.head _)) (by omega) fun s₇ t₇ S₇ => ?_)) (by rfl)))))))))
    refine PyProof.Rows.add_int (kint (S₇.tk _) fun s₈ t₈ S₈ => PyProof.Rows.add_int (args_nil ?_))
    have S₈ := S₈.tk (s₈.toks + 1)
    refine ⟨S₈.b, c_line (Fz.out (Strs.fa _ _) S₈.g.1) ⟨_, rfl⟩ (by have := ho.sum; omega) (by rw [List.length_map]; omega) S₈.b hA (by omega) fun lv s₉ sm₉ ex₉ hlv => ?_⟩
    obtain ⟨tt, rfl⟩ := hlv
    have S₉ := S₈.ext sm₉ ex₉
    have S₉ := S₉.drop (Γ' := Rv cv cvs drawn) fa fun X h g => g.2.2
    exact sto S₉ fun sa S => h tt sa _ (S.only _ ⟨rfl, rfl, rfl, rfl, trivial⟩)
end
end Mine
end

section
open PySem PySem.W PyProof.Rows PySem.Calls PySem.SeqAt PySem.StrLaws PySem.Builtin PySem.Builtin.Str
set_option Elab.async false
set_option maxRecDepth 100000
set_option linter.unusedVariables false
set_option maxHeartbeats 4000000
namespace Mine
section
variable {r : Bool} {prog : Program} {w : World} {A : Around} {E : Value → Shared → Prop} {s₀ s s' : Shared} {n : Nat} {L : Addr} {C : List (Addr × Held)} {O : List (Addr × List Value)} {loc : List (Str × Value)} {Γ : Pred} {env : Env} {Q : Value → Shared → Prop}

theorem l_cut {c2 c3 : Addr × Held} {cv : Value} {cvs : List Value} {drawn rs : RW} {note : List Nat → List Nat} {t tt : Tok} {tot x : Int} {d : Addr} {ks : List Value} {Dc : Addr} {B : List (Addr × Held)} {Q : Flow → Shared → Prop} (hA : Lv n A) (hn : n ≤ 10)
    (ho : RowsOk note rs) (hks : ks.length ≤ 1000)
    (S : St true w s₀ L (c2 :: (L + 1, .cell (some (.ref Dc))) :: B) [(Dc, ks)] [(Str.ofString "line", .str (T (lineOf (rs.map (nameOf note)) x)) tt), (Str.ofString "chains", cv), (Str.ofString "notes", .ref d), (Str.ofString "total", .int tot t)] (Rv cv cvs drawn) s)
    (h : ∀ k s', IsInt k (worthOf rs) → St true w s₀ L (c2 :: (L + 1, .cell (some (.ref Dc))) :: B) [(Dc, ks ++ [k])] [(Str.ofString "chains", cv), (Str.ofString "notes", .ref d), (Str.ofString "total", .int tot t)] (Rv cv cvs drawn) s' → Q .next s') :
    wpAny (model prog w) A (execs (lFor.drop 2) (lawEnv L)) Q E s := by
  have hfew := ho.few
  refine appendStmt (rdC S (.tail _ (.head _)) ⟨Dc, ks.toArray, rfl, S.own _ (.head _), Call_ (nm_gL_worth S.b (callD (d_worth _) (args_cons ?_)))⟩ (by rfl))
  refine compO (fun _ => true) (Chained note) (cl := []) (by rfl) (by decide) (by rfl) (by decide) (by decide) ?_
  refine readBack (rs := rs) (note := note) (x := x) ⟨tt, rfl⟩ ho hA hn S (fun Q q => rd S rfl q) fun tv s₁ S₁ sm ex ⟨tvs, htl, hta⟩ => ?_
  have htlen : tvs.length = rs.length := by have := paired_len hta; simpa using this
  refine ⟨_, _, srcTup hA.hd htl, by show _ ≤ 16777216; omega, S₁.b, fun _ _ _ _ _ _ _ _ => noTests (x := Str.empty) (v := .none), ?_, ?_⟩
  · intro C' i v s₃ E' hP _ ex T₃
    obtain ⟨b, hb, hv⟩ := All.get hta hP
    rw [List.map_map, List.getElem?_map, Option.map_eq_some_iff] at hb
    obtain ⟨row, hrow, rfl⟩ := hb
    exact chainElt hA (by omega) (ho.all row (List.mem_of_getElem? hrow)) hv T₃
  · intro D s' ys us sm' ex' hD hpl hlen hP hF
    have hus := same_of_get hlen hP
    subst hus
    rw [filter_true] at hF
    have pq := chains_rec ho.all hta hF
    have S₂ := S₁.ext sm' ex'
    refine args_nil ⟨S₂.b, c_worth (X := Old s₁.heap) ⟨ys.toList, ⟨D, rfl, hD, by simpa using hpl.isList⟩, pq⟩ (fit_rows ho) S₂.b hA (by omega) fun v s₃ sm ex hv => ?_⟩
    have S₃ := S₂.ext sm ex
    refine app1 S₃ (by omega) fun s₄ S => wpAny_execs_nil (h v s₄ hv (S.only _ ⟨rfl, rfl, rfl, trivial⟩))

/-- what the loop gathers -/
def cutsOf (drawn : RW) (i : Nat) : List Int := (drawn.take i).map fun gone => worthOf (restOf gone drawn)
theorem cutsOf_snoc {drawn : RW} {i : Nat} {g : List (List Nat)} (h : drawn[i]? = some g) : cutsOf drawn (i + 1) = cutsOf drawn i ++ [worthOf (restOf g drawn)] := by
  unfold cutsOf
  rw [List.take_add_one, h]; simp

theorem law_F {cv : Value} {cvs : List Value} {drawn : RW} {note : List Nat → List Nat} {t : Tok} {tot : Int} {d : Addr} {o : Obj} {kvs : List (Str × Value)} {v2 v1 : Option Value} {Q : Flow → Shared → Prop} (hA : Lv n A) (hn : n ≤ 10)
    (ho : RowsOk note drawn) (hN : InNotes kvs note drawn) (hD : Dob prog w o kvs)
    (S : St true w s₀ L [(L + 2, .cell v2), (L + 1, .cell v1), (d, .pin o)] [] [(Str.ofString "chains", cv), (Str.ofString "notes", .ref d), (Str.ofString "total", .int tot t)] (Rv cv cvs drawn) s)
    (h : ∀ Dc ks v2 s', ks.length ≤ 5 → (∀ X h, All cI ks (cutsOf drawn drawn.length) X h) → St true w s₀ L [(L + 2, .cell v2), (L + 1, .cell (some (.ref Dc))), (d, .pin o)] [(Dc, ks)] [(Str.ofString "chains", cv), (Str.ofString "notes", .ref d), (Str.ofString "total", .int tot t)] (Rv cv cvs drawn) s' →
      wpAny (model prog w) A (execs ((bodyAt 20).drop 14) (lawEnv L)) Q E s') :
    wpAny (model prog w) A (execs ((bodyAt 20).drop 12) (lawEnv L)) Q E s := by
  have hfew := ho.few
  have hcl : cvs.length = drawn.length := by have := paired_len S.g.2; simpa [tR] using this
  refine wpAny_execs_cons (wpAny_Assign_Name (List_ (args_nil (ownNew S (by simp) fun Dc s₁ S => stoC2 S (fun s₂ S => ?_) (by rfl)))))
  refine wpAny_execs_cons (forV (s₀ := s₀) (fun i C' O' loc' Γ' => ∃ ov ks, C' = [(L + 2, .cell ov), (L + 1, .cell (some (.ref Dc))), (d, .pin o)] ∧ O' = [(Dc, ks)] ∧ loc' = [(Str.ofString "chains", cv), (Str.ofString "notes", .ref d), (Str.ofString "total", .int tot t)] ∧ Γ' = Rv cv cvs drawn ∧
    ks.length ≤ i ∧ (∀ X h, All cI ks (cutsOf drawn i) X h)) ?_)
  refine rd S rfl ⟨cvs.length, (fun i u => cvs[i]? = some u), _, _, _, _, S, ⟨v2, [], rfl, rfl, rfl, rfl, Nat.le_refl _, fun _ _ => .nil⟩, feedList hA.hd S.g.1, ?_, ?_⟩
  · rintro pn i u _ _ _ _ s₀' s₅ E' hi hP ⟨ov, ks, rfl, rfl, rfl, rfl, hkl, hks⟩ e0 S
    have hil : i < drawn.length := by omega
    obtain ⟨g, hg⟩ : ∃ g, drawn[i]? = some g := ⟨_, List.getElem?_eq_getElem hil⟩
    obtain ⟨h1, h2⟩ := rowsOk_rest (gone := g) ho hN
    refine PySem.wpAny_assign_Name (stoC1 S (fun s₆ S => ?_) (by rfl))
    refine l_rest (ks := ks) (Dc := Dc) hA hn (fit_rows ho) hP hg S fun rv rvs s₇ S => ?_
    refine l_line (note := note) (kvs := kvs) (rest := without g drawn) hA hn (by unfold without; rw [List.length_map]; omega) h1 h2 hD (by omega) (fun c hc => ?_) S fun tt s₈ x S => ?_
    · obtain ⟨c', hc', rfl⟩ := List.mem_map.mp hc
      have := (ho.all c' hc').len
      exact Nat.le_trans (List.length_filter_le _ _) (by omega)
    · refine l_cut (c3 := (d, .pin o)) hA hn h1 (by omega) S fun k s₉ hk S => ?_
      refine ⟨.inl rfl, [(L + 2, .cell (some u)), (L + 1, .cell (some (.ref Dc))), (d, .pin o)], _, _, _, S, some u, ks ++ [k], rfl, rfl, rfl, rfl, by simp; omega, fun X h => ?_⟩
      rw [cutsOf_snoc hg]
      exact All.app (hks X h) (.cons hk .nil)
  · rintro _ _ _ _ s₉ ⟨ov, ks, rfl, rfl, rfl, rfl, hkl, hks⟩ S
    rw [hcl] at hks
    exact h Dc ks ov s₉ (by omega) hks S
end
end Mine
end

section
open PySem PySem.W PyProof.Rows PySem.Calls PySem.SeqAt PySem.StrLaws PySem.Builtin PySem.Builtin.Str
set_option Elab.async false
set_option maxRecDepth 100000
set_option linter.unusedVariables false
set_option maxHeartbeats 4000000
namespace Mine
section
variable {r : Bool} {prog : Program} {w : World} {A : Around} {E : Value → Shared → Prop} {s₀ s s' : Shared} {n : Nat} {L : Addr} {C : List (Addr × Held)} {O : List (Addr × List Value)} {loc : List (Str × Value)} {Γ : Pred} {env : Env} {Q : Value → Shared → Prop}

/-- not_(contains(a, k)), of numbers -/
theorem notInI {ea eb : Expr} {p p' pos pos' : Pos} (hA : Lv n A) (hn : n ≤ 19) (B : Base w s.heap)
    (h : wpAny (model prog w) A (eval ea env) (fun va s₁ => wpAny (model prog w) A (eval eb env) (fun vb s₂ => Base w s₂.heap ∧ ∃ (X : Addr → Prop) (xs : List Int) (x : Int), Ints va xs X s₂.heap ∧ IsInt vb x ∧ Back s₂ (fun v _ => v = .bool (!xs.contains x)) Q) E s₁) E s)
    (he1 : starEach [ea, eb] env = (false, eval ea env) :: starEach [eb] env := by rfl) (he2 : starEach [eb] env = [(false, eval eb env)] := by rfl)
    (hg : env.globals = mainGlobals := by rfl) (hk : env.scope.kind = .function := by rfl) (hx : env.kindOf (Str.ofString "contains") = some .globalImplicit := by rfl) (hx' : env.kindOf (Str.ofString "not_") = some .globalImplicit := by rfl) :
    wpAny (model prog w) A (eval (.Call (.Name (Str.ofString "not_") p) [.Call (.Name (Str.ofString "contains") p') [ea, eb] [] pos'] [] pos) env) Q E s := by
  refine notE hA hn B ?_ (by rfl) hg hk hx'
  refine Call_ (nm_gcontains B (callD (d_contains _) (args_cons (wpAny_mono h (fun va s₁ h₁ => args_cons (wpAny_mono h₁ (fun vb s₂ h₂ => args_nil ⟨h₂.1, ?_⟩) fun _ _ e => e) (by rw [he2]; rfl)) fun _ _ e => e) he1) he1) hg hk hx)
  obtain ⟨B₂, X, xs, x, h1, h2, h3⟩ := h₂
  exact c_inI B₂ hA hn h1 h2 fun v s₃ sm ex e => ⟨B₂.ext ex, _, e, fun v' s₄ sm' ex' e' => h3 v' s₄ (sm.trans sm') (ex.trans ex') e'⟩

def numOf : Value → Int
  | .int x _ => x
  | _ => 0
/-- what the law says of numbers -/
structure Mex (W : Int) (cuts : List Int) : Prop where
  nat : ∃ m : Nat, W = m ∧ m ≤ 1000000
  out : cuts.contains W = false
  all : ∀ j : Nat, (j : Int) < W → cuts.contains (j : Int) = true

theorem law_G {cv : Value} {cvs : List Value} {drawn : RW} {t : Tok} {tot : Int} {d : Addr} {o : Obj} {ks : List Value} {Dc : Addr} {cuts : List Int} {v2 : Option Value} {B : List (Addr × Held)} {Q : Flow → Shared → Prop} (hA : Lv n A) (hn : n ≤ 10)
    (hf : Fit drawn) (hkl : ks.length ≤ 5) (hks : ∀ X h, All cI ks cuts X h) (hm : Mex (worthOf drawn) cuts)
    (S : St true w s₀ L ((L + 2, .cell v2) :: (L + 1, .cell (some (.ref Dc))) :: B) [(Dc, ks)] [(Str.ofString "chains", cv), (Str.ofString "notes", .ref d), (Str.ofString "total", .int tot t)] (Rv cv cvs drawn) s)
    (h : ∀ s', Sm s₀ s' → Ext s₀.heap s'.heap → Q (.ret (.bool true)) s') :
    wpAny (model prog w) A (execs ((bodyAt 20).drop 14) (lawEnv L)) Q E s := by
  obtain ⟨m, hW, hm6⟩ := hm.nat
  refine wpAny_execs_cons (wpAny_Assign_Name (Call_ (nm_gL_worth S.b (callD (d_worth _) (args_cons (rd S rfl (args_nil ⟨S.b, ?_⟩)))))))
  refine c_worth ⟨cvs, S.g⟩ hf S.b hA (by omega) fun v s₁ sm ex hv => ?_
  obtain ⟨tw, rfl⟩ := hv
  have S := S.ext sm ex
  refine sto S fun s₂ S => ?_
  refine wpAny_execs_cons (wpAny_Return_some (BoolOp_and ?_))
  refine notInI hA (by omega) S.b (rdC S (.tail _ (.head _)) (rd S rfl ⟨S.b, fun _ => False, cuts, worthOf drawn, ⟨ks, S.owned (.head _), hks _ _⟩, ⟨tw, rfl⟩, fun b s₃ sm ex e => ?_⟩) (by rfl))
  rw [hm.out] at e
  subst e
  have S := S.ext sm ex
  refine wpAny_truthy_bool ?_
  show wpAny _ _ (eval _ _) _ _ _
  refine BoolOp_one (wpAny_Compare1 ?_)
  refine compV (fun v => !(cuts.contains (numOf v))) (fun u y => y = u) (cl := [(Str.ofString "cuts", L + 1)]) (by rfl) (by decide) (by rfl) (by decide) (by decide) ?_
  have hc1 : s₃.heap.IsCell (L + 1) (some (.ref Dc)) := S.cells _ (.tail _ (.head _))
  refine Call_ (nm_range S.b (PyProof.Rows.callWith_type1 (args_cons (rd S rfl (args_nil ?_)))))
  rw [hW]
  refine rangeOf S hm6 fun rg s₄ t u v S hrg => ?_
  have hc1 : s₄.heap.IsCell (L + 1) (some (.ref Dc)) := S.cells _ (.tail _ (.head _))
  have hown := S.owned (D := Dc) (vs := ks) (.head _)
  refine ⟨m, _, srcRange hA.hd hrg hm6, by show _ ≤ 16777216; omega, S.b, ?_, ?_, ?_⟩
  · rintro C' i v s₅ E' ⟨ti, rfl⟩ ex T₃
    refine test1 (isTrue_plain (notInI hA (by omega) T₃.b (rdK (hc1.keeps ex) (rd T₃ rfl ⟨T₃.b, fun _ => False, cuts, (i : Int), ⟨ks, (Lst.fa _ _).ext ex hown, hks _ _⟩, ⟨ti, rfl⟩, fun b s₆ sm ex' e => ?_⟩) (by rfl))))
    subst e
    exact wpAny_truthy_bool ⟨rfl, T₃.sm.trans sm, ex'⟩
  · rintro C' i v s₅ E' ⟨ti, rfl⟩ hp ex T₃
    exact rd T₃ rfl ⟨rfl, T₃.sm, T₃.keep⟩
  · intro D s₇ ys us sm ex hDn hpl hlen hP hF
    have S := S.ext sm ex
    have hy : ys.toList = us.filter fun v => !(cuts.contains (numOf v)) := paired_eq hF
    have hemp : ys.toList = [] := by
      rw [hy, List.filter_eq_nil_iff]
      intro v hv
      obtain ⟨j, hj, e⟩ := List.mem_iff_getElem.mp hv
      obtain ⟨ti, e2⟩ := hP j v (by rw [List.getElem?_eq_getElem hj, e])
      rw [e2]
      have := hm.all j (by rw [hW]; omega)
      show ¬ (!(cuts.contains (j : Int))) = true
      rw [this]; decide
    refine listE (args_nil ⟨by decide, fun v₈ s₈ sm ex hv₈ => ?_⟩)
    have S := S.ext sm ex
    have hDl : Lst (.ref D) [] (fun _ => False) s₇.heap := ⟨D, rfl, id, by have := hpl.isList; rw [← Array.toArray_toList (xs := ys), hemp] at this; exact this⟩
    exact eqL_eq (hA.lt (by omega)) ((Lst.fa _ _).ext ex hDl) hv₈ rfl (fun j v u hv _ => by simp at hv) (h _ S.sm S.keep)
end
end Mine
end

section
open PySem PySem.W PyProof.Rows PySem.Calls PySem.SeqAt PySem.StrLaws PySem.Builtin PySem.Builtin.Str
set_option Elab.async false
set_option maxRecDepth 100000
set_option linter.unusedVariables false
set_option maxHeartbeats 4000000
namespace Mine
/-- what the walk needs of five numbers -/
structure Lawful (ns : List Int) : Prop where
  five : ns.length = 5
  rows : (treeOf ns).length = 5
  heads : Heads (treeOf ns)
  note : ∃ note, RowsOk note (treeOf ns) ∧ ∀ kvs, Noted (treeOf ns) ns 5 kvs → InNotes kvs note (treeOf ns)
  mex : Mex (worthOf (treeOf ns)) (cutsOf (treeOf ns) (treeOf ns).length)
section
variable {r : Bool} {prog : Program} {w : World} {A : Around} {E : Value → Shared → Prop} {s₀ s s' : Shared} {n : Nat} {L : Addr} {C : List (Addr × Held)} {O : List (Addr × List Value)} {loc : List (Str × Value)} {Γ : Pred} {env : Env} {Q : Value → Shared → Prop}

theorem c_law {script : Value} {nums : List Int} {X : Addr → Prop} (hs : Ints script nums X s.heap) (hz : nums.length ≤ 1000) (hl : Lawful (pad5 nums))
    (B : Base w s.heap) (hA : Lv n A) (hn : n ≤ 9) (h : ∀ s', Sm s s' → Ext s.heap s'.heap → Q (.bool true) s') :
    wpAny (model prog w) A (call (.ref 129) [script]) Q E s := by
  have hkind : ∀ L : Addr, ∀ x ∈ [(Str.ofString "script", script)], (scopeAt 20).names.lookup x.1 = some .local ∨ ((scopeAt 20).names.lookup x.1 = some .cell ∧ ((cellsFrom (L + 1) (scopeAt 20).names []).lookup x.1).isSome = true) := by
    intro L x hx
    rw [List.mem_singleton.mp hx]; exact .inl (by rfl)
  have hloc : ∀ L : Addr, ∀ x v, [(Str.ofString "script", script)].lookup x = some v → bindL (envC 20 129 128 L).kindOf [(Str.ofString "script", script)] (fun _ => none) x = some v := by
    intro L x v e
    obtain ⟨rfl, rfl⟩ := one_lookup e
    rfl
  refine callC [(Str.ofString "script", script)] [Str.ofString "gone", Str.ofString "cuts"] [(Str.ofString "script", script)] (d_law _) B hA (by omega) (by rfl) hkind hloc (by intro L; rfl) (by decide) fun s₁ L S hA' => ?_
  have S : St true w s L [(L + 2, .cell none), (L + 1, .cell none)] [] [(Str.ofString "script", script)] none_ s₁ := S
  obtain ⟨note, hok, hin⟩ := hl.note
  have hfive : ∀ x ∈ (treeOf (pad5 nums)).map (nameOf note), (∀ c ∈ x, c < 256) ∧ x.length ≤ 1000 := fun x hx => by
    obtain ⟨r, hr, rfl⟩ := List.mem_map.mp hx
    have ho := hok.all r hr
    exact ⟨fun c hc => by have := (ho.chars c hc).2.2.2.1; omega, by have := ho.nameLen; omega⟩
  refine law_A hA' (by omega) hs hz S fun nv nvs dv dvs tot t s₂ S => ?_
  refine law_B hA' (by omega) hl.five hl.rows hl.heads S fun d o kvs s₃ hD hN S => ?_
  have hIn := hin kvs hN
  refine law_C hA' (by omega) hok hD hIn S fun tv mv tt s₄ S => ?_
  refine law_D1 hA' (by omega) hfive (by rw [List.length_map, hl.rows]; decide) S fun s₅ S => ?_
  refine law_D2 hA' (by omega) (hok.line tot) (by rfl) S fun s₆ S => ?_
  refine law_E hA' (by omega) hok S fun cv cvs s₇ S => ?_
  refine law_F hA' (by omega) hok hIn hD S fun Dc ks v2 s₈ hkl hks S => ?_
  exact law_G (d := d) (o := o) hA' (by omega) (fit_rows hok) hkl hks hl.mex S h
end
end Mine
end

section
open PySem
set_option Elab.async false
set_option maxRecDepth 100000
set_option linter.unusedVariables false
set_option maxHeartbeats 4000000
namespace Mine
/-- a tree by words and parents -/
def growP : List (List Nat × Nat) → RW := List.foldl (fun rows wp => rows ++ [wp.1 :: (rows[wp.2]?).getD []]) [[]]
def baseT (p1 p2 p3 p4 p5 : Nat) : RW := (growP [([97], p1), ([98], p2), ([99], p3), ([100], p4), ([101], p5)]).drop 1
def mexB (rs : RW) : Bool :=
  let W := worthOf rs
  let cs := cutsOf rs rs.length
  decide (0 ≤ W) && decide (W ≤ 100) && !cs.contains W && (List.range W.toNat).all fun j => cs.contains (j : Int)
def mex45 (p2 p3 : Nat) : Bool := (List.range 4).all fun p4 => (List.range 5).all fun p5 => mexB (baseT 0 p2 p3 p4 p5)
theorem trees_aa : mex45 0 0 = true := by decide +kernel
theorem trees_ab : mex45 0 1 = true := by decide +kernel
theorem trees_ac : mex45 0 2 = true := by decide +kernel
theorem trees_ba : mex45 1 0 = true := by decide +kernel
theorem trees_bb : mex45 1 1 = true := by decide +kernel
theorem trees_bc : mex45 1 2 = true := by decide +kernel
theorem trees_ok : ((List.range 2).all fun p2 => (List.range 3).all fun p3 => mex45 p2 p3) = true := by
  rw [List.all_eq_true]
  intro p2 h2
  rw [List.all_eq_true]
  intro p3 h3
  have h2 := List.mem_range.mp h2
  have h3 := List.mem_range.mp h3
  have e2 : p2 = 0 ∨ p2 = 1 := by omega
  have e3 : p3 = 0 ∨ p3 = 1 ∨ p3 = 2 := by omega
  rcases e2 with rfl | rfl <;> rcases e3 with rfl | rfl | rfl
  · exact trees_aa
  · exact trees_ab
  · exact trees_ac
  · exact trees_ba
  · exact trees_bb
  · exact trees_bc
end Mine
end

section
open PySem
set_option Elab.async false
set_option maxRecDepth 100000
set_option linter.unusedVariables false
set_option maxHeartbeats 4000000
namespace Mine
/-- a renaming of words that keeps the empty one -/
structure Ren (S : List Nat → Prop) (f : List Nat → List Nat) : Prop where
  inj : ∀ a b, S a → S b → f a = f b → a = b
  zero : S []
  nil : f [] = []
section
variable {S : List Nat → Prop} {f : List Nat → List Nat}
abbrev Al (S : List Nat → Prop) (l : List (List Nat)) : Prop := ∀ x ∈ l, S x
abbrev AlR (S : List Nat → Prop) (rs : RW) : Prop := ∀ r ∈ rs, Al S r
abbrev mR (f : List Nat → List Nat) (rs : RW) : RW := rs.map (·.map f)

theorem ren_contains (R : Ren S f) : ∀ {l : List (List Nat)} {x : List Nat}, Al S l → S x → (l.map f).contains (f x) = l.contains x
  | [], _, _, _ => rfl
  | y :: l, x, hl, hx => by
    rw [List.map_cons, List.contains_cons, List.contains_cons, ren_contains R (fun z hz => hl z (.tail _ hz)) hx]
    congr 1
    by_cases h : x = y
    · subst h; simp
    · have : f x ≠ f y := fun e => h (R.inj _ _ hx (hl y (.head _)) e)
      rw [beq_eq_false_iff_ne.mpr h, beq_eq_false_iff_ne.mpr this]
theorem ren_head (R : Ren S f) (c : List (List Nat)) : (c.map f).headD [] = f (c.headD []) := by
  cases c with
  | nil => exact R.nil.symm
  | cons x c => rfl
theorem head_S (R : Ren S f) {c : List (List Nat)} (h : Al S c) : S (c.headD []) := by
  cases c with
  | nil => exact R.zero
  | cons x c => exact h x (.head _)
theorem ren_second (R : Ren S f) (c : List (List Nat)) : ((c.map f ++ [[]])[1]?).getD [] = f (((c ++ [[]])[1]?).getD []) := by
  match c with
  | [] => exact R.nil.symm
  | [x] => exact R.nil.symm
  | x :: y :: c => rfl
theorem second_S (R : Ren S f) {c : List (List Nat)} (h : Al S c) : S (((c ++ [[]])[1]?).getD []) := by
  match c, h with
  | [], _ => exact R.zero
  | [x], _ => exact R.zero
  | x :: y :: c, h => exact h y (.tail _ (.head _))
theorem ren_inner (R : Ren S f) {du : List (List Nat) × List (List Nat)} {c : List (List Nat)} (h1 : Al S du.1) (h2 : Al S du.2) (hc : Al S c) :
    innerStep (du.1.map f, du.2.map f) (c.map f) = ((innerStep du c).1.map f, (innerStep du c).2.map f) ∧ Al S (innerStep du c).1 ∧ Al S (innerStep du c).2 := by
  unfold innerStep
  simp only
  rw [ren_head R, ren_contains R h2 (head_S R hc), ren_second R]
  by_cases h : du.2.contains (c.headD []) = true
  · rw [if_pos h, if_pos h]
    exact ⟨rfl, h1, h2⟩
  · rw [if_neg h, if_neg h]
    refine ⟨by simp, fun x hx => ?_, fun x hx => ?_⟩
    · rcases List.mem_append.mp hx with hx | hx
      · exact h1 x hx
      · rw [List.mem_singleton.mp hx]; exact head_S R hc
    · rcases List.mem_append.mp hx with hx | hx
      · exact h2 x hx
      · rw [List.mem_singleton.mp hx]; exact second_S R hc
theorem ren_fold (R : Ren S f) : ∀ (l : RW) (du : List (List Nat) × List (List Nat)), AlR S l → Al S du.1 → Al S du.2 →
    (mR f l).foldl innerStep (du.1.map f, du.2.map f) = ((l.foldl innerStep du).1.map f, (l.foldl innerStep du).2.map f) ∧ Al S (l.foldl innerStep du).1 ∧ Al S (l.foldl innerStep du).2
  | [], du, _, h1, h2 => ⟨rfl, h1, h2⟩
  | c :: l, du, hl, h1, h2 => by
    obtain ⟨e, a, b⟩ := ren_inner R h1 h2 (hl c (.head _))
    rw [mR, List.map_cons, List.foldl_cons, List.foldl_cons, e]
    exact ren_fold R l _ (fun r hr => hl r (.tail _ hr)) a b
theorem ren_dark (R : Ren S f) {l : RW} (hl : AlR S l) : darkUnder (mR f l) = ((darkUnder l).1.map f, (darkUnder l).2.map f) ∧ Al S (darkUnder l).1 ∧ Al S (darkUnder l).2 := by
  unfold darkUnder
  have e : (mR f l).reverse = mR f l.reverse := by unfold mR; rw [List.map_reverse]
  rw [e]
  exact ren_fold R l.reverse ([], []) (fun r hr => hl r (List.mem_reverse.mp hr)) (fun _ h => nomatch h) (fun _ h => nomatch h)
theorem ren_spots (R : Ren S f) (pw : Int) : ∀ (l : List (List Nat)) (wt : Int), Al S l → (l.map f).foldl (spotStep pw) wt = l.foldl (spotStep pw) wt
  | [], _, _ => rfl
  | x :: l, wt, hl => by
    have hx := hl x (.head _)
    have e : spotStep pw wt (f x) = spotStep pw wt x := by
      unfold spotStep
      by_cases h : x = []
      · rw [h, R.nil]
      · have : f x ≠ [] := fun q => h (R.inj _ _ hx R.zero (q.trans R.nil.symm))
        rw [if_neg h, if_neg this]
    rw [List.map_cons, List.foldl_cons, List.foldl_cons, e]
    exact ren_spots R pw l _ fun y hy => hl y (.tail _ hy)
theorem ren_filter (R : Ren S f) {d : List (List Nat)} (hd : Al S d) : ∀ {c : List (List Nat)}, Al S c → ((c.map f).filter fun x => !(d.map f).contains x) = (c.filter fun x => !d.contains x).map f
  | [], _ => rfl
  | x :: c, hc => by
    have ih := ren_filter R hd fun y hy => hc y (.tail _ hy)
    rw [List.map_cons, List.filter_cons, List.filter_cons, ren_contains R hd (hc x (.head _))]
    split
    · rw [List.map_cons, ih]
    · exact ih
theorem ren_cut (R : Ren S f) {d : List (List Nat)} (hd : Al S d) : ∀ {l : RW}, AlR S l → cutLeft (d.map f) (mR f l) = mR f (cutLeft d l)
  | [], _ => rfl
  | c :: l, hl => by
    have ih := ren_cut R hd (l := l) fun r hr => hl r (.tail _ hr)
    have hc := hl c (.head _)
    unfold cutLeft mR at ih ⊢
    rw [List.map_cons, List.filter_cons, List.filter_cons, ren_head R, ren_contains R hd (head_S R hc)]
    split
    · rw [List.map_cons, List.map_cons, List.map_cons, ih, ren_filter R hd hc]
    · exact ih
theorem cut_S {d : List (List Nat)} {l : RW} (hl : AlR S l) : AlR S (cutLeft d l) := by
  intro r hr x hx
  obtain ⟨c, hc, rfl⟩ := List.mem_map.mp hr
  exact hl c (List.mem_filter.mp hc).1 x (List.mem_filter.mp hx).1
theorem ren_stage (R : Ren S f) {l : RW} {wt pw : Int} (hl : AlR S l) : stage (mR f l, wt, pw) = (mR f (stage (l, wt, pw)).1, (stage (l, wt, pw)).2) := by
  obtain ⟨e, a, b⟩ := ren_dark R hl
  unfold stage
  simp only
  rw [e]
  simp only
  rw [ren_cut R a hl, ren_spots R pw _ wt b]
theorem ren_stages (R : Ren S f) {l : RW} {wt pw : Int} (hl : AlR S l) : ∀ k, stages k (mR f l, wt, pw) = (mR f (stages k (l, wt, pw)).1, (stages k (l, wt, pw)).2) ∧ AlR S (stages k (l, wt, pw)).1
  | 0 => ⟨rfl, hl⟩
  | k + 1 => by
    obtain ⟨e, a⟩ := ren_stages R (wt := wt) (pw := pw) hl k
    refine ⟨?_, cut_S a⟩
    show stage _ = _
    rw [e]
    exact ren_stage R a
theorem ren_worth (R : Ren S f) {l : RW} (hl : AlR S l) : worthOf (mR f l) = worthOf l := by
  unfold worthOf
  rw [show (mR f l).length = l.length by simp [mR], (ren_stages R hl _).1]
theorem ren_without (R : Ren S f) {g : List (List Nat)} (hg : Al S g) : ∀ {l : RW}, AlR S l → without (g.map f) (mR f l) = mR f (without g l)
  | [], _ => rfl
  | c :: l, hl => by
    have ih := ren_without R hg (l := l) fun r hr => hl r (.tail _ hr)
    unfold without mR at ih ⊢
    rw [List.map_cons, List.map_cons, List.map_cons, List.map_cons, ih, ren_filter R hg (hl c (.head _))]
theorem ren_full : ∀ l : RW, (mR f l).filter (fun c => decide (c ≠ [])) = mR f (l.filter fun c => decide (c ≠ []))
  | [] => rfl
  | c :: l => by
    have ih := ren_full l
    unfold mR at ih ⊢
    rw [List.map_cons, List.filter_cons, List.filter_cons]
    cases c with
    | nil => simpa using ih
    | cons x c => simpa using ih
theorem ren_rest (R : Ren S f) {g : List (List Nat)} {l : RW} (hg : Al S g) (hl : AlR S l) : restOf (g.map f) (mR f l) = mR f (restOf g l) := by
  unfold restOf
  rw [ren_without R hg hl, ren_full]
theorem rest_S {g : List (List Nat)} {l : RW} (hl : AlR S l) : AlR S (restOf g l) := by
  intro r hr x hx
  obtain ⟨h1, _⟩ := List.mem_filter.mp hr
  obtain ⟨c, hc, rfl⟩ := List.mem_map.mp h1
  exact hl c hc x (List.mem_filter.mp hx).1
theorem ren_cuts (R : Ren S f) {l : RW} (hl : AlR S l) (i : Nat) : cutsOf (mR f l) i = cutsOf l i := by
  unfold cutsOf
  have e : (mR f l).take i = (l.take i).map (·.map f) := by unfold mR; rw [List.map_take]
  rw [e, List.map_map]
  refine List.map_congr_left fun g hg => ?_
  have hgl := List.mem_of_mem_take hg
  show worthOf (restOf (g.map f) (mR f l)) = _
  rw [ren_rest R (hl g hgl) hl, ren_worth R (rest_S hl)]
end
end Mine
end

section
open PySem
set_option Elab.async false
set_option maxRecDepth 100000
set_option linter.unusedVariables false
set_option maxHeartbeats 4000000
namespace Mine
theorem pad5_len (nums : List Int) : (pad5 nums).length = 5 := by unfold pad5; simp; omega

theorem grow_rows {ns : List Int} : ∀ (i : Nat), i ≤ ns.length → (∀ j r, j < i → (grow (ns.take i))[j + 1]? = some r → ∃ x tl, ns[j]? = some x ∧ r = wordOf (j + 1) x :: tl) ∧
    (∀ r ∈ grow (ns.take i), ∀ y ∈ r, ∃ j x, j < i ∧ ns[j]? = some x ∧ y = wordOf (j + 1) x) := by
  intro i
  induction i with
  | zero => intro _; exact ⟨fun j r hj => absurd hj (Nat.not_lt_zero _), fun r hr y hy => by simp [grow] at hr; subst hr; cases hy⟩
  | succ i ih =>
    intro hi
    obtain ⟨h1, h2⟩ := ih (by omega)
    obtain ⟨g1, g2⟩ := grow_size (ns := ns) i (by omega)
    have e : ns[i]? = some ns[i] := List.getElem?_eq_getElem (by omega)
    rw [grow_snoc e]
    unfold treeStep
    refine ⟨fun j r hj hr => ?_, fun r hr y hy => ?_⟩
    · by_cases hji : j < i
      · rw [List.getElem?_append_left (by omega)] at hr
        exact h1 j r hji hr
      · have : j = i := by omega
        subst this
        rw [List.getElem?_append_right (by omega), g1] at hr
        simp at hr
        exact ⟨_, _, e, hr.symm⟩
    · rcases List.mem_append.mp hr with hr | hr
      · obtain ⟨j, x, hj, hx, hw⟩ := h2 r hr y hy
        exact ⟨j, x, by omega, hx, hw⟩
      · rw [List.mem_singleton.mp hr] at hy
        rcases List.mem_cons.mp hy with rfl | hy
        · exact ⟨i, _, by omega, e, by rw [g1]⟩
        · cases q : (grow (ns.take i))[(ns[i].fmod (grow (ns.take i)).length).toNat]? with
          | none => rw [q] at hy; cases hy
          | some r' =>
            rw [q] at hy
            obtain ⟨j, x, hj, hx, hw⟩ := h2 r' (List.mem_of_getElem? q) y hy
            exact ⟨j, x, by omega, hx, hw⟩

theorem wordOk_of {x : List Nat} (h : x ≠ [] ∧ x.length ≤ 3 ∧ ∀ c ∈ x, c < 128 ∧ c ≠ 46 ∧ c ≠ 58 ∧ c ≠ 10 ∧ c ≠ 41 ∧ c ≠ 70 ∧ c ≠ 32 ∧ 13 < c) : WordOk x where
  wd := ⟨h.1, fun q => (h.2.2 _ q).2.1 rfl, fun q => (h.2.2 _ q).2.2.1 rfl, fun q => (h.2.2 _ q).2.2.2.1 rfl, fun c q => (h.2.2 c q).1⟩
  sg := fun c q => sg_of (by have := (h.2.2 c q).1; omega) (h.2.2 c q).2.2.2.2.2.2.1 (.inr (h.2.2 c q).2.2.2.2.2.2.2)
  br := fun c q => ⟨(h.2.2 c q).2.2.2.2.1, (h.2.2 c q).2.2.2.2.2.1⟩
  len := h.2.1
theorem word_ok {j : Nat} (hj : j < 5) (x : Int) : WordOk (wordOf (j + 1) x) := by
  obtain ⟨k, hk, hk5⟩ := mod5 (x.fdiv 6)
  have : ∀ j : Fin 5, ∀ k : Fin 5, ((96 + (j.val + 1)) :: (menuW[k.val]?).getD []) ≠ [] ∧ ((96 + (j.val + 1)) :: (menuW[k.val]?).getD []).length ≤ 3 ∧ ∀ c ∈ ((96 + (j.val + 1)) :: (menuW[k.val]?).getD []), c < 128 ∧ c ≠ 46 ∧ c ≠ 58 ∧ c ≠ 10 ∧ c ≠ 41 ∧ c ≠ 70 ∧ c ≠ 32 ∧ 13 < c := by decide
  have := wordOk_of (this ⟨j, hj⟩ ⟨k, hk5⟩)
  unfold wordOf
  rw [hk, Int.toNat_natCast]
  exact this

section
variable {ns : List Int} (h5 : ns.length = 5)
include h5
theorem tree_len : (treeOf ns).length = 5 := by
  have := (grow_size (ns := ns) 5 (by omega)).1
  rw [List.take_of_length_le (by omega)] at this
  unfold treeOf; simp [this]
theorem tree_row {j : Nat} {r : List (List Nat)} (h : (treeOf ns)[j]? = some r) : ∃ x tl, j < 5 ∧ ns[j]? = some x ∧ r = wordOf (j + 1) x :: tl := by
  have hj : j < 5 := by have := (List.getElem?_eq_some_iff.mp h).1; rw [tree_len h5] at this; exact this
  have := (grow_rows (ns := ns) 5 (by omega)).1 j r hj
  rw [List.take_of_length_le (by omega)] at this
  unfold treeOf at h
  rw [List.getElem?_drop, Nat.add_comm] at h
  obtain ⟨x, tl, a, b⟩ := this h
  exact ⟨x, tl, hj, a, b⟩
theorem tree_word {r : List (List Nat)} (hr : r ∈ treeOf ns) {y : List Nat} (hy : y ∈ r) : ∃ j x, j < 5 ∧ ns[j]? = some x ∧ y = wordOf (j + 1) x := by
  have := (grow_rows (ns := ns) 5 (by omega)).2 r
  rw [List.take_of_length_le (by omega)] at this
  exact this (List.mem_of_mem_drop hr) y hy
theorem tree_small {r : List (List Nat)} (hr : r ∈ treeOf ns) : r.length ≤ 5 := by
  have := (grow_size (ns := ns) 5 (by omega)).2 r
  rw [List.take_of_length_le (by omega)] at this
  exact this (List.mem_of_mem_drop hr)
def noteFn (ns : List Int) (y : List Nat) : List Nat := pick3 noteM (((ns[y.headD 0 - 97]?).getD 0).fdiv 30)
theorem tree_rowsOk : RowsOk (noteFn ns) (treeOf ns) := by
  refine ⟨by rw [tree_len h5]; decide, fun r hr => ⟨?_, tree_small h5 hr, fun y hy => ?_, pick3_mem rfl _⟩⟩
  · obtain ⟨j, hj⟩ := List.mem_iff_getElem?.mp hr
    obtain ⟨x, tl, _, _, e⟩ := tree_row h5 hj
    rw [e]; simp
  · obtain ⟨j, x, hj, _, e⟩ := tree_word h5 hr hy
    rw [e]; exact word_ok hj x
theorem tree_notes {kvs : List (Str × Value)} (hN : Noted (treeOf ns) ns 5 kvs) : InNotes kvs (noteFn ns) (treeOf ns) := by
  intro r hr y hy
  refine ⟨pick3_mem rfl _, ?_⟩
  obtain ⟨j, x, hj, hx, e⟩ := tree_word h5 hr hy
  have hjl : j < (treeOf ns).length := by rw [tree_len h5]; exact hj
  obtain ⟨x', tl, _, hx', e'⟩ := tree_row h5 (List.getElem?_eq_getElem hjl)
  rw [hx] at hx'; cases hx'
  obtain ⟨v, hv, hs⟩ := hN j _ x hj (List.getElem?_eq_getElem hjl) hx
  rw [e', List.headD_cons, ← e] at hv
  refine ⟨v, hv, ?_⟩
  have : noteFn ns y = pick3 noteM (x.fdiv 30) := by
    unfold noteFn
    rw [e]
    have : (wordOf (j + 1) x).headD 0 - 97 = j := by unfold wordOf; rw [List.headD_cons]; omega
    rw [this, hx]; rfl
  rw [this]; exact hs
end
end Mine
end

section
open PySem
set_option Elab.async false
set_option maxRecDepth 100000
set_option linter.unusedVariables false
set_option maxHeartbeats 4000000
namespace Mine
theorem step_ren {f : List Nat → List Nat} {rows : RW} {x : Int} {y : List Nat} {k p : Nat} (hk : rows.length = k) (hp : x.fmod k = p) (hf : f y = wordOf k x) : treeStep (mR f rows) x = mR f (rows ++ [y :: (rows[p]?).getD []]) := by
  unfold treeStep
  have hl : (mR f rows).length = k := by unfold mR; rw [List.length_map, hk]
  rw [hl, hp, Int.toNat_natCast]
  unfold mR
  rw [List.map_append, List.map_cons, List.map_nil, List.map_cons, hf]
  congr 3
  rw [List.getElem?_map]
  cases rows[p]? <;> rfl
def Sg5 (y : List Nat) : Prop := y = [] ∨ y = [97] ∨ y = [98] ∨ y = [99] ∨ y = [100] ∨ y = [101]
def reF (ns : List Int) (y : List Nat) : List Nat := match y with
  | [] => []
  | c :: _ => wordOf (c - 96) ((ns[c - 97]?).getD 0)
theorem re_ren (ns : List Int) : Ren Sg5 (reF ns) where
  zero := .inl rfl
  nil := rfl
  inj := by
    intro a b ha hb e
    have h := congrArg List.head? e
    rcases ha with rfl | rfl | rfl | rfl | rfl | rfl <;> rcases hb with rfl | rfl | rfl | rfl | rfl | rfl <;> first | rfl | (simp [reF, wordOf] at h)
theorem base_S {p1 p2 p3 p4 p5 : Nat} : AlR Sg5 (baseT p1 p2 p3 p4 p5) := by
  have key : ∀ (l : List (List Nat × Nat)) (rows : RW), AlR Sg5 rows → (∀ q ∈ l, Sg5 q.1) → AlR Sg5 (l.foldl (fun rows wp => rows ++ [wp.1 :: (rows[wp.2]?).getD []]) rows) := by
    intro l
    induction l with
    | nil => intro rows h _; exact h
    | cons q l ih =>
      intro rows h hq
      refine ih _ (fun r hr y hy => ?_) fun z hz => hq z (.tail _ hz)
      rcases List.mem_append.mp hr with hr | hr
      · exact h r hr y hy
      · rw [List.mem_singleton.mp hr] at hy
        rcases List.mem_cons.mp hy with rfl | hy
        · exact hq q (.head _)
        · cases e : rows[q.2]? with
          | none => rw [e] at hy; cases hy
          | some r' => rw [e] at hy; exact h r' (List.mem_of_getElem? e) y hy
  intro r hr
  refine key _ [[]] (fun r hr y hy => by rw [List.mem_singleton.mp hr] at hy; cases hy) ?_ r (List.mem_of_mem_drop hr)
  intro q hq
  simp only [List.mem_cons, List.not_mem_nil, or_false] at hq
  rcases hq with rfl | rfl | rfl | rfl | rfl
  · exact .inr (.inl rfl)
  · exact .inr (.inr (.inl rfl))
  · exact .inr (.inr (.inr (.inl rfl)))
  · exact .inr (.inr (.inr (.inr (.inl rfl))))
  · exact .inr (.inr (.inr (.inr (.inr rfl))))

theorem tree_base (x1 x2 x3 x4 x5 : Int) : ∃ p2 p3 p4 p5, p2 < 2 ∧ p3 < 3 ∧ p4 < 4 ∧ p5 < 5 ∧ treeOf [x1, x2, x3, x4, x5] = mR (reF [x1, x2, x3, x4, x5]) (baseT 0 p2 p3 p4 p5) := by
  obtain ⟨p1, h1, l1⟩ := modN x1 (m := 1) (by decide)
  obtain ⟨p2, h2, l2⟩ := modN x2 (m := 2) (by decide)
  obtain ⟨p3, h3, l3⟩ := modN x3 (m := 3) (by decide)
  obtain ⟨p4, h4, l4⟩ := modN x4 (m := 4) (by decide)
  obtain ⟨p5, h5, l5⟩ := modN x5 (m := 5) (by decide)
  have e1 : p1 = 0 := by omega
  subst e1
  refine ⟨p2, p3, p4, p5, l2, l3, l4, l5, ?_⟩
  have g : grow [x1, x2, x3, x4, x5] = mR (reF [x1, x2, x3, x4, x5]) (growP [([97], 0), ([98], p2), ([99], p3), ([100], p4), ([101], p5)]) := by
    unfold grow growP
    simp only [List.foldl_cons, List.foldl_nil]
    rw [show ([[]] : RW) = mR (reF [x1, x2, x3, x4, x5]) [[]] from rfl]
    rw [step_ren (y := [97]) (k := 1) (p := 0) rfl h1 rfl, step_ren (y := [98]) (k := 2) (p := p2) (by simp) h2 rfl, step_ren (y := [99]) (k := 3) (p := p3) (by simp) h3 rfl,
      step_ren (y := [100]) (k := 4) (p := p4) (by simp) h4 rfl, step_ren (y := [101]) (k := 5) (p := p5) (by simp) h5 rfl]
    rfl
  unfold treeOf baseT
  rw [g]
  unfold mR
  rw [List.map_drop]

theorem mex_of {rs : RW} (h : mexB rs = true) : Mex (worthOf rs) (cutsOf rs rs.length) := by
  unfold mexB at h
  simp only [Bool.and_eq_true, decide_eq_true_eq, Bool.not_eq_true', List.all_eq_true, List.mem_range] at h
  obtain ⟨⟨⟨h1, h2⟩, h3⟩, h4⟩ := h
  refine ⟨⟨(worthOf rs).toNat, by omega, by omega⟩, h3, fun j hj => h4 j (by omega)⟩
theorem base_mex {p2 p3 p4 p5 : Nat} (l2 : p2 < 2) (l3 : p3 < 3) (l4 : p4 < 4) (l5 : p5 < 5) : mexB (baseT 0 p2 p3 p4 p5) = true := by
  have h := trees_ok
  rw [List.all_eq_true] at h
  have h := h p2 (List.mem_range.mpr l2)
  rw [List.all_eq_true] at h
  have h := h p3 (List.mem_range.mpr l3)
  unfold mex45 at h
  rw [List.all_eq_true] at h
  have h := h p4 (List.mem_range.mpr l4)
  rw [List.all_eq_true] at h
  exact h p5 (List.mem_range.mpr l5)
theorem tree_mex {ns : List Int} (h5 : ns.length = 5) : Mex (worthOf (treeOf ns)) (cutsOf (treeOf ns) (treeOf ns).length) := by
  match ns, h5 with
  | [x1, x2, x3, x4, x5], _ =>
    obtain ⟨p2, p3, p4, p5, l2, l3, l4, l5, e⟩ := tree_base x1 x2 x3 x4 x5
    rw [e, ren_worth (re_ren _) base_S, show (mR (reF [x1, x2, x3, x4, x5]) (baseT 0 p2 p3 p4 p5)).length = (baseT 0 p2 p3 p4 p5).length by simp [mR], ren_cuts (re_ren _) base_S]
    exact mex_of (base_mex l2 l3 l4 l5)
theorem lawful (nums : List Int) : Lawful (pad5 nums) where
  five := pad5_len nums
  rows := tree_len (pad5_len nums)
  heads := fun j r hr => by
    obtain ⟨x, tl, hj, _, e⟩ := tree_row (pad5_len nums) hr
    refine ⟨by have := tree_small (pad5_len nums) (List.mem_of_getElem? hr); omega, _, tl, e, ?_⟩
    unfold wordOf
    rw [List.head?_cons]
    congr 1; omega
  note := ⟨noteFn (pad5 nums), tree_rowsOk (pad5_len nums), fun kvs hN => tree_notes (pad5_len nums) hN⟩
  mex := tree_mex (pad5_len nums)
end Mine
end

section
open PySem PySem.W PyProof.Rows
set_option Elab.async false
set_option maxRecDepth 100000
set_option maxHeartbeats 8000000
namespace Mine
theorem ints_all {X : Addr → Prop} {h : Heap} {vs : List Value} {ns : List Int} (p : IntsAre vs ns) : All cI vs ns X h := by
  induction p with
  | nil => exact .nil
  | cons n t _ ih => exact .cons ⟨t, rfl⟩ ih
theorem top : PySem.Challenge.rw_wr0004_01.Holds := hd (by
  k_fill
  intro w s₀ s₁ mg mb G Y fa o pm cd doc dV kV ho hd hcd hD hmg hg args vals as hpre hlay hrd hwl hlo
  have KX := kIn_of Y
  have X := (Ground.X G).1
  have V := (Ground.X G).2
  refine Ground.open G ?_
  intro T B D TE TW
  try (refine guard_noD D (by decide +kernel) ?_; clear D)
  obtain ⟨_, _, M⟩ := bmod_of_top T
  have TA := at_of_top T
  try (obtain ⟨_, _, he, B0⟩ := based_of_top T rfl hmg ho hd; have he' : cd = _ := he; subst he'; clear he)
  wrow_args hpre hlay hrd hwl hlo
  rename_i w5 a1 v1 a2 hLst ra w1 r0 hInts hrr c1 c2
  have hmg' : mg (Str.ofString "law") = some (.ref fa) := hmg
  have hfa : mg (Str.ofString "law") = some (.ref 129) := mg_of KX T.g (by kernel_rfl)
  have e129 : fa = 129 := by
    rw [hmg'] at hfa
    injection hfa with hfa
    injection hfa
  have BB : Base w s₁.heap := ⟨KX, T.nolimit, mg, mb, T.g, T.b, T.builtins⟩
  have LL : Lv 1 callerA := ⟨rfl, by decide, by decide⟩
  show wpAny _ _ (PySem.call (.ref fa) [.ref a1]) _ _ _
  rw [e129]
  refine c_law (X := fun _ => False) ⟨v1, ⟨a1, rfl, id, hLst⟩, ints_all hInts⟩ (by omega) (lawful _) BB LL (by decide) fun s' sm ex => ?_
  obtain ⟨h', t', rfl⟩ := sm
  refine GoodW.toG ⟨.inl ⟨.bool true, .bool true, [], rfl, fun _ => rfl, ?_, ?_, fun _ => ⟨.nil, fun _ h => nomatch h⟩⟩, ex, rfl, hg⟩
  · exact .bool true
  · first
    | kernel_rfl
    | (with_unfolding_all rfl)
    | (show (WShape.has [] (.bool true) .bool && WTm.holds [] (.eq .res (.lit (.bool true))) _) = true
       simp [WTm.holds, WTm.value, WShape.has]; done))
end Mine
end

theorem PySem.Challenge.cw_wr0004_01_holds : PySem.Challenge.rw_wr0004_01.Holds :=
  Mine.top
