import PyProof.Rows.All
import Wide.All
import OpenK.AllK
import Wide.FinOn
import PySem.Challenge.RW_re0159_01
open PySem PySem.W PyProof.Rows
set_option Elab.async false
set_option maxRecDepth 100000
set_option maxHeartbeats 4000000
set_option linter.all false

namespace Mine

/-- a text, by its signs -/
abbrev Sg := List Nat
def txt (l : Sg) : Str := ⟨l.toArray⟩

/-- a value by what it holds -/
inductive AV where
  | none
  | bool (b : Bool)
  | int (i : Int)
  | str (l : Sg)
  | il (ns : List Int)
  | sl (ys : List Sg)
  | hdr (ps : List (Sg × Sg))
  | pat (p : Addr)
  | emp

/-- what a frame's slots hold; none: not known -/
abbrev St := List (Option AV)

/-- the world of the proof: the program, the world, the heap at the law's call, the class Headers -/
structure Wd where
  prog : Program
  w : World
  G : Heap
  C : Addr
  mg : Str → Option Value
  mb : Str → Option Value

/-- the facts of the top -/
structure TopF (W : Wd) : Prop where
  g : W.G.Ns mainGlobals W.mg
  b : W.G.Ns builtinsNs W.mb
  bb : ∀ x : Str, x ≠ "__name__" → W.mb x = bootBuiltins x
  nolimit : W.G.NoLimit

def TupAt (h : Heap) (a : Addr) (p : Sg × Sg) : Prop := ∃ t u n, h.get? a = some { cls := .type "tuple", data := .seq #[.str (txt p.1) t, .str (txt p.2) u] n }

inductive TupsAre (h : Heap) : List Value → List Addr → List (Sg × Sg) → Prop
  | nil : TupsAre h [] [] []
  | cons {a p vs as ps} : TupAt h a p → TupsAre h vs as ps → TupsAre h (.ref a :: vs) (a :: as) (p :: ps)

/-- in heap h, over the addresses F alone, the value v is av -/
inductive Rep (C : Addr) (h : Heap) : List Addr → Value → AV → Prop
  | none : Rep C h [] .none .none
  | bool (b : Bool) : Rep C h [] (.bool b) (.bool b)
  | int (i : Int) (t : Tok) : Rep C h [] (.int i t) (.int i)
  | str (l : Sg) (t : Tok) : Rep C h [] (.str (txt l) t) (.str l)
  | pat (p : Addr) : Rep C h [] (.ref p) (.pat p)
  | emp {d : Addr} : h.get? d = some { cls := .type "dict", data := .dict #[] } → (d == sysModules) = false → Rep C h [d] (.ref d) .emp
  | il {a : Addr} {vs : List Value} {ns : List Int} : h.PlainList a vs.toArray → IntsAre vs ns → Rep C h [a] (.ref a) (.il ns)
  | sl {a : Addr} {vs : List Value} {ys : List Sg} : h.PlainList a vs.toArray → StrsAre vs (ys.map txt) → Rep C h [a] (.ref a) (.sl ys)
  | hdr {x dx l : Addr} {hsh : Int} {tk : Tok} {n : Nat} {vs : List Value} {as : List Addr} {ps : List (Sg × Sg)} : h.get? x = some (instObj C dx) → h.get? dx = some (dictOf [⟨hsh, .str "_headers" tk, .ref l⟩] n) →
      h.PlainList l vs.toArray → TupsAre h vs as ps → Rep C h (x :: dx :: l :: as) (.ref x) (.hdr ps)

theorem TupsAre.keep {h h' : Heap} {vs : List Value} {as : List Addr} {ps : List (Sg × Sg)} (x : TupsAre h vs as ps) (hk : ∀ a ∈ as, ∀ o, h.get? a = some o → h'.get? a = some o) : TupsAre h' vs as ps := by
  induction x with
  | nil => exact .nil
  | cons hp _ ih =>
    obtain ⟨t, u, n, e⟩ := hp
    exact .cons ⟨t, u, n, hk _ (.head _) _ e⟩ (ih fun a ha => hk a (.tail _ ha))

theorem Rep.keep {C : Addr} {h h' : Heap} {F : List Addr} {v : Value} {av : AV} (x : Rep C h F v av) (hk : ∀ a ∈ F, ∀ o, h.get? a = some o → h'.get? a = some o) : Rep C h' F v av := by
  cases x with
  | none => exact .none
  | bool => exact .bool _
  | int => exact .int _ _
  | str => exact .str _ _
  | pat => exact .pat _
  | emp e hd => exact .emp (hk _ (.head _) _ e) hd
  | il hl hi => exact .il (hl.at fun o e => hk _ (.head _) o e) hi
  | sl hl hi => exact .sl (hl.at fun o e => hk _ (.head _) o e) hi
  | hdr h1 h2 h3 h4 =>
    exact .hdr (hk _ (.head _) _ h1) (hk _ (.tail _ (.head _)) _ h2) (h3.at fun o e => hk _ (.tail _ (.tail _ (.head _))) o e) (h4.keep fun a ha => hk a (.tail _ (.tail _ (.tail _ ha))))

theorem Rep.keeps {C : Addr} {h h' : Heap} {F : List Addr} {v : Value} {av : AV} (x : Rep C h F v av) (hk : ∀ b o, h.get? b = some o → h'.get? b = some o) : Rep C h' F v av := x.keep fun a _ => hk a

theorem TupsAre.has {h : Heap} {vs : List Value} {as : List Addr} {ps : List (Sg × Sg)} (x : TupsAre h vs as ps) : ∀ a ∈ as, ∃ o, h.get? a = some o := by
  induction x with
  | nil => intro a ha; cases ha
  | cons hp _ ih =>
    obtain ⟨t, u, n, e⟩ := hp
    intro a ha
    cases ha with
    | head => exact ⟨_, e⟩
    | tail _ ha => exact ih a ha

theorem Rep.has {C : Addr} {h : Heap} {F : List Addr} {v : Value} {av : AV} (x : Rep C h F v av) : ∀ a ∈ F, ∃ o, h.get? a = some o := by
  cases x with
  | none => intro a ha; cases ha
  | bool => intro a ha; cases ha
  | int => intro a ha; cases ha
  | str => intro a ha; cases ha
  | pat => intro a ha; cases ha
  | emp e _ => intro a ha; cases ha with | head => exact ⟨_, e⟩ | tail _ h => cases h
  | il hl hi => intro a ha; cases ha with | head => exact ⟨_, hl.choose_spec⟩ | tail _ h => cases h
  | sl hl hi => intro a ha; cases ha with | head => exact ⟨_, hl.choose_spec⟩ | tail _ h => cases h
  | hdr h1 h2 h3 h4 =>
    intro a ha
    cases ha with
    | head => exact ⟨_, h1⟩
    | tail _ ha => cases ha with
      | head => exact ⟨_, h2⟩
      | tail _ ha => cases ha with
        | head => exact ⟨_, h3.choose_spec⟩
        | tail _ ha => exact h4.has a ha

/-- where a slot lies -/
inductive Loc where
  | ns (x : Str)
  | cell (x : Str) (b : Addr)

/-- a frame: its environment, where its slots lie -/
structure Fx where
  env : Env
  loc : List Loc

def Loc.addr? : Loc → Option Addr
  | .ns _ => none
  | .cell _ b => some b
/-- the addresses that the frame itself writes -/
def Fx.mine (c : Fx) : List Addr := c.env.locals :: c.loc.filterMap Loc.addr?

structure Rel (W : Wd) (c : Fx) (σ : St) (s : Shared) (V : Nat → Value) (F : Nat → List Addr) : Prop where
  top : ∀ b o, W.G.get? b = some o → s.heap.get? b = some o
  ns : ∃ m, s.heap.Ns c.env.locals m ∧ ∀ (i : Nat) x av, c.loc[i]? = some (.ns x) → σ[i]? = some (some av) → m x = some (V i)
  cell : ∀ (i : Nat) x b, c.loc[i]? = some (.cell x b) → ∃ o, s.heap.IsCell b o ∧ ∀ av, σ[i]? = some (some av) → o = some (V i)
  rep : ∀ (i : Nat) av, σ[i]? = some (some av) → Rep W.C s.heap (F i) (V i) av
  nil : ∀ (i : Nat), (∀ av, σ[i]? ≠ some (some av)) → F i = []
  apart : ∀ (i j : Nat), i ≠ j → ∀ a ∈ F i, a ∉ F j
  off : ∀ (i : Nat), ∀ a ∈ F i, a ∉ c.mine ∧ W.G.get? a = none
  gens : AllBare s.gens
  len : σ.length = c.loc.length

/-- what a frame's make is to be -/
structure Fx.Ok (W : Wd) (c : Fx) : Prop where
  kind : c.env.scope.kind = .function
  glob : c.env.globals = mainGlobals
  blt : c.env.builtins = builtinsNs
  new : ∀ a ∈ c.mine, W.G.get? a = none
  apart : ∀ (i j : Nat) x y b, c.loc[i]? = some (.cell x b) → c.loc[j]? = some (.cell y b) → i = j
  offL : ∀ (i : Nat) x, c.loc[i]? ≠ some (.cell x c.env.locals)
  names : ∀ (i j : Nat) x, c.loc[i]? = some (.ns x) → c.loc[j]? = some (.ns x) → i = j
  kindL : ∀ (i : Nat) x, c.loc[i]? = some (.ns x) → c.env.kindOf x = some .local
  kindC : ∀ (i : Nat) x b, c.loc[i]? = some (.cell x b) → (c.env.kindOf x = some .cell ∨ c.env.kindOf x = some .free) ∧ c.env.cells.lookup x = some b

/-- a is b with nothing read or printed, the generators of b untouched -/
structure OsG (a b : Shared) : Prop where
  os : a.os = b.os
  gk : ∀ (i : Nat) g, b.gens[i]? = some g → a.gens[i]? = some g
theorem OsG.rf {a b : Shared} (h : a.os = b.os := by rfl) (h' : a.gens = b.gens := by rfl) : OsG a b := ⟨h, fun _ _ e => h' ▸ e⟩
theorem OsG.hp {a b : Shared} (x : OsG a b) {h : Heap} {t : Nat} : OsG { a with heap := h, toks := t } b := ⟨x.os, x.gk⟩
theorem OsG.trans {a b c : Shared} (x : OsG a b) (y : OsG b c) : OsG a c := ⟨x.os.trans y.os, fun i g e => x.gk i g (y.gk i g e)⟩

/-- s' keeps every object of s; nothing is read or printed; the generators stay bare -/
structure Kp (s s' : Shared) : Prop where
  heap : ∀ b o, s.heap.get? b = some o → s'.heap.get? b = some o
  os : OsG s' s
  gens : AllBare s.gens → AllBare s'.gens

theorem Kp.refl (s : Shared) : Kp s s := ⟨fun _ _ e => e, .rf, id⟩
theorem Kp.trans {s s' s'' : Shared} (x : Kp s s') (y : Kp s' s'') : Kp s s'' := ⟨fun b o e => y.heap b o (x.heap b o e), y.os.trans x.os, fun g => y.gens (x.gens g)⟩
theorem Kp.toks (s : Shared) (t : Nat) : Kp s { s with toks := t } := ⟨fun _ _ e => e, .rf, id⟩
theorem Kp.of {s : Shared} {h : Heap} {t : Nat} (hk : ∀ b o, s.heap.get? b = some o → h.get? b = some o) : Kp s { s with heap := h, toks := t } := ⟨hk, .rf, id⟩

theorem IsCell_keeps {h h' : Heap} {b : Addr} {o : Option Value} (x : h.IsCell b o) (hk : ∀ b o, h.get? b = some o → h'.get? b = some o) : h'.IsCell b o := x.keeps hk

theorem Rel.kp {W : Wd} {c : Fx} {σ : St} {s s' : Shared} {V : Nat → Value} {F : Nat → List Addr} (R : Rel W c σ s V F) (k : Kp s s') : Rel W c σ s' V F where
  top := fun b o e => k.heap b o (R.top b o e)
  ns := by obtain ⟨m, hn, hm⟩ := R.ns; exact ⟨m, hn.keeps k.heap, hm⟩
  cell := fun i x b e => by obtain ⟨o, hc, ho⟩ := R.cell i x b e; exact ⟨o, hc.keeps k.heap, ho⟩
  rep := fun i av e => (R.rep i av e).keeps k.heap
  nil := R.nil
  apart := R.apart
  off := R.off
  gens := k.gens R.gens
  len := R.len

/-- what the Around must bear -/
structure AOk (k : Nat) (A : Around) : Prop where
  hh : A.handled = none
  dep : A.depth + k < recursionLimit
  un : A.units + 100 * (k + 1) < cLine

theorem AOk.room {k : Nat} {A : Around} (h : AOk k A) : A.depth < recursionLimit := Nat.lt_of_le_of_lt (Nat.le_add_right ..) h.dep
theorem AOk.unitsL {k : Nat} {A : Around} (h : AOk k A) : A.units < cLine := Nat.lt_of_le_of_lt (Nat.le_add_right ..) h.un
theorem AOk.units64 {k : Nat} {A : Around} (h : AOk k A) : A.units + 64 < cLine := by have := h.un; omega

/-- an expression that keeps every object: its value is m's; what it hands on is new (fresh) or may be another's -/
def SE (W : Wd) (k : Nat) (c : Fx) (fresh : Bool) {α : Type} (inj : α → AV) (e : Expr) (m : St → Option α) : Prop :=
  ∀ (A : Around), AOk k A → ∀ (σ : St) (s : Shared) (V : Nat → Value) (F : Nat → List Addr) (Q : Value → Shared → Prop) (E : Value → Shared → Prop) (a : α),
    Rel W c σ s V F → m σ = some a →
    (∀ v s' F', Kp s s' → Rep W.C s'.heap F' v (inj a) → (fresh = true → ∀ x ∈ F', s.heap.get? x = none) → Q v s') →
    wpAny (model W.prog W.w) A (eval e c.env) Q E s

theorem SE.weak {W : Wd} {k : Nat} {c : Fx} {b : Bool} {α : Type} {inj : α → AV} {e : Expr} {m : St → Option α} (h : SE W k c b inj e m) : SE W k c false inj e m :=
  fun A hA σ s V F Q E a R hm hQ => h A hA σ s V F Q E a R hm fun v s' F' kp r _ => hQ v s' F' kp r (fun x => nomatch x)

end Mine

namespace Mine

structure Ty (α : Type) where
  inj : α → AV
  prj : AV → Option α
  ok : ∀ av a, prj av = some a → av = inj a

def tInt : Ty Int := ⟨.int, fun | .int i => some i | _ => none, fun av a h => by cases av <;> simp at h; subst h; rfl⟩
def tBool : Ty Bool := ⟨.bool, fun | .bool i => some i | _ => none, fun av a h => by cases av <;> simp at h; subst h; rfl⟩
def tStr : Ty Sg := ⟨.str, fun | .str i => some i | _ => none, fun av a h => by cases av <;> simp at h; subst h; rfl⟩
def tIl : Ty (List Int) := ⟨.il, fun | .il i => some i | _ => none, fun av a h => by cases av <;> simp at h; subst h; rfl⟩
def tSl : Ty (List Sg) := ⟨.sl, fun | .sl i => some i | _ => none, fun av a h => by cases av <;> simp at h; subst h; rfl⟩
def tHdr : Ty (List (Sg × Sg)) := ⟨.hdr, fun | .hdr i => some i | _ => none, fun av a h => by cases av <;> simp at h; subst h; rfl⟩
def tAny : Ty AV := ⟨id, some, fun av a h => by simp at h; subst h; rfl⟩

def look {α : Type} (T : Ty α) (i : Nat) (σ : St) : Option α := match σ[i]? with
  | some (some av) => T.prj av
  | _ => none

def Loc.name : Loc → Str
  | .ns x => x
  | .cell x _ => x

theorem look_some {α : Type} {T : Ty α} {i : Nat} {σ : St} {a : α} (h : look T i σ = some a) : σ[i]? = some (some (T.inj a)) := by
  unfold look at h
  split at h
  · rename_i av e; rw [e, T.ok _ _ h]
  · cases h

section
variable {W : Wd} {k : Nat} {c : Fx}

theorem SE_var {α : Type} (T : Ty α) (O : c.Ok W) {x : Str} {pos : Pos} (i : Nat) {l : Loc} (hl : c.loc[i]? = some l) (hx : l.name = x) (hd : (x == ("__debug__" : Str)) = false := by decide) (hcd : (x == ("__classdict__" : Str)) = false := by decide) :
    SE W k c false T.inj (.Name x pos) (look T i) := by
  intro A hA σ s V F Q E a R hm hQ
  have hs := look_some hm
  have hq : Q (V i) s := hQ _ _ _ (Kp.refl s) (R.rep i _ hs) (fun h => nomatch h)
  refine wpAny_Name ?_ hd
  cases l with
  | ns y =>
    have hx' : y = x := hx
    subst hx'
    obtain ⟨m, hn, hmm⟩ := R.ns
    exact wpAny_loadName_local O.kind (O.kindL i y hl) hn (hmm i y _ hl hs) hq
  | cell y b =>
    have hx' : y = x := hx
    subst hx'
    obtain ⟨o, hc, ho⟩ := R.cell i y b hl
    have ho' := ho _ hs
    subst ho'
    obtain ⟨hk, hlk⟩ := O.kindC i y b hl
    rcases hk with hk | hk
    · exact wpAny_loadName_cell O.kind hk hlk hc hq
    · exact wpAny_loadName_free O.kind hk hlk hc hq hcd

def Scal {α : Type} (inj : α → AV) : Prop := ∀ (C : Addr) (h : Heap) (F : List Addr) (v : Value) (a : α), Rep C h F v (inj a) → F = []
theorem scal_int : Scal AV.int := fun _ _ _ _ _ r => by cases r; rfl
theorem scal_bool : Scal AV.bool := fun _ _ _ _ _ r => by cases r; rfl
theorem scal_str : Scal AV.str := fun _ _ _ _ _ r => by cases r; rfl
theorem SE.strong {α : Type} {inj : α → AV} {e : Expr} {m : St → Option α} {b : Bool} (hs : Scal inj) (h : SE W k c b inj e m) : SE W k c true inj e m :=
  fun A hA σ s V F Q E a R hm hQ => h A hA σ s V F Q E a R hm fun v s' F' kp r _ => hQ v s' F' kp r fun _ x hx => by rw [hs _ _ _ _ _ r] at hx; cases hx

theorem SE_int {i : Int} {kk : Nat} {pos : Pos} : SE W k c true AV.int (.Constant (.int i) kk pos) (fun _ => some i) := by
  intro A hA σ s V F Q E a R hm hQ
  cases hm
  exact wpAny_Constant_int (hQ _ _ [] (Kp.toks s _) (.int _ _) fun _ x hx => nomatch hx)
theorem SE_str {x : Str} {l : Sg} {kk : Nat} {pos : Pos} (hx : x = txt l) : SE W k c true AV.str (.Constant (.str x) kk pos) (fun _ => some l) := by
  intro A hA σ s V F Q E a R hm hQ
  cases hm
  subst hx
  exact Calls.Constant_str (hQ _ _ [] (Kp.toks s _) (.str _ _) fun _ x hx => nomatch hx)
theorem SE_bool {b : Bool} {kk : Nat} {pos : Pos} : SE W k c true AV.bool (.Constant (.bool b) kk pos) (fun _ => some b) := by
  intro A hA σ s V F Q E a R hm hQ
  cases hm
  exact Constant_bool (hQ _ _ [] (Kp.refl s) (.bool _) fun _ x hx => nomatch hx)

/-- what a binary operation is to give -/
def OpIs (W : Wd) (k : Nat) {α β γ : Type} (i1 : α → AV) (i2 : β → AV) (i3 : γ → AV) (op : Value → Value → Sem Value) (f : α → β → Option γ) : Prop :=
  ∀ (A : Around), AOk k A → ∀ (s : Shared) (v1 v2 : Value) (F1 F2 : List Addr) (Q : Value → Shared → Prop) (E : Value → Shared → Prop) (a : α) (b : β) (g : γ),
    (∀ b o, W.G.get? b = some o → s.heap.get? b = some o) →
    Rep W.C s.heap F1 v1 (i1 a) → Rep W.C s.heap F2 v2 (i2 b) → f a b = some g →
    (∀ v s' F', Kp s s' → Rep W.C s'.heap F' v (i3 g) → (∀ x ∈ F', s.heap.get? x = none) → Q v s') → wpAny (model W.prog W.w) A (op v1 v2) Q E s

def op2 {α β γ : Type} (f : α → β → Option γ) (m1 : St → Option α) (m2 : St → Option β) (σ : St) : Option γ := match m1 σ with
  | some a => match m2 σ with
    | some b => f a b
    | none => none
  | none => none
theorem op2_some {α β γ : Type} {f : α → β → Option γ} {m1 : St → Option α} {m2 : St → Option β} {σ : St} {g : γ} (h : op2 f m1 m2 σ = some g) : ∃ a b, m1 σ = some a ∧ m2 σ = some b ∧ f a b = some g := by
  unfold op2 at h
  split at h
  · rename_i a e1
    split at h
    · rename_i b e2; exact ⟨a, b, e1, e2, h⟩
    · cases h
  · cases h

theorem fresh_of {s s' : Shared} (kp : Kp s s') {a : Addr} (h : s'.heap.get? a = none) : s.heap.get? a = none := by
  cases e : s.heap.get? a with
  | none => rfl
  | some o => rw [kp.heap a o e] at h; cases h

theorem SE_bin {α β γ : Type} {i1 : α → AV} {i2 : β → AV} {i3 : γ → AV} {f : α → β → Option γ} {b1 b2 : Bool} {l r : Expr} {m1 : St → Option α} {m2 : St → Option β} {o : Operator} {pos : Pos}
    (h1 : SE W k c b1 i1 l m1) (h2 : SE W k c b2 i2 r m2) (h : OpIs W k i1 i2 i3 (binaryOp o) f) : SE W k c true i3 (.BinOp l o r pos) (op2 f m1 m2) := by
  intro A hA σ s V F Q E g R hm hQ
  obtain ⟨a, b, e1, e2, e3⟩ := op2_some hm
  refine wpAny_BinOp (h1 A hA σ s V F _ E a R e1 fun v1 s1 F1 k1 r1 _ => h2 A hA σ s1 V F _ E b (R.kp k1) e2 fun v2 s2 F2 k2 r2 _ => ?_)
  exact h A hA s2 v1 v2 F1 F2 Q E a b g ((R.kp k1).kp k2).top (r1.keeps k2.heap) r2 e3 fun v s' F' k3 r' hf => hQ v s' F' ((k1.trans k2).trans k3) r' fun _ x hx => fresh_of (k1.trans k2) (hf x hx)

theorem SE_cmp {α β : Type} {i1 : α → AV} {i2 : β → AV} {γ : Type} {i3 : γ → AV} {f : α → β → Option γ} {b1 b2 : Bool} {l r : Expr} {m1 : St → Option α} {m2 : St → Option β} {o : CmpOp} {pos : Pos}
    (h1 : SE W k c b1 i1 l m1) (h2 : SE W k c b2 i2 r m2) (h : OpIs W k i1 i2 i3 (compareOp o) f) (hb : behindInMarks o r = false := by with_unfolding_all rfl) : SE W k c true i3 (.Compare l [o] [r] pos) (op2 f m1 m2) := by
  intro A hA σ s V F Q E g R hm hQ
  obtain ⟨a, b, e1, e2, e3⟩ := op2_some hm
  refine wpAny_Compare1 (hm := hb) (h1 A hA σ s V F _ E a R e1 fun v1 s1 F1 k1 r1 _ => h2 A hA σ s1 V F _ E b (R.kp k1) e2 fun v2 s2 F2 k2 r2 _ => ?_)
  exact h A hA s2 v1 v2 F1 F2 Q E a b g ((R.kp k1).kp k2).top (r1.keeps k2.heap) r2 e3 fun v s' F' k3 r' hf => hQ v s' F' ((k1.trans k2).trans k3) r' fun _ x hx => fresh_of (k1.trans k2) (hf x hx)

/-! ints -/
theorem nofr {s : Shared} : ∀ x ∈ ([] : List Addr), s.heap.get? x = none := fun _ h => nomatch h
theorem op_addI : OpIs W k AV.int AV.int AV.int (binaryOp .Add) (fun a b => some (a + b)) := by
  intro A hA s v1 v2 F1 F2 Q E a b g _ r1 r2 e hQ
  cases e; cases r1; cases r2
  exact add_int (hQ _ _ [] (Kp.toks s _) (.int _ _) nofr)
theorem op_subI : OpIs W k AV.int AV.int AV.int (binaryOp .Sub) (fun a b => some (a - b)) := by
  intro A hA s v1 v2 F1 F2 Q E a b g _ r1 r2 e hQ
  cases e; cases r1; cases r2
  exact sub_int (hQ _ _ [] (Kp.toks s _) (.int _ _) nofr)
def modF (a b : Int) : Option Int := if b = 0 then none else some (a.fmod b)
theorem op_modI : OpIs W k AV.int AV.int AV.int (binaryOp .Mod) modF := by
  intro A hA s v1 v2 F1 F2 Q E a b g _ r1 r2 e hQ
  unfold modF at e
  split at e
  · cases e
  · rename_i hb
    cases e; cases r1; cases r2
    exact mod_int hb (hQ _ _ [] (Kp.toks s _) (.int _ _) nofr)
def divF (a b : Int) : Option Int := if 0 < b ∧ b < 1000 then some (a.fdiv b) else none
theorem op_divI : OpIs W k AV.int AV.int AV.int (binaryOp .FloorDiv) divF := by
  intro A hA s v1 v2 F1 F2 Q E a b g _ r1 r2 e hQ
  unfold divF at e
  split at e
  · rename_i hb
    cases e; cases r1; cases r2
    exact floordiv_int (by omega) (hQ _ _ [] (Kp.toks s _) (.int _ _) nofr)
  · cases e
theorem op_eqI : OpIs W k AV.int AV.int AV.bool (compareOp .Eq) (fun a b => some (a == b)) := by
  intro A hA s v1 v2 F1 F2 Q E a b g _ r1 r2 e hQ
  cases e; cases r1; cases r2
  exact eq_int (hQ _ _ [] (Kp.refl s) (.bool _) nofr)
theorem op_neI : OpIs W k AV.int AV.int AV.bool (compareOp .NotEq) (fun a b => some (a != b)) := by
  intro A hA s v1 v2 F1 F2 Q E a b g _ r1 r2 e hQ
  cases e; cases r1; cases r2
  exact ne_int (hQ _ _ [] (Kp.refl s) (.bool _) nofr)
theorem op_ltI : OpIs W k AV.int AV.int AV.bool (compareOp .Lt) (fun a b => some (decide (a < b))) := by
  intro A hA s v1 v2 F1 F2 Q E a b g _ r1 r2 e hQ
  cases e; cases r1; cases r2
  exact lt_int (hQ _ _ [] (Kp.refl s) (.bool _) nofr)

/-! texts -/
theorem txt_append (a b : Sg) : txt a ++ txt b = txt (a ++ b) := by
  show Str.append (txt a) (txt b) = txt (a ++ b)
  simp [Str.append, txt]
theorem txt_len (a : Sg) : (txt a).length = a.length := by simp [txt, Str.length]
theorem txt_inj {a b : Sg} (h : txt a = txt b) : a = b := by
  have := congrArg (fun s : Str => s.cps.toList) h
  simpa [txt] using this
theorem txt_beq (a b : Sg) : (txt a == txt b) = (a == b) := by
  rw [Bool.eq_iff_iff, beq_iff_eq, beq_iff_eq]
  exact ⟨txt_inj, fun h => by rw [h]⟩
theorem txt_bne (a b : Sg) : (txt a != txt b) = (a != b) := by simp only [bne, txt_beq]
/-- the bound on every text of mine -/
def tLine : Nat := 1000
theorem tLine_le : tLine + tLine ≤ sizeLine := by decide
def catF (a b : Sg) : Option Sg := if a.length + b.length ≤ tLine then some (a ++ b) else none
theorem op_addS : OpIs W k AV.str AV.str AV.str (binaryOp .Add) catF := by
  intro A hA s v1 v2 F1 F2 Q E a b g _ r1 r2 e hQ
  unfold catF at e
  split at e
  · rename_i hb
    cases e; cases r1; cases r2
    refine add_str (fun t' tk => ?_) (by rw [txt_len, txt_len]; have := tLine_le; omega)
    rw [txt_append]
    exact hQ _ _ [] (Kp.toks s _) (.str _ _) nofr
  · cases e
theorem op_eqS : OpIs W k AV.str AV.str AV.bool (compareOp .Eq) (fun a b => some (a == b)) := by
  intro A hA s v1 v2 F1 F2 Q E a b g _ r1 r2 e hQ
  cases e; cases r1; cases r2
  refine eq_str ?_
  rw [txt_beq]
  exact hQ _ _ [] (Kp.refl s) (.bool _) nofr
theorem op_neS : OpIs W k AV.str AV.str AV.bool (compareOp .NotEq) (fun a b => some (a != b)) := by
  intro A hA s v1 v2 F1 F2 Q E a b g _ r1 r2 e hQ
  cases e; cases r1; cases r2
  refine ne_str ?_
  rw [txt_bne]
  exact hQ _ _ [] (Kp.refl s) (.bool _) nofr
end
end Mine

namespace Mine
section
variable {W : Wd} {k : Nat} {c : Fx}

theorem op_neL : OpIs W k AV.il AV.il AV.bool (compareOp .NotEq) (fun a b => some (!decide (a = b))) := by
  intro A hA s v1 v2 F1 F2 Q E a b g _ r1 r2 e hQ
  cases e; cases r1 with | il l1 i1 => cases r2 with | il l2 i2 =>
  exact ne_intsK l1.isList i1 l2.isList i2 hA.units64 (hQ _ _ [] (Kp.refl s) (.bool _) nofr)

theorem flatten_rep (a : Sg) (n : Nat) : ((List.replicate n a.toArray).foldl (· ++ ·) #[] : Array Nat) = (List.replicate n a).flatten.toArray := by
  suffices ∀ (n : Nat) (b : Sg), ((List.replicate n a.toArray).foldl (· ++ ·) b.toArray : Array Nat) = (b ++ (List.replicate n a).flatten).toArray by
    simpa using this n []
  intro n
  induction n with
  | zero => intro b; simp
  | succ n ih => intro b; rw [List.replicate_succ, List.foldl_cons, List.append_toArray, ih, List.replicate_succ, List.flatten_cons, List.append_assoc]

def mulF (a : Sg) (n : Int) : Option Sg := if 0 ≤ n ∧ n ≤ 64 ∧ a.length = 1 then some (List.replicate n.toNat a).flatten else none
theorem txt_mul {a : Sg} {n : Int} (h0 : 0 ≤ n) (h1 : a.length = 1) : Txt.mul (txt a) n = txt (List.replicate n.toNat a).flatten := by
  unfold Txt.mul
  by_cases h : n < 1
  · have : n = 0 := by omega
    subst this
    simp [txt, Str.empty]
  · rw [if_neg h]
    by_cases h2 : n = 1
    · subst h2
      simp [txt]
    · rw [if_neg (by simp [txt_len, h1, h2])]
      unfold txt
      rw [flatten_rep]
theorem op_mulS : OpIs W k AV.str AV.int AV.str (binaryOp .Mult) mulF := by
  intro A hA s v1 v2 F1 F2 Q E a n g _ r1 r2 e hQ
  unfold mulF at e
  split at e
  · rename_i hb
    obtain ⟨h0, h1, h2⟩ := hb
    cases e; cases r1; cases r2
    refine SB.mul ⟨by simp; omega, fun _ _ => ?_, fun _ _ => ?_⟩ fun t' kk => ?_
    · rw [txt_len, h2]
      intro hc
      have : (2 ^ 63 - 1) / n ≥ 1 := by
        rw [ge_iff_le, Int.le_ediv_iff_mul_le (by omega)]; omega
      omega
    · rw [txt_len, h2]
      unfold Builtin.Str.tooLong sizeLine
      exact decide_eq_false (by omega)
    · rw [txt_mul h0 h2]
      exact hQ _ _ [] (Kp.toks s _) (.str _ _) nofr
  · cases e

def catL (a b : List Int) : Option (List Int) := if a.length + b.length ≤ tLine then some (a ++ b) else none
theorem op_addL : OpIs W k AV.il AV.il AV.il (binaryOp .Add) catL := by
  intro A hA s v1 v2 F1 F2 Q E a b g _ r1 r2 e hQ
  unfold catL at e
  split at e
  · rename_i hb
    cases e; cases r1 with | @il a1 vs _ l1 i1 => cases r2 with | @il a2 us _ l2 i2 =>
    obtain ⟨n1, e1⟩ := l1
    obtain ⟨n2, e2⟩ := l2
    have hv := i1.length
    have hu := i2.length
    refine P.add_list e1 e2 ?_ (by simp only [List.size_toArray]; have := tLine_le; omega)
    rw [List.append_toArray]
    refine hQ _ _ [s.heap.objs.size] (Kp.of (t := s.toks) fun b o e => Heap.get?_push_of_some _ e) (.il ⟨0, Heap.get?_push_size _ rfl⟩ (i1.append i2)) fun x hx => ?_
    cases hx with
    | head => cases e : s.heap.get? s.heap.objs.size with
      | none => rfl
      | some o => exact absurd (Heap.lt_size e) (Nat.lt_irrefl _)
    | tail _ h => cases h
  · cases e

theorem freshSize {h : Heap} {a : Addr} (ha : h.objs.size ≤ a) : h.get? a = none := by
  cases e : h.get? a with
  | none => rfl
  | some o => exact absurd (Heap.lt_size e) (Nat.not_lt.mpr ha)

/-! items -/
def idxL {α : Type} (xs : List α) (i : Int) : Option α := if 0 ≤ i then (if i < 1000 then xs[i.toNat]? else none) else if -1000 ≤ i then (if 0 ≤ i + xs.length then xs[(i + xs.length).toNat]? else none) else none

theorem getItem_any {A : Around} {s : Shared} {a : Addr} {vs : List Value} {i : Int} {t : Tok} {v : Value} {Q : Value → Shared → Prop} {E : Value → Shared → Prop} (hl : s.heap.IsList a vs.toArray) (h : idxL vs i = some v) (hQ : Q v s) :
    wpAny (model W.prog W.w) A (getItem (.ref a) (.int i t)) Q E s := by
  unfold idxL at h
  split at h
  · rename_i h0
    split at h
    · exact wpAny_getItem_list hl h0 (by omega) (by simpa using h) hQ
    · cases h
  · split at h
    · split at h
      · rename_i h0 h1 h2
        exact wpAny_getItem_list_neg hl (by omega) (by simp; omega) (by omega) (by simpa using h) hQ
      · cases h
    · cases h

theorem idx_map {α β : Type} (f : α → β) (xs : List α) (i : Int) : idxL (xs.map f) i = (idxL xs i).map f := by
  unfold idxL
  simp only [List.length_map, List.getElem?_map]
  repeat' split
  all_goals rfl

theorem idx_ints {vs : List Value} {ns : List Int} (hi : IntsAre vs ns) {i n : Int} (h : idxL ns i = some n) : ∃ t, idxL vs i = some (.int n t) := by
  have hl := hi.length
  unfold idxL at h ⊢
  rw [hl]
  split at h
  · rename_i h0
    rw [if_pos h0]
    split at h
    · rename_i h1
      rw [if_pos h1]
      exact hi.get _ _ h
    · cases h
  · rename_i h0
    rw [if_neg h0]
    split at h
    · rename_i h1
      rw [if_pos h1]
      split at h
      · rename_i h2
        rw [if_pos h2]
        exact hi.get _ _ h
      · cases h
    · cases h

theorem StrsAre.getM : ∀ {vs : List Value} {ys : List Str}, StrsAre vs ys → ∀ (j : Nat) (y : Str), ys[j]? = some y → ∃ t, vs[j]? = some (.str y t)
  | _, _, .nil, j, y, h => by simp at h
  | _, _, .cons y0 t r, 0, y, h => by simp at h; subst h; exact ⟨t, rfl⟩
  | _, _, .cons y0 t r, j + 1, y, h => by
    have := StrsAre.getM r j y (by simpa using h)
    simpa using this

theorem idx_strs {vs : List Value} {ys : List Sg} (hi : StrsAre vs (ys.map txt)) {i : Int} {y : Sg} (h : idxL ys i = some y) : ∃ t, idxL vs i = some (.str (txt y) t) := by
  have hl := hi.length
  rw [List.length_map] at hl
  unfold idxL at h ⊢
  rw [hl]
  have key : ∀ j : Nat, ys[j]? = some y → ∃ t, vs[j]? = some (.str (txt y) t) := fun j e => StrsAre.getM hi j _ (by rw [List.getElem?_map, e]; rfl)
  split at h
  · rename_i h0
    rw [if_pos h0]
    split at h
    · rename_i h1
      rw [if_pos h1]
      exact key _ h
    · cases h
  · rename_i h0
    rw [if_neg h0]
    split at h
    · rename_i h1
      rw [if_pos h1]
      split at h
      · rename_i h2
        rw [if_pos h2]
        exact key _ h
      · cases h
    · cases h

theorem SE_itemI {value slice : Expr} {pos : Pos} {b1 b2 : Bool} {m1 : St → Option (List Int)} {m2 : St → Option Int} (h1 : SE W k c b1 AV.il value m1) (h2 : SE W k c b2 AV.int slice m2)
    (hs : ∀ o i, subscripted slice false o i = operate [o, i] (getItem o i) := by intro _ _; with_unfolding_all rfl) (ht : ∀ a r, letTemporaryGo value (.ref a) r = pure () := by intro _ _; with_unfolding_all rfl) :
    SE W k c true AV.int (.Subscript value slice pos) (op2 idxL m1 m2) := by
  intro A hA σ s V F Q E g R hm hQ
  obtain ⟨a, b, e1, e2, e3⟩ := op2_some hm
  refine Subscript_ (h1 A hA σ s V F _ E a R e1 fun v1 s1 F1 k1 r1 _ => h2 A hA σ s1 V F _ E b (R.kp k1) e2 fun v2 s2 F2 k2 r2 _ => ?_)
  have r1' := r1.keeps k2.heap
  cases r1' with | il l1 i1 => cases r2 with | int _ t =>
  obtain ⟨t', hx⟩ := idx_ints i1 e3
  exact subscriptTail_builtin l1.isList.typeIs slot_list_getitem.lookup (getItem_any l1.isList hx (hQ _ _ [] (k1.trans k2) (.int _ _) fun _ => nofr)) (hs _ _) (ht _)
theorem SE_itemS {value slice : Expr} {pos : Pos} {b1 b2 : Bool} {m1 : St → Option (List Sg)} {m2 : St → Option Int} (h1 : SE W k c b1 AV.sl value m1) (h2 : SE W k c b2 AV.int slice m2)
    (hs : ∀ o i, subscripted slice false o i = operate [o, i] (getItem o i) := by intro _ _; with_unfolding_all rfl) (ht : ∀ a r, letTemporaryGo value (.ref a) r = pure () := by intro _ _; with_unfolding_all rfl) :
    SE W k c true AV.str (.Subscript value slice pos) (op2 idxL m1 m2) := by
  intro A hA σ s V F Q E g R hm hQ
  obtain ⟨a, b, e1, e2, e3⟩ := op2_some hm
  refine Subscript_ (h1 A hA σ s V F _ E a R e1 fun v1 s1 F1 k1 r1 _ => h2 A hA σ s1 V F _ E b (R.kp k1) e2 fun v2 s2 F2 k2 r2 _ => ?_)
  have r1' := r1.keeps k2.heap
  cases r1' with | sl l1 i1 => cases r2 with | int _ t =>
  obtain ⟨t', hx⟩ := idx_strs i1 e3
  exact subscriptTail_builtin l1.isList.typeIs slot_list_getitem.lookup (getItem_any l1.isList hx (hQ _ _ [] (k1.trans k2) (.str _ _) fun _ => nofr)) (hs _ _) (ht _)

def idxT (x : Sg) (i : Int) : Option Sg := if 0 ≤ i ∧ i < 1000 then (match x[i.toNat]? with | some n => some [n] | none => none) else none
theorem SE_itemT {value slice : Expr} {pos : Pos} {b1 b2 : Bool} {m1 : St → Option Sg} {m2 : St → Option Int} (h1 : SE W k c b1 AV.str value m1) (h2 : SE W k c b2 AV.int slice m2)
    (hs : ∀ o i, subscripted slice false o i = operate [o, i] (getItem o i) := by intro _ _; with_unfolding_all rfl) (ht : ∀ x t r, letTemporaryGo value (.str x t) r = pure () := by intro _ _ _; with_unfolding_all rfl) :
    SE W k c true AV.str (.Subscript value slice pos) (op2 idxT m1 m2) := by
  intro A hA σ s V F Q E g R hm hQ
  obtain ⟨a, b, e1, e2, e3⟩ := op2_some hm
  refine Subscript_ (h1 A hA σ s V F _ E a R e1 fun v1 s1 F1 k1 r1 _ => h2 A hA σ s1 V F _ E b (R.kp k1) e2 fun v2 s2 F2 k2 r2 _ => ?_)
  have r1' := r1.keeps k2.heap
  cases r1' with | str _ tx => cases r2 with | int _ t =>
  unfold idxT at e3
  split at e3
  · rename_i hb
    split at e3
    · rename_i n en
      cases e3
      have hlt : b.toNat < a.length := (List.getElem?_eq_some_iff.mp en).1
      have q : wpAny (model W.prog W.w) A (getItem (.str (txt a) tx) (.int b t)) Q E s2 := by
        refine getItem_str (c := n) (by simp; omega) ?_ (hQ _ _ [] ((k1.trans k2).trans (Kp.toks s2 _)) (.str [n] _) fun _ => nofr)
        rw [txt_len, seqIndex_of hb.1 (by omega)]
        simpa [txt] using en
      exact subscriptTail_builtin (typeIs_str _ _ _) PySem.F.slot_str_getitem.lookup q (hs _ _) (ht _ _)
    · cases e3
  · cases e3
end
end Mine

namespace Mine
section
variable {W : Wd} {k : Nat} {c : Fx}

/-! slices -/
theorem evalPart_SE {e : Expr} {b : Bool} {m : St → Option Int} (h : SE W k c b AV.int e m) {A : Around} (hA : AOk k A) {σ : St} {s : Shared} {V : Nat → Value} {F : Nat → List Addr} {Q : Value → Shared → Prop} {E : Value → Shared → Prop} {a : Int}
    (R : Rel W c σ s V F) (hm : m σ = some a) (hQ : ∀ t s', Kp s s' → Q (.int a t) s') : wpAny (model W.prog W.w) A (evalPart (some e) c.env) Q E s :=
  wpAny_evalPart_some (h A hA σ s V F Q E a R hm fun v s' F' kp r _ => by cases r; exact hQ _ _ kp)

def sliceT (x : Sg) (a b : Int) : Option Sg := if 0 ≤ a ∧ a ≤ b ∧ b ≤ x.length ∧ x.length ≤ tLine then some ((x.drop a.toNat).take (b - a).toNat) else none
theorem txt_slice {x : Sg} {a b : Int} (h0 : 0 ≤ a) (h1 : a ≤ b) (h2 : b ≤ x.length) : Txt.slice (txt x) (some a) (some b) = txt ((x.drop a.toNat).take (b - a).toNat) := by
  show StrLaws.sliceText (txt x) (some a) (some b) = _
  rw [StrLaws.sliceText_plain ⟨h0, h1, by simpa [txt] using h2⟩]
  simp [txt]
def op3 {α β γ δ : Type} (f : α → β → γ → Option δ) (m1 : St → Option α) (m2 : St → Option β) (m3 : St → Option γ) (σ : St) : Option δ := match m1 σ with
  | some a => match m2 σ with
    | some b => match m3 σ with
      | some c => f a b c
      | none => none
    | none => none
  | none => none
theorem op3_some {α β γ δ : Type} {f : α → β → γ → Option δ} {m1 : St → Option α} {m2 : St → Option β} {m3 : St → Option γ} {σ : St} {g : δ} (h : op3 f m1 m2 m3 σ = some g) : ∃ a b c, m1 σ = some a ∧ m2 σ = some b ∧ m3 σ = some c ∧ f a b c = some g := by
  unfold op3 at h
  split at h
  · rename_i a e1
    split at h
    · rename_i b e2
      split at h
      · rename_i c e3; exact ⟨a, b, c, e1, e2, e3, h⟩
      · cases h
    · cases h
  · cases h

theorem keptAll {s : Shared} : KeptH (fun h' => ∀ b o, s.heap.get? b = some o → h'.get? b = some o) := fun _ ob h b o e => Heap.get?_push_of_some _ (h b o e)

theorem SE_sliceT {value lo hi : Expr} {p pos : Pos} {b1 b2 b3 : Bool} {m1 : St → Option Sg} {m2 m3 : St → Option Int} (h1 : SE W k c b1 AV.str value m1) (h2 : SE W k c b2 AV.int lo m2) (h3 : SE W k c b3 AV.int hi m3)
    (ht : ∀ x t r, letTemporaryGo value (.str x t) r = pure () := by intro _ _ _; with_unfolding_all rfl) :
    SE W k c true AV.str (.Subscript value (.Slice (some lo) (some hi) none p) pos) (op3 sliceT m1 m2 m3) := by
  intro A hA σ s V F Q E g R hm hQ
  obtain ⟨x, a, b, e1, e2, e3, e4⟩ := op3_some hm
  unfold sliceT at e4
  split at e4
  · rename_i hb
    obtain ⟨g0, g1, g2, g3⟩ := hb
    cases e4
    refine Subscript_ (h1 A hA σ s V F _ E x R e1 fun v1 s1 F1 k1 r1 _ => ?_)
    have R1 := R.kp k1
    cases r1 with | str _ tx =>
    refine wpAny_Slice (evalPart_SE h2 hA R1 e2 fun ta s2 k2 => evalPart_SE h3 hA (R1.kp k2) e3 fun tb s3 k3 => ?_)
    refine wpAny_evalPart_none ?_
    refine tail_of_ItemOn (ops := [.ref s3.heap.objs.size, .str (txt x) tx]) (SBH.sliceItem_ss (P := fun h' => ∀ b o, s3.heap.get? b = some o → h'.get? b = some o) keptAll (fun _ _ e => e) (fun h' t' kk hk => ?_) (by rw [txt_len]; have := tLine_le; omega)) (by with_unfolding_all rfl) (ht _ _)
    rw [txt_slice g0 g1 g2]
    exact hQ _ _ [] (((k1.trans k2).trans k3).trans (Kp.of (t := kk) hk)) (.str _ _) fun _ => nofr
  · cases e4

def sliceFromT (x : Sg) (a : Int) : Option Sg := if 0 ≤ a ∧ a ≤ x.length ∧ x.length ≤ tLine then some (x.drop a.toNat) else none
theorem txt_from {x : Sg} {a : Int} (h0 : 0 ≤ a) (h2 : a ≤ x.length) : Txt.slice (txt x) (some a) none = txt (x.drop a.toNat) := by
  show StrLaws.sliceText (txt x) (some a) none = _
  rw [StrLaws.sliceText_from ⟨h0, by simpa [txt] using h2⟩]
  simp only [txt]
  congr 2
  apply List.take_of_length_le
  simp; omega
theorem SE_sliceFromT {value lo : Expr} {p pos : Pos} {b1 b2 : Bool} {m1 : St → Option Sg} {m2 : St → Option Int} (h1 : SE W k c b1 AV.str value m1) (h2 : SE W k c b2 AV.int lo m2)
    (ht : ∀ x t r, letTemporaryGo value (.str x t) r = pure () := by intro _ _ _; with_unfolding_all rfl) :
    SE W k c true AV.str (.Subscript value (.Slice (some lo) none none p) pos) (op2 sliceFromT m1 m2) := by
  intro A hA σ s V F Q E g R hm hQ
  obtain ⟨x, a, e1, e2, e4⟩ := op2_some hm
  unfold sliceFromT at e4
  split at e4
  · rename_i hb
    obtain ⟨g0, g2, g3⟩ := hb
    cases e4
    refine Subscript_ (h1 A hA σ s V F _ E x R e1 fun v1 s1 F1 k1 r1 _ => ?_)
    have R1 := R.kp k1
    cases r1 with | str _ tx =>
    refine wpAny_Slice (evalPart_SE h2 hA R1 e2 fun ta s2 k2 => wpAny_evalPart_none (wpAny_evalPart_none ?_))
    refine tail_of_ItemOn (ops := [.ref s2.heap.objs.size, .str (txt x) tx]) (SBH.sliceItem_sn (P := fun h' => ∀ b o, s2.heap.get? b = some o → h'.get? b = some o) keptAll (fun _ _ e => e) (fun h' t' kk hk => ?_) (by rw [txt_len]; have := tLine_le; omega)) (by with_unfolding_all rfl) (ht _ _)
    rw [txt_from g0 g2]
    exact hQ _ _ [] ((k1.trans k2).trans (Kp.of (t := kk) hk)) (.str _ _) fun _ => nofr
  · cases e4

def takeL (x : List Int) (a : Int) : Option (List Int) := if 0 ≤ a ∧ x.length ≤ tLine then some (x.take a.toNat) else none
def dropL (x : List Int) (a : Int) : Option (List Int) := if 0 ≤ a ∧ x.length ≤ tLine then some (x.drop a.toNat) else none

theorem two_push {h : Heap} (o1 o2 : Obj) : ∀ b o, h.get? b = some o → ((h.push o1).push o2).get? b = some o := fun _ _ e => Heap.get?_push_of_some _ (Heap.get?_push_of_some _ e)

theorem SE_takeL {value hi : Expr} {p pos : Pos} {b1 b2 : Bool} {m1 : St → Option (List Int)} {m2 : St → Option Int} (h1 : SE W k c b1 AV.il value m1) (h2 : SE W k c b2 AV.int hi m2)
    (ht : ∀ o r, letTemporaryGo value o r = pure () := by intro _ _; rfl) : SE W k c true AV.il (.Subscript value (.Slice none (some hi) none p) pos) (op2 takeL m1 m2) := by
  intro A hA σ s V F Q E g R hm hQ
  obtain ⟨x, a, e1, e2, e4⟩ := op2_some hm
  unfold takeL at e4
  split at e4
  · rename_i hb
    cases e4
    refine wpAny_Subscript_list_slice (h1 A hA σ s V F _ E x R e1 fun v1 s1 F1 k1 r1 _ => wpAny_evalPart_none (evalPart_SE h2 hA (R.kp k1) e2 fun ta s2 k2 => ?_)) ht
    have r1' := r1.keeps k2.heap
    cases r1' with | @il al vs _ l1 i1 =>
    have hl := i1.length
    refine ⟨al, _, none, some a, rfl, l1.isList, by simp only [List.size_toArray]; have := tLine_le; omega, .none, .int _ _, ?_⟩
    have hz := slice_ints_uptoW i1 hb.1
    have e : slicePick vs.toArray none (some a) none = ((slicePick vs.toArray none (some a) none).toList).toArray := by simp
    rw [e]
    refine hQ _ _ [s2.heap.objs.size + 1] ((k1.trans k2).trans (Kp.of (t := s2.toks) (two_push _ _))) (.il ⟨0, ?_⟩ hz) fun _ y hy => ?_
    · have := Heap.get?_push_size (s2.heap.push { cls := .type "slice", data := .fields #[.none, .int a ta, .none] }) (o := { cls := .type "list", data := .seq (slicePick vs.toArray none (some a) none).toList.toArray }) rfl
      rw [Heap.size_push] at this; exact this
    · cases hy with
      | head => exact fresh_of (k1.trans k2) (freshSize (Nat.le_succ _))
      | tail _ h => cases h
  · cases e4

theorem SE_dropL {value lo : Expr} {p pos : Pos} {b1 b2 : Bool} {m1 : St → Option (List Int)} {m2 : St → Option Int} (h1 : SE W k c b1 AV.il value m1) (h2 : SE W k c b2 AV.int lo m2)
    (ht : ∀ o r, letTemporaryGo value o r = pure () := by intro _ _; rfl) : SE W k c true AV.il (.Subscript value (.Slice (some lo) none none p) pos) (op2 dropL m1 m2) := by
  intro A hA σ s V F Q E g R hm hQ
  obtain ⟨x, a, e1, e2, e4⟩ := op2_some hm
  unfold dropL at e4
  split at e4
  · rename_i hb
    cases e4
    refine wpAny_Subscript_list_slice (h1 A hA σ s V F _ E x R e1 fun v1 s1 F1 k1 r1 _ => evalPart_SE h2 hA (R.kp k1) e2 fun ta s2 k2 => wpAny_evalPart_none ?_) ht
    have r1' := r1.keeps k2.heap
    cases r1' with | @il al vs _ l1 i1 =>
    have hl := i1.length
    refine ⟨al, _, some a, none, rfl, l1.isList, by simp only [List.size_toArray]; have := tLine_le; omega, .int _ _, .none, ?_⟩
    have hz := slice_ints_fromW i1 hb.1
    have e : slicePick vs.toArray (some a) none none = ((slicePick vs.toArray (some a) none none).toList).toArray := by simp
    rw [e]
    refine hQ _ _ [s2.heap.objs.size + 1] ((k1.trans k2).trans (Kp.of (t := s2.toks) (two_push _ _))) (.il ⟨0, ?_⟩ hz) fun _ y hy => ?_
    · have := Heap.get?_push_size (s2.heap.push { cls := .type "slice", data := .fields #[.int a ta, .none, .none] }) (o := { cls := .type "list", data := .seq (slicePick vs.toArray (some a) none none).toList.toArray }) rfl
      rw [Heap.size_push] at this; exact this
    · cases hy with
      | head => exact fresh_of (k1.trans k2) (freshSize (Nat.le_succ _))
      | tail _ h => cases h
  · cases e4

end
end Mine

namespace Mine
section
variable {W : Wd} {k : Nat} {c : Fx}

/-! displays -/
inductive SEs (W : Wd) (k : Nat) (c : Fx) {α : Type} (inj : α → AV) : List Expr → List (St → Option α) → Prop
  | nil : SEs W k c inj [] []
  | cons {b e m es ms} : SE W k c b inj e m → (∀ rest, starEach (e :: rest) c.env = (false, eval e c.env) :: starEach rest c.env) → SEs W k c inj es ms → SEs W k c inj (e :: es) (m :: ms)

def mAll {α : Type} : List (St → Option α) → St → Option (List α)
  | [], _ => some []
  | m :: ms, σ => match m σ with
    | some a => match mAll ms σ with
      | some r => some (a :: r)
      | none => none
    | none => none

inductive ValsAre {α : Type} (inj : α → AV) : List Value → List α → Prop
  | nil : ValsAre inj [] []
  | cons {v a vs as} : (∀ C h, Rep C h [] v (inj a)) → ValsAre inj vs as → ValsAre inj (v :: vs) (a :: as)

theorem ints_of_vals : ∀ {vs : List Value} {ns : List Int}, ValsAre AV.int vs ns → IntsAre vs ns
  | _, _, .nil => .nil
  | _, _, .cons h r => by
    have := h 0 {}
    cases this
    exact .cons _ _ (ints_of_vals r)
theorem strs_of_vals : ∀ {vs : List Value} {ys : List Sg}, ValsAre AV.str vs ys → StrsAre vs (ys.map txt)
  | _, _, .nil => .nil
  | _, _, .cons h r => by
    have := h 0 {}
    cases this
    exact .cons _ _ (strs_of_vals r)

def Scal' {α : Type} (inj : α → AV) : Prop := ∀ (C : Addr) (h : Heap) (F : List Addr) (v : Value) (a : α), Rep C h F v (inj a) → ∀ C' h', Rep C' h' [] v (inj a)
theorem scal'_int : Scal' AV.int := fun _ _ _ _ _ r => by cases r; exact fun _ _ => .int _ _
theorem scal'_bool : Scal' AV.bool := fun _ _ _ _ _ r => by cases r; exact fun _ _ => .bool _
theorem scal'_str : Scal' AV.str := fun _ _ _ _ _ r => by cases r; exact fun _ _ => .str _ _

theorem spl_vals {α : Type} {inj : α → AV} (hi : Scal' inj) {pos : Pos} {A : Around} (hA : AOk k A) {σ : St} {V : Nat → Value} {F : Nat → List Addr} {E : Value → Shared → Prop} :
    ∀ {es : List Expr} {ms : List (St → Option α)}, SEs W k c inj es ms → ∀ {s : Shared} {Q : List Value → Shared → Prop} {as : List α}, Rel W c σ s V F → mAll ms σ = some as →
      (∀ vs s', Kp s s' → ValsAre inj vs as → Q vs s') → wpAny (model W.prog W.w) A (spliced (backTo pos (starEach es c.env))) Q E s := by
  intro es ms h
  induction h with
  | nil => intro s Q as R hm hQ; cases hm; exact args_nil (hQ _ _ (Kp.refl s) .nil)
  | @cons b e m es ms h1 hs h2 ih =>
    intro s Q as R hm hQ
    unfold mAll at hm
    split at hm
    · rename_i a e1
      split at hm
      · rename_i r e2
        cases hm
        refine args_cons (he := hs _) (h1 A hA σ s V F _ E a R e1 fun v s' F' k1 r1 _ => ih (R.kp k1) e2 fun vs s'' k2 hv => hQ _ _ (k1.trans k2) (.cons (hi _ _ _ _ _ r1) hv))
      · cases hm
    · cases hm

def listI (ms : List (St → Option Int)) (σ : St) : Option (List Int) := match mAll ms σ with
  | some l => if l.length ≤ tLine then some l else none
  | none => none
def listS (ms : List (St → Option Sg)) (σ : St) : Option (List Sg) := match mAll ms σ with
  | some l => if l.length ≤ tLine then some l else none
  | none => none

theorem fresh1 {s s' : Shared} (kp : Kp s s') {n : Nat} (hn : s'.heap.objs.size ≤ n) : ∀ x ∈ [n], s.heap.get? x = none := fun x hx => by
  cases hx with
  | head => exact fresh_of kp (freshSize hn)
  | tail _ h => cases h

theorem SE_listI {es : List Expr} {ms : List (St → Option Int)} {pos : Pos} (h : SEs W k c AV.int es ms) : SE W k c true AV.il (.List es pos) (listI ms) := by
  intro A hA σ s V F Q E g R hm hQ
  unfold listI at hm
  split at hm
  · rename_i l e1
    split at hm
    · rename_i hz
      cases hm
      refine List_ (spl_vals scal'_int hA h R e1 fun vs s' kp hv => ?_)
      have iv := ints_of_vals hv
      have hl := iv.length
      refine wpAny_newObj_type ?_ (by show vs.toArray.size ≤ sizeLine; simp only [List.size_toArray]; have := tLine_le; omega)
      exact hQ _ _ [s'.heap.objs.size] (kp.trans (Kp.of (t := s'.toks) fun b o e => Heap.get?_push_of_some _ e)) (.il ⟨0, Heap.get?_push_size _ rfl⟩ iv) fun _ => fresh1 kp (Nat.le_refl _)
    · cases hm
  · cases hm
theorem SE_listS {es : List Expr} {ms : List (St → Option Sg)} {pos : Pos} (h : SEs W k c AV.str es ms) : SE W k c true AV.sl (.List es pos) (listS ms) := by
  intro A hA σ s V F Q E g R hm hQ
  unfold listS at hm
  split at hm
  · rename_i l e1
    split at hm
    · rename_i hz
      cases hm
      refine List_ (spl_vals scal'_str hA h R e1 fun vs s' kp hv => ?_)
      have iv := strs_of_vals hv
      have hl := iv.length
      rw [List.length_map] at hl
      refine wpAny_newObj_type ?_ (by show vs.toArray.size ≤ sizeLine; simp only [List.size_toArray]; have := tLine_le; omega)
      exact hQ _ _ [s'.heap.objs.size] (kp.trans (Kp.of (t := s'.toks) fun b o e => Heap.get?_push_of_some _ e)) (.sl ⟨0, Heap.get?_push_size _ rfl⟩ iv) fun _ => fresh1 kp (Nat.le_refl _)
    · cases hm
  · cases hm

/-! calls of built-in functions with one argument -/
def Op1 (W : Wd) (k : Nat) {α γ : Type} (i1 : α → AV) (i3 : γ → AV) (op : Value → Sem Value) (f : α → Option γ) : Prop :=
  ∀ (A : Around), AOk k A → ∀ (s : Shared) (v1 : Value) (F1 : List Addr) (Q : Value → Shared → Prop) (E : Value → Shared → Prop) (a : α) (g : γ),
    (∀ b o, W.G.get? b = some o → s.heap.get? b = some o) → Rep W.C s.heap F1 v1 (i1 a) → f a = some g →
    (∀ v s' F', Kp s s' → Rep W.C s'.heap F' v (i3 g) → (∀ x ∈ F', s.heap.get? x = none) → Q v s') → wpAny (model W.prog W.w) A (op v1) Q E s
def op1 {α γ : Type} (f : α → Option γ) (m1 : St → Option α) (σ : St) : Option γ := match m1 σ with
  | some a => f a
  | none => none
theorem op1_some {α γ : Type} {f : α → Option γ} {m1 : St → Option α} {σ : St} {g : γ} (h : op1 f m1 σ = some g) : ∃ a, m1 σ = some a ∧ f a = some g := by
  unfold op1 at h
  split at h
  · rename_i a e1; exact ⟨a, e1, h⟩
  · cases h

/-- a built-in's name in a frame -/
theorem wp_builtin (T : TopF W) (O : c.Ok W) {x : Str} {pos : Pos} {v : Value} {A : Around} {σ : St} {s : Shared} {V : Nat → Value} {F : Nat → List Addr} {Q : Value → Shared → Prop} {E : Value → Shared → Prop} (R : Rel W c σ s V F)
    (hv : bootBuiltins x = some v) (hg : W.mg x = none) (hx : c.env.kindOf x = some .globalImplicit) (hQ : Q v s) (hn : x ≠ "__name__" := by decide) (hd : (x == ("__debug__" : Str)) = false := by decide) :
    wpAny (model W.prog W.w) A (eval (.Name x pos) c.env) Q E s := by
  refine Calls.Name_function_global O.kind hx ?_ hd
  refine Calls.loadGlobal_builtin (mg := W.mg) (mb := W.mb) ?_ hg ?_ (by rw [T.bb x hn]; exact hv) hQ
  · rw [O.glob]; exact T.g.keeps R.top
  · rw [O.blt]; exact T.b.keeps R.top

theorem SE_call1 {α γ : Type} {i1 : α → AV} {i3 : γ → AV} {f : α → Option γ} {b1 : Bool} {x : Str} {id : String} {e : Expr} {m1 : St → Option α} {p pos : Pos} (T : TopF W) (O : c.Ok W)
    (hv : bootBuiltins x = some (.builtin id)) (hg : W.mg x = none) (hx : c.env.kindOf x = some .globalImplicit) (h1 : SE W k c b1 i1 e m1) (h : Op1 W k i1 i3 (fun v => call (.builtin id) [v]) f)
    (hn : x ≠ "__name__" := by decide) (hd : (x == ("__debug__" : Str)) = false := by decide)
    (he : eval (.Call (.Name x p) [e] [] pos) c.env = (do callWith pos (← eval (.Name x p) c.env) [] (backTo pos (starEach [e] c.env)) (backToKw pos (keywordEach [] c.env))) := by rfl)
    (hs : ∀ rest, starEach (e :: rest) c.env = (false, eval e c.env) :: starEach rest c.env := by intro _; rfl) :
    SE W k c true i3 (.Call (.Name x p) [e] [] pos) (op1 f m1) := by
  intro A hA σ s V F Q E g R hm hQ
  obtain ⟨a, e1, e3⟩ := op1_some hm
  refine Call_ (he := he) (wp_builtin T O R hv hg hx (hn := hn) (hd := hd) ?_)
  refine callWith_builtin1 (he := hs _) (args_cons (he := hs _) (h1 A hA σ s V F _ E a R e1 fun v1 s1 F1 k1 r1 _ => args_nil ?_))
  exact h A hA s1 v1 F1 Q E a g (R.kp k1).top r1 e3 fun v s' F' k2 r' hf => hQ v s' F' (k1.trans k2) r' fun _ x hx => fresh_of k1 (hf x hx)

def lenF {α : Type} (x : List α) : Option Int := if x.length ≤ tLine then some (x.length : Int) else none
theorem op_lenT : Op1 W k AV.str AV.int (fun v => call (.builtin "len") [v]) lenF := by
  intro A hA s v1 F1 Q E a g _ r1 e hQ
  unfold lenF at e
  split at e
  · rename_i hz
    cases e; cases r1
    refine len_str (by rw [txt_len]; have := tLine_le; unfold tLine at *; omega) ?_
    rw [txt_len]
    exact hQ _ _ [] (Kp.toks s _) (.int _ _) nofr
  · cases e
theorem op_lenL : Op1 W k AV.il AV.int (fun v => call (.builtin "len") [v]) lenF := by
  intro A hA s v1 F1 Q E a g _ r1 e hQ
  unfold lenF at e
  split at e
  · rename_i hz
    cases e; cases r1 with | @il al vs _ l1 i1 =>
    have hl := i1.length
    refine len_list l1.isList (by simp only [List.size_toArray]; unfold tLine at hz; omega) ?_
    simp only [List.size_toArray, hl]
    exact hQ _ _ [] (Kp.toks s _) (.int _ _) nofr
  · cases e

def small (l : List Int) : Bool := l.all fun x => decide (-1000 ≤ x) && decide (x ≤ 1000)
theorem small_mem {l : List Int} (h : small l = true) : ∀ x ∈ l, -1000 ≤ x ∧ x ≤ 1000 := fun x hx => by
  have := List.all_eq_true.mp h x hx
  simpa using this
theorem sum_small : ∀ {l : List Int}, (∀ x ∈ l, -1000 ≤ x ∧ x ≤ 1000) → -1000 * (l.length : Int) ≤ l.sum ∧ l.sum ≤ 1000 * (l.length : Int)
  | [], _ => by simp
  | x :: r, h => by
    have h1 := h x (.head _)
    have h2 := sum_small (l := r) fun y hy => h y (.tail _ hy)
    simp only [List.sum_cons, List.length_cons]
    omega
theorem sumFits_small {l : List Int} (h : small l = true) (hz : l.length ≤ tLine) : PySem.SumFits l := by
  intro j hj
  have hm := small_mem h
  unfold tLine at hz
  constructor
  · have : l.getD j 0 ∈ l := getD_mem hj
    have := hm _ this
    unfold InLong; omega
  · have h2 := sum_small (l := l.take (j + 1)) fun y hy => hm y (List.mem_of_mem_take hy)
    have h3 : (l.take (j + 1)).length ≤ 1000 := by rw [List.length_take]; omega
    unfold InLong; omega

def sumF (x : List Int) : Option Int := if small x && decide (x.length ≤ tLine) then some x.sum else none
theorem op_sum : Op1 W k AV.il AV.int (fun v => call (.builtin "sum") [v]) sumF := by
  intro A hA s v1 F1 Q E a g _ r1 e hQ
  unfold sumF at e
  split at e
  · rename_i hz
    rw [Bool.and_eq_true, decide_eq_true_eq] at hz
    cases e; cases r1 with | @il al vs _ l1 i1 =>
    obtain ⟨xs, hx⟩ := i1.allInts.items
    have hnum : xs.toList.map (·.1) = a := by
      rw [← nums_intItems, ← hx]; exact i1.numsOf
    have hlen : xs.size = a.length := by rw [← hnum]; simp
    rw [hx] at l1
    have hfit := sumFits_small hz.1 hz.2
    refine sum_intList hA.hh l1.isList (fun j hj => ?_) fun h' tk t' hk => ?_
    · rw [numAt_eq, preSum_eq, hnum]; exact hfit j (by omega)
    · rw [preSum_eq, hnum, hlen, List.take_length]
      exact hQ _ _ [] (Kp.of hk) (.int _ _) nofr
  · cases e

def maxF (x : List Int) : Option Int := match x with
  | [] => none
  | a :: r => some (r.foldl (fun m y => if m < y then y else m) a)
theorem fold_max : ∀ (r : List Int) (a : Int), (r.foldl (fun m y => if m < y then y else m) a) ∈ a :: r ∧ ∀ y ∈ a :: r, y ≤ r.foldl (fun m y => if m < y then y else m) a
  | [], a => by simp
  | b :: r, a => by
    rw [List.foldl_cons]
    have hz : ∃ z, (if a < b then b else a) = z ∧ a ≤ z ∧ b ≤ z ∧ (z = a ∨ z = b) := by
      by_cases h : a < b
      · exact ⟨b, if_pos h, by omega, Int.le_refl _, .inr rfl⟩
      · exact ⟨a, if_neg h, Int.le_refl _, by omega, .inl rfl⟩
    obtain ⟨z, ez, ha, hb, hc⟩ := hz
    rw [ez]
    obtain ⟨h1, h2⟩ := fold_max r z
    have h3 := h2 z (.head _)
    constructor
    · rcases List.mem_cons.mp h1 with e | e
      · rw [e]; rcases hc with e | e <;> rw [e] <;> simp
      · exact .tail _ (.tail _ e)
    · intro y hy
      rcases List.mem_cons.mp hy with e | hy
      · subst e; exact Int.le_trans ha h3
      · rcases List.mem_cons.mp hy with e | hy
        · subst e; exact Int.le_trans hb h3
        · exact h2 y (.tail _ hy)
theorem op_max : Op1 W k AV.il AV.int (fun v => call (.builtin "max") [v]) maxF := by
  intro A hA s v1 F1 Q E a g _ r1 e hQ
  unfold maxF at e
  split at e
  · cases e
  · rename_i _ a0 r
    cases e; cases r1 with | @il al vs _ l1 i1 =>
    obtain ⟨xs, hx⟩ := i1.allInts.items
    have hnum : xs.toList.map (·.1) = a0 :: r := by
      rw [← nums_intItems, ← hx]; exact i1.numsOf
    have hlen : xs.size = r.length + 1 := by
      have := congrArg List.length hnum
      simpa using this
    rw [hx] at l1
    refine max_intList hA.hh l1.isList (by omega) fun v h' tk hv hk => ?_
    obtain ⟨t, rfl⟩ := intItems_at hv
    obtain ⟨h1, h2⟩ := argBest_gt (numAt xs) (xs.size - 1)
    obtain ⟨g1, g2⟩ := fold_max r a0
    have key : numAt xs (argBest (fun i j => decide (numAt xs i > numAt xs j)) (xs.size - 1)) = r.foldl (fun m y => if m < y then y else m) a0 := by
      apply Int.le_antisymm
      · apply g2
        rw [numAt_eq, hnum]; exact getD_mem (by rw [List.length_cons]; omega)
      · rw [← hnum] at g1
        obtain ⟨j, hj, e⟩ := mem_getD g1
        rw [← e, ← numAt_eq]
        have hj' : j < xs.size := by simpa using hj
        exact h2 j (by omega)
    rw [key]
    exact hQ _ _ [] (Kp.of hk) (.int _ _) nofr
end
end Mine

namespace Mine
section
variable {W : Wd} {k : Nat} {c : Fx}

/-! methods of lists and texts, one argument -/
theorem SE_meth1 {α β γ : Type} {i0 : α → AV} {i1 : β → AV} {i3 : γ → AV} {f : α → β → Option γ} {b0 b1 : Bool} {o e : Expr} {name : Str} {id : String} {apos pos : Pos} {pl : Sem Bool} {m0 : St → Option α} {m1 : St → Option β}
    (h0 : SE W k c b0 i0 o m0) (h1 : SE W k c b1 i1 e m1)
    (gm : ∀ (A : Around) (s : Shared) (F : List Addr) (v : Value) (a : α) (Q : Value × List Value → Shared → Prop) (E : Value → Shared → Prop), Rep W.C s.heap F v (i0 a) → Q (.builtin id, [v]) s → wpAny (model W.prog W.w) A (getMethod v name pl) Q E s)
    (h : OpIs W k i0 i1 i3 (fun v w => call (.builtin id) [v, w]) f)
    (he : eval (.Call (.Attribute o name apos) [e] [] pos) c.env = (do
      let ov ← eval o c.env
      standAt apos.atName
      let (f, first) ← holding [ov] (getMethod ov name pl)
      callWith pos f first (backTo pos (starEach [e] c.env)) []) := by rfl)
    (hs : ∀ rest, starEach (e :: rest) c.env = (false, eval e c.env) :: starEach rest c.env := by intro _; rfl) :
    SE W k c true i3 (.Call (.Attribute o name apos) [e] [] pos) (op2 f m0 m1) := by
  intro A hA σ s V F Q E g R hm hQ
  obtain ⟨a, b, e1, e2, e3⟩ := op2_some hm
  refine MethodCall_ (pl := pl) (he := he) (h0 A hA σ s V F _ E a R e1 fun v0 s0 F0 k0 r0 _ => gm A s0 F0 v0 a _ E r0 ?_)
  refine callWith_method1 (he := hs _) (args_cons (he := hs _) (h1 A hA σ s0 V F _ E b (R.kp k0) e2 fun v1 s1 F1 k1 r1 _ => args_nil ?_))
  exact h A hA s1 v0 v1 F0 F1 Q E a b g ((R.kp k0).kp k1).top (r0.keeps k1.heap) r1 e3 fun v s' F' k2 r' hf => hQ v s' F' ((k0.trans k1).trans k2) r' fun _ x hx => fresh_of (k0.trans k1) (hf x hx)

theorem gm_list {name : Str} {id : String} {pl : Sem Bool} (slot : Slot "list" name id) (hty : typeOf (.builtin id) = pure (.type "method_descriptor")) :
    ∀ (A : Around) (s : Shared) (F : List Addr) (v : Value) (a : List Int) (Q : Value × List Value → Shared → Prop) (E : Value → Shared → Prop), Rep W.C s.heap F v (AV.il a) → Q (.builtin id, [v]) s → wpAny (model W.prog W.w) A (getMethod v name pl) Q E s := by
  intro A s F v a Q E r h
  cases r with | il l i =>
  obtain ⟨n, e⟩ := l
  exact getMethod_list_of slot hty ⟨_, e, rfl, n, rfl⟩ ⟨_, e, rfl⟩ h
theorem gm_str {name : Str} {id : String} {pl : Sem Bool} (slot : Slot "str" name id) (hty : typeOf (.builtin id) = pure (.type "method_descriptor")) :
    ∀ (A : Around) (s : Shared) (F : List Addr) (v : Value) (a : Sg) (Q : Value × List Value → Shared → Prop) (E : Value → Shared → Prop), Rep W.C s.heap F v (AV.str a) → Q (.builtin id, [v]) s → wpAny (model W.prog W.w) A (getMethod v name pl) Q E s := by
  intro A s F v a Q E r h
  cases r
  exact GM.of _ (typeIs_str _ _ _) slot hty GM.noRef h

theorem op_count : OpIs W k AV.il AV.int AV.int (fun v w => call (.builtin "list.count") [v, w]) (fun l x => some (l.count x : Nat)) := by
  intro A hA s v1 v2 F1 F2 Q E a b g _ r1 r2 e hQ
  cases e; cases r1 with | il l1 i1 => cases r2 with | int _ _ =>
  exact count_list_ints l1.isList i1 (hQ _ _ [] (Kp.toks s _) (.int _ _) nofr)

def idxF (l : List Int) (x : Int) : Option Int := if l.length ≤ tLine ∧ l.idxOf x < l.length then some (l.idxOf x : Nat) else none
theorem op_index : OpIs W k AV.il AV.int AV.int (fun v w => call (.builtin "list.index") [v, w]) idxF := by
  intro A hA s v1 v2 F1 F2 Q E a b g _ r1 r2 e hQ
  unfold idxF at e
  split at e
  · rename_i hb
    obtain ⟨hz, hx⟩ := hb
    cases e; cases r1 with | @il al vs _ l1 i1 => cases r2 with | int _ t =>
    obtain ⟨n, ho⟩ := l1
    have hl := i1.length
    refine call_meets PySem.F.slot_list_index ⟨_, ho, rfl⟩ PySem.F.entry_list_index (PySem.F.args_list_index_2 _ _)
      (MeetsSeq.list_index al vs.toArray n (.int b t) (isInt b) (fun y hy => eq_isInt b t i1 y (by simpa using hy)) (a.idxOf b) (by simpa [hl] using hx) (by unfold tLine at hz; omega) ?_ ?_) ⟨ho, hQ _ _ [] (Kp.toks s _) (.int _ _) nofr⟩
    · show isInt b vs[a.idxOf b] = true
      rw [isInt_at b i1 _ (by omega) hx]
      simpa using List.getElem_idxOf hx
    · intro j hjs hlt
      show isInt b vs[j] = false
      rw [isInt_at b i1 j (by simpa using hjs) (by omega)]
      exact ne_of_lt_idxOf hlt _
  · cases e

def joinF (sep : Sg) (ys : List Sg) : Option Sg := match sep, ys with
  | [], ys => if ys.flatten.length ≤ tLine ∧ ys.length ≤ tLine then some ys.flatten else none
  | x :: r, [y] => if y.length ≤ tLine ∧ (x :: r).length ≤ tLine then some y else none
  | _, _ => none
theorem glued_fold : ∀ (ys : List Sg) (acc : Sg), ((ys.map txt).foldl (fun (acc : Array Nat) (p : Str) => acc ++ (txt []).cps ++ p.cps) acc.toArray) = (acc ++ ys.flatten).toArray
  | [], acc => by simp
  | y :: r, acc => by
    rw [List.map_cons, List.foldl_cons]
    have : (acc.toArray ++ (txt []).cps ++ (txt y).cps : Array Nat) = (acc ++ y).toArray := by simp [txt]
    rw [this, glued_fold r, List.flatten_cons, List.append_assoc]
theorem join_nil (ys : List Sg) : Txt.join (txt []) (ys.map txt) = txt ys.flatten := by
  show Builtin.Str.glued _ _ = _
  unfold Builtin.Str.glued
  cases ys with
  | nil => rfl
  | cons y r =>
    show Str.mk (List.foldl _ (txt y).cps (r.map txt)) = _
    rw [show (txt y).cps = (y : Sg).toArray from rfl, glued_fold]
    rfl
theorem sum_txt : ∀ ys : List Sg, ((ys.map txt).map (·.length)).sum = ys.flatten.length
  | [] => rfl
  | y :: r => by simp only [List.map_cons, List.sum_cons, List.flatten_cons, List.length_append, txt_len, sum_txt r]
theorem op_join : OpIs W k AV.str AV.sl AV.str (fun v w => call (.builtin "str.join") [v, w]) joinF := by
  intro A hA s v1 v2 F1 F2 Q E a b g _ r1 r2 e hQ
  unfold joinF at e
  split at e
  · split at e
    · rename_i hb
      cases e; cases r1; cases r2 with | sl l2 i2 =>
      refine join_list l2.isList i2 (by rw [sum_txt, txt_len]; unfold tLine at hb; simp only [List.length_map, List.length_nil]; omega) fun t' kk => ?_
      rw [join_nil]
      exact hQ _ _ [] (Kp.toks s _) (.str _ _) nofr
    · cases e
  · split at e
    · rename_i x r y hb
      cases e; cases r1; cases r2 with | sl l2 i2 =>
      refine join_list l2.isList i2 (by rw [sum_txt, txt_len]; unfold tLine at hb; simp only [List.length_map, List.length_cons, List.length_nil, List.flatten_cons, List.flatten_nil, List.length_append] at *; omega) fun t' kk => ?_
      have : Txt.join (txt (x :: r)) ([g].map txt) = txt g := by
        show Builtin.Str.glued _ _ = _
        simp [Builtin.Str.glued, txt]
      rw [this]
      exact hQ _ _ [] (Kp.toks s _) (.str _ _) nofr
    · cases e
  · cases e

/-! tests -/
def ST (W : Wd) (k : Nat) (c : Fx) (e : Expr) (m : St → Option Bool) : Prop :=
  ∀ (A : Around), AOk k A → ∀ (σ : St) (s : Shared) (V : Nat → Value) (F : Nat → List Addr) (Q : Bool → Shared → Prop) (E : Value → Shared → Prop) (b : Bool),
    Rel W c σ s V F → m σ = some b → (∀ s', Kp s s' → Q b s') → wpAny (model W.prog W.w) A (isTrue e c.env (eval e c.env)) Q E s

theorem ST_cmp {α β : Type} {i1 : α → AV} {i2 : β → AV} {f : α → β → Option Bool} {b1 b2 : Bool} {l r : Expr} {m1 : St → Option α} {m2 : St → Option β} {o : CmpOp} {pos : Pos}
    (h1 : SE W k c b1 i1 l m1) (h2 : SE W k c b2 i2 r m2) (h : OpIs W k i1 i2 AV.bool (compareOp o) f) (hb : behindInMarks o r = false := by with_unfolding_all rfl) : ST W k c (.Compare l [o] [r] pos) (op2 f m1 m2) := by
  intro A hA σ s V F Q E g R hm hQ
  obtain ⟨a, b, e1, e2, e3⟩ := op2_some hm
  refine wpAny_isTrue_Compare1 (hm := hb) (h1 A hA σ s V F _ E a R e1 fun v1 s1 F1 k1 r1 _ => h2 A hA σ s1 V F _ E b (R.kp k1) e2 fun v2 s2 F2 k2 r2 _ => ?_)
  refine h A hA s2 v1 v2 F1 F2 _ E a b g ((R.kp k1).kp k2).top (r1.keeps k2.heap) r2 e3 fun v s' F' k3 r' _ => ?_
  cases r'
  exact wpAny_truthy_bool (hQ _ ((k1.trans k2).trans k3))
theorem ST_plain {b1 : Bool} {e : Expr} {m : St → Option Bool} (h : SE W k c b1 AV.bool e m) (he : ∀ whole, isTrue e c.env whole = (do let v ← whole; standAt e.pos; holding [v] (truthy v)) := by intro _; rfl) : ST W k c e m := by
  intro A hA σ s V F Q E g R hm hQ
  refine isTrue_plain (he := he _) (h A hA σ s V F _ E g R hm fun v s' F' kp r _ => ?_)
  cases r
  exact wpAny_truthy_bool (hQ _ kp)
def orM (m1 m2 : St → Option Bool) (σ : St) : Option Bool := match m1 σ with
  | some true => some true
  | some false => m2 σ
  | none => none
theorem ST_or {e1 e2 : Expr} {m1 m2 : St → Option Bool} {pos : Pos} (h1 : ST W k c e1 m1) (h2 : ST W k c e2 m2) : ST W k c (.BoolOp .Or [e1, e2] pos) (orM m1 m2) := by
  intro A hA σ s V F Q E g R hm hQ
  unfold orM at hm
  split at hm
  · rename_i e
    cases hm
    exact isTrue_or (h1 A hA σ s V F _ E true R e fun s' kp => by simpa using hQ s' kp)
  · rename_i e
    refine isTrue_or (h1 A hA σ s V F _ E false R e fun s' kp => ?_)
    simp only [Bool.false_eq_true, if_false]
    refine isTrue_or (h2 A hA σ s' V F _ E g (R.kp kp) hm fun s'' kp' => ?_)
    cases g with
    | true => simpa using hQ _ (kp.trans kp')
    | false => simpa using isTrue_or_nil (hQ _ (kp.trans kp'))
  · cases hm

theorem SE_none {kk : Nat} {pos : Pos} : SE W k c true (fun _ : Unit => AV.none) (.Constant .none kk pos) (fun _ => some ()) := by
  intro A hA σ s V F Q E a R hm hQ
  exact Constant_none (hQ _ _ [] (Kp.refl s) .none fun _ x hx => nomatch hx)
def isN (a : AV) : Bool := match a with | .none => true | _ => false
theorem rep_isN {C : Addr} {h : Heap} {F : List Addr} {v : Value} {a : AV} (r : Rep C h F v a) : (v == Value.none) = isN a := by
  cases r <;> rfl
theorem op_isNone : OpIs W k (id : AV → AV) (fun _ : Unit => AV.none) AV.bool (compareOp .Is) (fun a _ => some (isN a)) := by
  intro A hA s v1 v2 F1 F2 Q E a b g _ r1 r2 e hQ
  cases e; cases r2
  refine is_none_gen ?_
  rw [rep_isN r1]
  exact hQ _ _ [] (Kp.refl s) (.bool _) nofr
theorem op_isNotNone : OpIs W k (id : AV → AV) (fun _ : Unit => AV.none) AV.bool (compareOp .IsNot) (fun a _ => some (!isN a)) := by
  intro A hA s v1 v2 F1 F2 Q E a b g _ r1 r2 e hQ
  cases e; cases r2
  refine isnot_none_gen ?_
  rw [rep_isN r1]
  exact hQ _ _ [] (Kp.refl s) (.bool _) nofr
theorem op_isNotB : OpIs W k AV.bool AV.bool AV.bool (compareOp .IsNot) (fun a b => some (a != b)) := by
  intro A hA s v1 v2 F1 F2 Q E a b g _ r1 r2 e hQ
  cases e; cases r1; cases r2
  exact isnot_bool (hQ _ _ [] (Kp.refl s) (.bool _) nofr)
def notInF (x y : Sg) : Option Bool := match x with
  | [n] => some (!decide (n ∈ y))
  | _ => none
theorem op_notInT : OpIs W k AV.str AV.str AV.bool (compareOp .NotIn) notInF := by
  intro A hA s v1 v2 F1 F2 Q E a b g _ r1 r2 e hQ
  unfold notInF at e
  split at e
  · rename_i n
    cases e; cases r1; cases r2
    refine notIn_str ?_
    rw [show (txt [n]) = ⟨#[n]⟩ from rfl, StrLaws.found_one]
    exact hQ _ _ [] (Kp.refl s) (.bool _) nofr
  · cases e

def inTupF (ys : List Sg) (x : Sg) : Option Bool := some (ys.any (· == x))
theorem ST_inTup {b1 : Bool} {l : Expr} {m1 : St → Option Sg} {es : List Expr} {ys : List Sg} {kk : Nat} {tp pos : Pos} (h1 : SE W k c b1 AV.str l m1) (h2 : SEs W k c AV.str es (ys.map fun y => fun _ => some y)) (hz : ys.length ≤ tLine) (hb : behindInMarks .In (.Tuple es kk tp) = false := by with_unfolding_all rfl) :
    ST W k c (.Compare l [.In] [.Tuple es kk tp] pos) (op1 (inTupF ys) m1) := by
  intro A hA σ s V F Q E g R hm hQ
  obtain ⟨x, e1, e2⟩ := op1_some hm
  cases e2
  have hall : ∀ ys : List Sg, mAll (ys.map fun y => fun _ => some y) σ = some ys := by
    intro ys
    induction ys with
    | nil => rfl
    | cons y r ih => simp only [List.map_cons, mAll, ih]
  refine wpAny_isTrue_Compare1 (hm := hb) (h1 A hA σ s V F _ E x R e1 fun v1 s1 F1 k1 r1 _ => Tuple_ (spl_vals scal'_str hA h2 (R.kp k1) (hall ys) fun vs s2 k2 hv => ?_))
  have iv := strs_of_vals hv
  have hl := iv.length
  rw [List.length_map] at hl
  refine wpAny_newObj_type ?_ (by show vs.toArray.size ≤ sizeLine; simp only [List.size_toArray]; have := tLine_le; omega)
  cases r1
  refine in_tuple_strs (items := vs.toArray) (ys := ys.map txt) ⟨_, Heap.get?_push_size _ rfl, rfl, _, rfl⟩ iv (wpAny_truthy_bool ?_)
  have e : ((ys.map txt).any (· == txt x)) = ys.any (· == x) := by
    rw [List.any_map]
    congr 1
    funext y
    exact txt_beq y x
  rw [e]
  exact hQ _ ((k1.trans k2).trans (Kp.of (t := s2.toks) fun b o e => Heap.get?_push_of_some _ e))

end
end Mine

namespace Mine

inductive Fl where
  | next
  | ret (av : AV)
  | rets (j : Nat)

def upd {α : Type} (f : Nat → α) (i : Nat) (a : α) (j : Nat) : α := if j = i then a else f j
theorem upd_same {α : Type} (f : Nat → α) (i : Nat) (a : α) : upd f i a i = a := if_pos rfl
theorem upd_ne {α : Type} (f : Nat → α) {i j : Nat} (a : α) (h : j ≠ i) : upd f i a j = f j := if_neg h

structure After (W : Wd) (c : Fx) (Wr : List Nat) (σ : St) (s : Shared) (V : Nat → Value) (F : Nat → List Addr) (f : Fl) (σ' : St) (fl : Flow) (s' : Shared) (V' : Nat → Value) (F' : Nat → List Addr) : Prop where
  rel : Rel W c σ' s' V' F'
  same : ∀ i, i ∉ Wr → V' i = V i ∧ F' i = F i ∧ σ'[i]? = σ[i]?
  heap : ∀ b o, s.heap.get? b = some o → b ∉ c.mine → (∀ i ∈ Wr, b ∉ F i) → s'.heap.get? b = some o
  grow : ∀ i ∈ Wr, ∀ a ∈ F' i, (∃ j ∈ Wr, a ∈ F j) ∨ s.heap.get? a = none
  old : ∀ b o, s.heap.get? b = some o → ∃ o', s'.heap.get? b = some o'
  os : OsG s' s
  flow : match f with
    | .next => fl = .next
    | .ret av => ∃ v Fr, fl = .ret v ∧ Rep W.C s'.heap Fr v av ∧ ∀ a ∈ Fr, s.heap.get? a = none
    | .rets j => fl = .ret (V' j) ∧ ∃ av, σ'[j]? = some (some av)

def S1 (W : Wd) (k : Nat) (c : Fx) (Wr : List Nat) (st : Stmt) (m : St → Option (Fl × St)) : Prop :=
  ∀ (A : Around), AOk k A → ∀ (σ : St) (s : Shared) (V : Nat → Value) (F : Nat → List Addr) (Q : Flow → Shared → Prop) (E : Value → Shared → Prop) (f : Fl) (σ' : St),
    Rel W c σ s V F → m σ = some (f, σ') → (∀ fl s' V' F', After W c Wr σ s V F f σ' fl s' V' F' → Q fl s') → wpAny (model W.prog W.w) A (exec st c.env) Q E s
def SS (W : Wd) (k : Nat) (c : Fx) (Wr : List Nat) (st : List Stmt) (m : St → Option (Fl × St)) : Prop :=
  ∀ (A : Around), AOk k A → ∀ (σ : St) (s : Shared) (V : Nat → Value) (F : Nat → List Addr) (Q : Flow → Shared → Prop) (E : Value → Shared → Prop) (f : Fl) (σ' : St),
    Rel W c σ s V F → m σ = some (f, σ') → (∀ fl s' V' F', After W c Wr σ s V F f σ' fl s' V' F' → Q fl s') → wpAny (model W.prog W.w) A (execs st c.env) Q E s

section
variable {W : Wd} {k : Nat} {c : Fx}

theorem Rel.has {σ : St} {s : Shared} {V : Nat → Value} {F : Nat → List Addr} (R : Rel W c σ s V F) (i : Nat) : ∀ a ∈ F i, ∃ o, s.heap.get? a = some o := by
  by_cases h : ∃ av, σ[i]? = some (some av)
  · obtain ⟨av, e⟩ := h
    exact (R.rep i av e).has
  · rw [R.nil i fun av e => h ⟨av, e⟩]
    intro a ha; cases ha
theorem Rel.hasMine {σ : St} {s : Shared} {V : Nat → Value} {F : Nat → List Addr} (R : Rel W c σ s V F) : ∀ a ∈ c.mine, ∃ o, s.heap.get? a = some o := by
  intro a ha
  rcases List.mem_cons.mp ha with rfl | ha
  · obtain ⟨m, ⟨o, _, _, e, _⟩, _⟩ := R.ns; exact ⟨o, e⟩
  · obtain ⟨l, hl, e⟩ := List.mem_filterMap.mp ha
    cases l with
    | ns x => cases e
    | cell x b =>
      cases e
      obtain ⟨i, hi⟩ := List.getElem?_of_mem hl
      obtain ⟨o, ⟨ob, ho, _⟩, _⟩ := R.cell i x a hi
      exact ⟨ob, ho⟩
theorem Rel.fresh {σ : St} {s : Shared} {V : Nat → Value} {F : Nat → List Addr} (R : Rel W c σ s V F) {a : Addr} (h : s.heap.get? a = none) : a ∉ c.mine ∧ W.G.get? a = none ∧ ∀ j, a ∉ F j := by
  refine ⟨fun hm => ?_, ?_, fun j hj => ?_⟩
  · obtain ⟨o, e⟩ := R.hasMine a hm; rw [h] at e; cases e
  · cases e : W.G.get? a with
    | none => rfl
    | some o => rw [R.top a o e] at h; cases h
  · obtain ⟨o, e⟩ := R.has j a hj; rw [h] at e; cases e

/-- a heap that differs in the frame's own object alone -/
structure But (c : Fx) (s s' : Shared) : Prop where
  heap : ∀ b o, s.heap.get? b = some o → b ∉ c.mine → s'.heap.get? b = some o
  old : ∀ b o, s.heap.get? b = some o → ∃ o', s'.heap.get? b = some o'
  os : OsG s' s
  gens : AllBare s.gens → AllBare s'.gens
  size : s'.heap.objs.size = s.heap.objs.size

theorem wp_store (O : c.Ok W) {x : Str} {i : Nat} {l : Loc} (hl : c.loc[i]? = some l) (hx : l.name = x) {A : Around} {σ : St} {s : Shared} {V : Nat → Value} {F : Nat → List Addr} {Q : Unit → Shared → Prop} {E : Value → Shared → Prop} {v : Value} {av : AV} {F₁ : List Addr}
    (hcell : c.env.kindOf x ≠ some .free) (R : Rel W c σ s V F) (hr : Rep W.C s.heap F₁ v av) (hf : ∀ a ∈ F₁, a ∉ c.mine ∧ W.G.get? a = none ∧ ∀ j, j ≠ i → a ∉ F j)
    (hQ : ∀ s', Rel W c (σ.set i (some av)) s' (upd V i v) (upd F i F₁) → But c s s' → Q () s') :
    wpAny (model W.prog W.w) A (storeName c.env x v) Q E s := by
  have hi : i < σ.length := by rw [R.len]; exact (List.getElem?_eq_some_iff.mp hl).1
  have get_i : (σ.set i (some av))[i]? = some (some av) := by rw [List.getElem?_set_self hi]
  have get_j : ∀ j, j ≠ i → (σ.set i (some av))[j]? = σ[j]? := fun j hj => List.getElem?_set_ne (Ne.symm hj)
  -- what does not hang on the kind of the slot
  have common : ∀ s' : Shared, (∀ b o, b ∉ c.mine → s.heap.get? b = some o → s'.heap.get? b = some o) → s'.os = s.os → s'.gens = s.gens →
      (∃ m, s'.heap.Ns c.env.locals m ∧ ∀ (j : Nat) y aw, c.loc[j]? = some (.ns y) → (σ.set i (some av))[j]? = some (some aw) → m y = some (upd V i v j)) →
      (∀ (j : Nat) y b, c.loc[j]? = some (.cell y b) → ∃ o, s'.heap.IsCell b o ∧ ∀ aw, (σ.set i (some av))[j]? = some (some aw) → o = some (upd V i v j)) →
      Rel W c (σ.set i (some av)) s' (upd V i v) (upd F i F₁) := by
    intro s' hk hos hg hns hc
    refine ⟨fun b o e => hk b o (fun hm => ?_) (R.top b o e), hns, hc, fun j aw e => ?_, fun j hn => ?_, fun j j' hjj a ha => ?_, fun j a ha => ?_, hg ▸ R.gens, by rw [List.length_set, R.len]⟩
    · rw [O.new b hm] at e; cases e
    · by_cases hj : j = i
      · subst hj
        rw [get_i] at e; cases e
        rw [upd_same, upd_same]
        exact hr.keep fun a ha o e => hk a o (hf a ha).1 e
      · rw [get_j j hj] at e
        rw [upd_ne _ _ hj, upd_ne _ _ hj]
        exact (R.rep j aw e).keep fun a ha o e => hk a o (R.off j a ha).1 e
    · by_cases hj : j = i
      · subst hj; exact absurd get_i (hn av)
      · rw [upd_ne _ _ hj]; exact R.nil j fun aw e => hn aw (by rw [get_j j hj]; exact e)
    · by_cases hj : j = i
      · subst hj
        rw [upd_same] at ha
        rw [upd_ne _ _ (Ne.symm hjj)]
        exact (hf a ha).2.2 j' (Ne.symm hjj)
      · rw [upd_ne _ _ hj] at ha
        by_cases hj' : j' = i
        · subst hj'
          rw [upd_same]
          exact fun hm => (hf a hm).2.2 j hj ha
        · rw [upd_ne _ _ hj']; exact R.apart j j' hjj a ha
    · by_cases hj : j = i
      · subst hj; rw [upd_same] at ha; exact ⟨(hf a ha).1, (hf a ha).2.1⟩
      · rw [upd_ne _ _ hj] at ha; exact R.off j a ha
  obtain ⟨m, hn, hm⟩ := R.ns
  cases l with
  | ns y =>
    have hy : y = x := hx
    subst hy
    refine wpAny_storeName_local (O.kindL i y hl) hn (fun h' hn' hs' => ?_) (by rw [O.kind]; rfl)
    have hk : ∀ b o, b ∉ c.mine → s.heap.get? b = some o → h'.get? b = some o := fun b o hb e => hs'.extBut b o (fun h => hb (h ▸ .head _)) e
    refine hQ _ (common _ hk rfl rfl ⟨_, hn', fun j z aw hz e => ?_⟩ fun j z b hz => ?_) ⟨fun b o e hb => hk b o hb e, fun b o e => ?_, .rf, id, hs'.1⟩
    · by_cases hj : j = i
      · subst hj
        rw [hl] at hz; cases hz
        rw [upd_same]; simp
      · rw [get_j j hj] at e
        rw [upd_ne _ _ hj]
        have : z ≠ y := fun h => hj (O.names j i y (h ▸ hz) hl)
        simp [this, hm j z aw hz e]
    · obtain ⟨o, hc, ho⟩ := R.cell j z b hz
      have hbL : b ≠ c.env.locals := fun h => O.offL j z (h ▸ hz)
      have hj : j ≠ i := fun h => by subst h; rw [hl] at hz; cases hz
      refine ⟨o, hc.sameBut hs' hbL, fun aw e => ?_⟩
      rw [get_j j hj] at e
      rw [upd_ne _ _ hj]
      exact ho aw e
    · by_cases hb : b = c.env.locals
      · subst hb; obtain ⟨o', _, _, e', _⟩ := hn'; exact ⟨o', e'⟩
      · exact ⟨o, hs'.extBut b o hb e⟩
  | cell y b₀ =>
    have hy : y = x := hx
    subst hy
    obtain ⟨o, hc, ho⟩ := R.cell i y b₀ hl
    obtain ⟨hk0, hlk⟩ := O.kindC i y b₀ hl
    have hkc : c.env.kindOf y = some .cell := hk0.resolve_right hcell
    have hbm : b₀ ∈ c.mine := .tail _ (List.mem_filterMap.mpr ⟨_, List.mem_of_getElem? hl, rfl⟩)
    refine wpAny_storeName_cell O.kind hkc hlk hc fun h' hc' hs' => ?_
    have hk : ∀ b o, b ∉ c.mine → s.heap.get? b = some o → h'.get? b = some o := fun b o hb e => hs'.extBut b o (fun h => hb (h ▸ hbm)) e
    have hLb : c.env.locals ≠ b₀ := fun h => O.offL i y (h ▸ hl)
    refine hQ _ (common _ hk rfl rfl ⟨m, hn.sameBut hs' hLb, fun j z aw hz e => ?_⟩ fun j z b hz => ?_) ⟨fun b o e hb => hk b o hb e, fun b o e => ?_, .rf, id, hs'.1⟩
    · have hj : j ≠ i := fun h => by subst h; rw [hl] at hz; cases hz
      rw [get_j j hj] at e
      rw [upd_ne _ _ hj]
      exact hm j z aw hz e
    · by_cases hj : j = i
      · subst hj
        rw [hl] at hz; cases hz
        exact ⟨_, hc', fun _ _ => by rw [upd_same]⟩
      · obtain ⟨o', hc2, ho'⟩ := R.cell j z b hz
        have hbb : b ≠ b₀ := fun h => hj (O.apart j i z y b₀ (h ▸ hz) hl)
        refine ⟨o', hc2.sameBut hs' hbb, fun aw e => ?_⟩
        rw [get_j j hj] at e
        rw [upd_ne _ _ hj]
        exact ho' aw e
    · by_cases hb : b = b₀
      · subst hb; obtain ⟨o', e', _⟩ := hc'; exact ⟨o', e'⟩
      · exact ⟨o, hs'.extBut b o hb e⟩
end
end Mine

namespace Mine
section
variable {W : Wd} {k : Nat} {c : Fx}

theorem After.refl {Wr : List Nat} {σ : St} {s : Shared} {V : Nat → Value} {F : Nat → List Addr} (R : Rel W c σ s V F) : After W c Wr σ s V F .next σ .next s V F :=
  ⟨R, fun _ _ => ⟨rfl, rfl, rfl⟩, fun _ _ e _ _ => e, fun i hi _ ha => .inl ⟨i, hi, ha⟩, fun _ o e => ⟨o, e⟩, .rf, rfl⟩

theorem After.none_of {Wr : List Nat} {σ σ1 : St} {s s1 : Shared} {V V1 : Nat → Value} {F F1 : Nat → List Addr} {f : Fl} {fl : Flow} (X : After W c Wr σ s V F f σ1 fl s1 V1 F1) {a : Addr} (h : s1.heap.get? a = none) : s.heap.get? a = none := by
  cases e : s.heap.get? a with
  | none => rfl
  | some o => obtain ⟨o', e'⟩ := X.old a o e; rw [h] at e'; cases e'

theorem After.trans {Wr : List Nat} {σ σ1 σ2 : St} {s s1 s2 : Shared} {V V1 V2 : Nat → Value} {F F1 F2 : Nat → List Addr} {f : Fl} {fl1 fl2 : Flow} (X : After W c Wr σ s V F .next σ1 fl1 s1 V1 F1) (Y : After W c Wr σ1 s1 V1 F1 f σ2 fl2 s2 V2 F2) : After W c Wr σ s V F f σ2 fl2 s2 V2 F2 := by
  refine ⟨Y.rel, fun i hi => ?_, fun b o e hm hF => ?_, fun i hi a ha => ?_, fun b o e => ?_, Y.os.trans X.os, ?_⟩
  · obtain ⟨a1, a2, a3⟩ := X.same i hi
    obtain ⟨b1, b2, b3⟩ := Y.same i hi
    exact ⟨b1.trans a1, b2.trans a2, b3.trans a3⟩
  · refine Y.heap b o (X.heap b o e hm hF) hm fun i hi hb => ?_
    rcases X.grow i hi b hb with ⟨j, hj, hbj⟩ | h
    · exact hF j hj hbj
    · rw [e] at h; cases h
  · rcases Y.grow i hi a ha with ⟨j, hj, haj⟩ | h
    · exact X.grow j hj a haj
    · exact .inr (X.none_of h)
  · obtain ⟨o', e'⟩ := X.old b o e
    exact Y.old b o' e'
  · have := Y.flow
    cases f with
    | next => exact this
    | ret av => obtain ⟨v, Fr, e1, e2, e3⟩ := this; exact ⟨v, Fr, e1, e2, fun a ha => X.none_of (e3 a ha)⟩
    | rets j => exact this

theorem After.pre {Wr : List Nat} {σ σ2 : St} {s s1 s2 : Shared} {V V2 : Nat → Value} {F F2 : Nat → List Addr} {f : Fl} {fl2 : Flow} (kp : Kp s s1) (R : Rel W c σ s V F) (Y : After W c Wr σ s1 V F f σ2 fl2 s2 V2 F2) : After W c Wr σ s V F f σ2 fl2 s2 V2 F2 := by
  have X : After W c Wr σ s V F .next σ .next s1 V F := ⟨R.kp kp, fun _ _ => ⟨rfl, rfl, rfl⟩, fun b o e _ _ => kp.heap b o e, fun i hi _ ha => .inl ⟨i, hi, ha⟩, fun _ o e => ⟨o, kp.heap _ o e⟩, kp.os, rfl⟩
  exact X.trans Y

theorem After.weak {Wr Wr' : List Nat} (hw : ∀ i ∈ Wr', i ∈ Wr) {σ σ1 : St} {s s1 : Shared} {V V1 : Nat → Value} {F F1 : Nat → List Addr} {f : Fl} {fl : Flow} (X : After W c Wr' σ s V F f σ1 fl s1 V1 F1) : After W c Wr σ s V F f σ1 fl s1 V1 F1 := by
  refine ⟨X.rel, fun i hi => X.same i fun h => hi (hw i h), fun b o e hm hF => X.heap b o e hm fun i hi => hF i (hw i hi), fun i hi a ha => ?_, X.old, X.os, X.flow⟩
  by_cases h : i ∈ Wr'
  · rcases X.grow i h a ha with ⟨j, hj, e⟩ | e
    · exact .inl ⟨j, hw j hj, e⟩
    · exact .inr e
  · rw [(X.same i h).2.1] at ha
    exact .inl ⟨i, hi, ha⟩

theorem SS.weak {Wr Wr' : List Nat} {st : List Stmt} {m : St → Option (Fl × St)} (h : SS W k c Wr' st m) (hw : ∀ i ∈ Wr', i ∈ Wr) : SS W k c Wr st m :=
  fun A hA σ s V F Q E f σ' R hm hQ => h A hA σ s V F Q E f σ' R hm fun fl s' V' F' X => hQ fl s' V' F' (X.weak hw)

/-- one after the other -/
def andThen (m1 m2 : St → Option (Fl × St)) (σ : St) : Option (Fl × St) := match m1 σ with
  | some (.next, σ') => m2 σ'
  | o => o

theorem SS_nil {Wr : List Nat} : SS W k c Wr [] (fun σ => some (.next, σ)) := by
  intro A hA σ s V F Q E f σ' R hm hQ
  cases hm
  exact wpAny_execs_nil (hQ _ _ _ _ (After.refl R))

theorem SS_cons {Wr : List Nat} {st : Stmt} {rest : List Stmt} {m1 m2 : St → Option (Fl × St)} (h1 : S1 W k c Wr st m1) (h2 : SS W k c Wr rest m2) : SS W k c Wr (st :: rest) (andThen m1 m2) := by
  intro A hA σ s V F Q E f σ' R hm hQ
  unfold andThen at hm
  split at hm
  · rename_i σ1 e
    refine wpAny_execs_cons (h1 A hA σ s V F _ E .next σ1 R e fun fl s1 V1 F1 X => ?_)
    have : fl = .next := X.flow
    subst this
    exact h2 A hA σ1 s1 V1 F1 Q E f σ' X.rel hm fun fl2 s2 V2 F2 Y => hQ fl2 s2 V2 F2 (X.trans Y)
  · rename_i e
    refine wpAny_execs_cons (h1 A hA σ s V F _ E f σ' R hm fun fl s1 V1 F1 X => ?_)
    have hq := hQ _ _ _ _ X
    have hf := X.flow
    cases f with
    | next => exact absurd hm (e σ')
    | ret av => obtain ⟨v, Fr, e1, _⟩ := hf; subst e1; exact hq
    | rets j => obtain ⟨e1, _⟩ := hf; subst e1; exact hq

theorem SS_one {Wr : List Nat} {st : Stmt} {m1 : St → Option (Fl × St)} (h1 : S1 W k c Wr st m1) : SS W k c Wr [st] m1 := by
  have := SS_cons h1 SS_nil
  intro A hA σ s V F Q E f σ' R hm hQ
  refine this A hA σ s V F Q E f σ' R ?_ hQ
  unfold andThen
  rw [hm]
  cases f <;> rfl

theorem After.store {Wr : List Nat} {i : Nat} (hi : i ∈ Wr) {σ : St} {s s1 s' : Shared} {V : Nat → Value} {F : Nat → List Addr} {v : Value} {av : AV} {F₁ : List Addr} (kp : Kp s s1) (hf : ∀ a ∈ F₁, s.heap.get? a = none ∨ ∃ j ∈ Wr, a ∈ F j)
    (R : Rel W c (σ.set i (some av)) s' (upd V i v) (upd F i F₁)) (B : But c s1 s') : After W c Wr σ s V F .next (σ.set i (some av)) .next s' (upd V i v) (upd F i F₁) := by
  refine ⟨R, fun j hj => ?_, fun b o e hm _ => B.heap b o (kp.heap b o e) hm, fun j hj a ha => ?_, fun b o e => B.old b o (kp.heap b o e), B.os.trans kp.os, rfl⟩
  · have : j ≠ i := fun h => hj (h ▸ hi)
    exact ⟨upd_ne _ _ this, upd_ne _ _ this, List.getElem?_set_ne (Ne.symm this)⟩
  · by_cases h : j = i
    · subst h; rw [upd_same] at ha
      rcases hf a ha with h | h
      · exact .inr h
      · exact .inl h
    · rw [upd_ne _ _ h] at ha; exact .inl ⟨j, hj, ha⟩

def setF {α : Type} (i : Nat) (inj : α → AV) (m : St → Option α) (σ : St) : Option (Fl × St) := match m σ with
  | some a => some (.next, σ.set i (some (inj a)))
  | none => none

theorem S1_assign {Wr : List Nat} {α : Type} {inj : α → AV} {e : Expr} {m : St → Option α} {x : Str} {p pos : Pos} (O : c.Ok W) (h : SE W k c true inj e m) (i : Nat) {l : Loc} (hl : c.loc[i]? = some l) (hx : l.name = x) (hi : i ∈ Wr)
    (hcell : c.env.kindOf x ≠ some .free) (hs : swapsWith e (some (.Name x p)) pos.line c.env = pure false := by rfl) : S1 W k c Wr (.Assign [.Name x p] e pos) (setF i inj m) := by
  intro A hA σ s V F Q E f σ' R hm hQ
  unfold setF at hm
  split at hm
  · rename_i a e1
    cases hm
    refine wpAny_Assign_Name (h A hA σ s V F _ E a R e1 fun v s1 F1 kp r hf => ?_) hs
    refine wp_store O hl hx hcell (R.kp kp) r (fun y hy => ?_) fun s2 R2 B => hQ _ _ _ _ (After.store hi kp (fun y hy => .inl (hf rfl y hy)) R2 B)
    obtain ⟨a1, a2, a3⟩ := R.fresh (hf rfl y hy)
    exact ⟨a1, a2, fun j _ => a3 j⟩
  · cases hm

/-- a slot handed on: what it was is the other's now -/
theorem Rel.drop {σ : St} {s : Shared} {V : Nat → Value} {F : Nat → List Addr} (R : Rel W c σ s V F) (j : Nat) : Rel W c (σ.set j none) s V (upd F j []) := by
  have key : ∀ (i : Nat) av, (σ.set j none)[i]? = some (some av) → i ≠ j ∧ σ[i]? = some (some av) := fun i av h => by
    by_cases hij : i = j
    · subst hij
      rw [List.getElem?_set] at h
      simp only [if_true] at h
      split at h <;> simp at h
    · exact ⟨hij, by rwa [List.getElem?_set_ne (Ne.symm hij)] at h⟩
  refine ⟨R.top, ?_, fun i x b e => ?_, fun i av e => ?_, fun i h => ?_, fun i i' hii a ha => ?_, fun i a ha => ?_, R.gens, by rw [List.length_set, R.len]⟩
  · obtain ⟨m, hn, hm⟩ := R.ns
    exact ⟨m, hn, fun i x av hx e => hm i x av hx (key i av e).2⟩
  · obtain ⟨o, hc, ho⟩ := R.cell i x b e
    exact ⟨o, hc, fun av e => ho av (key i av e).2⟩
  · rw [upd_ne _ _ (key i av e).1]; exact R.rep i av (key i av e).2
  · by_cases hij : i = j
    · subst hij; exact upd_same ..
    · rw [upd_ne _ _ hij]
      refine R.nil i fun av e => h av ?_
      rw [List.getElem?_set_ne (Ne.symm hij)]; exact e
  · by_cases hij : i = j
    · subst hij; rw [upd_same] at ha; cases ha
    · rw [upd_ne _ _ hij] at ha
      by_cases hij' : i' = j
      · subst hij'; rw [upd_same]; intro h; cases h
      · rw [upd_ne _ _ hij']; exact R.apart i i' hii a ha
  · by_cases hij : i = j
    · subst hij; rw [upd_same] at ha; cases ha
    · rw [upd_ne _ _ hij] at ha; exact R.off i a ha

def moveF (i j : Nat) (σ : St) : Option (Fl × St) := match look tAny j σ with
  | some av => some (.next, (σ.set j none).set i (some av))
  | none => none

theorem S1_move {Wr : List Nat} {x y : Str} {p q pos : Pos} (O : c.Ok W) (i j : Nat) {l l' : Loc} (hl : c.loc[i]? = some l) (hx : l.name = x) (hl' : c.loc[j]? = some l') (hy : l'.name = y) (hij : i ≠ j) (hi : i ∈ Wr) (hj : j ∈ Wr)
    (hcell : c.env.kindOf x ≠ some .free) (hd : (y == ("__debug__" : Str)) = false := by decide) (hcd : (y == ("__classdict__" : Str)) = false := by decide)
    (hs : swapsWith (.Name y q) (some (.Name x p)) pos.line c.env = pure false := by rfl) : S1 W k c Wr (.Assign [.Name x p] (.Name y q) pos) (moveF i j) := by
  intro A hA σ s V F Q E f σ' R hm hQ
  unfold moveF at hm
  split at hm
  · rename_i av e1
    cases hm
    have hav := look_some e1
    have e2 : wpAny (model W.prog W.w) A (eval (.Name y q) c.env) (fun v s' => v = V j ∧ s' = s) E s := by
      refine wpAny_Name ?_ hd
      cases l' with
      | ns z =>
        have hx' : z = y := hy
        subst hx'
        obtain ⟨m, hn, hmm⟩ := R.ns
        exact wpAny_loadName_local O.kind (O.kindL j z hl') hn (hmm j z _ hl' hav) ⟨rfl, rfl⟩
      | cell z b =>
        have hx' : z = y := hy
        subst hx'
        obtain ⟨o, hc, ho⟩ := R.cell j z b hl'
        have ho' := ho _ hav
        subst ho'
        obtain ⟨hk, hlk⟩ := O.kindC j z b hl'
        rcases hk with hk | hk
        · exact wpAny_loadName_cell O.kind hk hlk hc ⟨rfl, rfl⟩
        · exact wpAny_loadName_free O.kind hk hlk hc ⟨rfl, rfl⟩ hcd
    refine wpAny_Assign_Name (wpAny_mono e2 (fun v s1 h => ?_) fun _ _ x => x) hs
    obtain ⟨rfl, rfl⟩ := h
    have R1 := R.drop j
    refine wp_store O hl hx hcell R1 (R.rep j _ hav) (fun a ha => ⟨(R.off j a ha).1, (R.off j a ha).2, fun i' hi' => ?_⟩) fun s2 R2 B => hQ _ _ _ _ ⟨R2, fun i' hi' => ?_, fun b o e hm _ => B.heap b o e hm, fun i' hi' a ha => ?_, B.old, B.os, rfl⟩
    · by_cases h : i' = j
      · subst h; rw [upd_same]; intro h; cases h
      · rw [upd_ne _ _ h]; exact R.apart j i' (Ne.symm h) a ha
    · have h1 : i' ≠ i := fun h => hi' (h ▸ hi)
      have h2 : i' ≠ j := fun h => hi' (h ▸ hj)
      exact ⟨upd_ne _ _ h1, by rw [upd_ne _ _ h1, upd_ne _ _ h2], by rw [List.getElem?_set_ne (Ne.symm h1), List.getElem?_set_ne (Ne.symm h2)]⟩
    · by_cases h1 : i' = i
      · subst h1; rw [upd_same] at ha; exact .inl ⟨j, hj, ha⟩
      · rw [upd_ne _ _ h1] at ha
        by_cases h2 : i' = j
        · subst h2; rw [upd_same] at ha; cases ha
        · rw [upd_ne _ _ h2] at ha; exact .inl ⟨i', hi', ha⟩
  · cases hm

/-- a scalar slot, by an operation in place -/
def augF {α β : Type} (T : Ty α) (i : Nat) (f : α → β → Option α) (m : St → Option β) : St → Option (Fl × St) := setF i T.inj (op2 f (look T i) m)
theorem S1_aug {Wr : List Nat} {α β : Type} {T : Ty α} {inj : β → AV} {b : Bool} {e : Expr} {m : St → Option β} {f : α → β → Option α} {o : Operator} {x : Str} {p pos : Pos} (O : c.Ok W) (h : SE W k c b inj e m) (ho : OpIs W k T.inj inj T.inj (inplaceOp o) f)
    (i : Nat) {l : Loc} (hl : c.loc[i]? = some l) (hx : l.name = x) (hi : i ∈ Wr) (hcell : c.env.kindOf x ≠ some .free) (hcd : (x == ("__classdict__" : Str)) = false := by decide) : S1 W k c Wr (.AugAssign (.Name x p) o e pos) (augF T i f m) := by
  intro A hA σ s V F Q E fl σ' R hm hQ
  unfold augF setF at hm
  split at hm
  · rename_i a e1
    cases hm
    obtain ⟨a0, b0, e2, e3, e4⟩ := op2_some e1
    have hav := look_some e2
    have e2 : wpAny (model W.prog W.w) A (loadName c.env x) (fun v s' => v = V i ∧ s' = s) E s := by
      cases l with
      | ns z =>
        have hx' : z = x := hx
        subst hx'
        obtain ⟨m, hn, hmm⟩ := R.ns
        exact wpAny_loadName_local O.kind (O.kindL i z hl) hn (hmm i z _ hl hav) ⟨rfl, rfl⟩
      | cell z b =>
        have hx' : z = x := hx
        subst hx'
        obtain ⟨o, hc, ho⟩ := R.cell i z b hl
        have ho' := ho _ hav
        subst ho'
        obtain ⟨hk, hlk⟩ := O.kindC i z b hl
        rcases hk with hk | hk
        · exact wpAny_loadName_cell O.kind hk hlk hc ⟨rfl, rfl⟩
        · exact wpAny_loadName_free O.kind hk hlk hc ⟨rfl, rfl⟩ hcd
    refine wpAny_AugAssign_Name (wpAny_mono e2 (fun v s1 h' => ?_) fun _ _ x => x)
    obtain ⟨rfl, rfl⟩ := h'
    refine h A hA σ s1 V F _ E b0 R e3 fun v2 s2 F2 k2 r2 _ => ?_
    refine ho A hA s2 (V i) v2 (F i) F2 _ E a0 b0 a (R.kp k2).top ((R.rep i _ hav).keeps k2.heap) r2 e4 fun v3 s3 F3 k3 r3 hf => ?_
    have kp := k2.trans k3
    have hf' := fun y hy => fresh_of k2 (hf y hy)
    refine wp_store O hl hx hcell (R.kp kp) r3 (fun y hy => ?_) fun s4 R2 B => hQ _ _ _ _ (After.store hi kp (fun y hy => .inl (hf' y hy)) R2 B)
    obtain ⟨a1, a2, a3⟩ := R.fresh (hf' y hy)
    exact ⟨a1, a2, fun j _ => a3 j⟩
  · cases hm

theorem op_iaddI : OpIs W k AV.int AV.int AV.int (inplaceOp .Add) (fun a b => some (a + b)) := by
  intro A hA s v1 v2 F1 F2 Q E a b g _ r1 r2 e hQ
  cases e; cases r1; cases r2
  exact iadd_int (hQ _ _ [] (Kp.toks s _) (.int _ _) nofr)
theorem op_isubI : OpIs W k AV.int AV.int AV.int (inplaceOp .Sub) (fun a b => some (a - b)) := by
  intro A hA s v1 v2 F1 F2 Q E a b g _ r1 r2 e hQ
  cases e; cases r1; cases r2
  exact isub_int (hQ _ _ [] (Kp.toks s _) (.int _ _) nofr)

theorem S1_if {Wr : List Nat} {test : Expr} {body orelse : List Stmt} {pos : Pos} {t : St → Option Bool} {m1 m2 : St → Option (Fl × St)} (ht : ST W k c test t) (h1 : SS W k c Wr body m1) (h2 : SS W k c Wr orelse m2) :
    S1 W k c Wr (.If test body orelse pos) (fun σ => match t σ with | some true => m1 σ | some false => m2 σ | none => none) := by
  intro A hA σ s V F Q E f σ' R hm hQ
  dsimp only at hm
  split at hm
  · rename_i e
    refine wpAny_If (ht A hA σ s V F _ E true R e fun s1 kp => ?_)
    exact h1 A hA σ s1 V F Q E f σ' (R.kp kp) hm fun fl s2 V2 F2 X => hQ _ _ _ _ (X.pre kp R)
  · rename_i e
    refine wpAny_If (ht A hA σ s V F _ E false R e fun s1 kp => ?_)
    exact h2 A hA σ s1 V F Q E f σ' (R.kp kp) hm fun fl s2 V2 F2 X => hQ _ _ _ _ (X.pre kp R)
  · cases hm

def retF {α : Type} (inj : α → AV) (m : St → Option α) (σ : St) : Option (Fl × St) := match m σ with
  | some a => some (.ret (inj a), σ)
  | none => none
theorem S1_return {Wr : List Nat} {α : Type} {inj : α → AV} {e : Expr} {m : St → Option α} {pos : Pos} (h : SE W k c true inj e m) : S1 W k c Wr (.Return (some e) pos) (retF inj m) := by
  intro A hA σ s V F Q E f σ' R hm hQ
  unfold retF at hm
  split at hm
  · rename_i a e1
    cases hm
    refine wpAny_Return_some (h A hA σ s V F _ E a R e1 fun v s1 F1 kp r hf => hQ _ _ V F ⟨R.kp kp, fun _ _ => ⟨rfl, rfl, rfl⟩, fun b o e _ _ => kp.heap b o e, fun i hi _ ha => .inl ⟨i, hi, ha⟩, fun _ o e => ⟨o, kp.heap _ o e⟩, kp.os, ⟨v, F1, rfl, r, hf rfl⟩⟩)
  · cases hm

def retSF (j : Nat) (σ : St) : Option (Fl × St) := match look tAny j σ with
  | some _ => some (.rets j, σ)
  | none => none
theorem S1_returnS {Wr : List Nat} {x : Str} {p pos : Pos} (O : c.Ok W) (j : Nat) {l : Loc} (hl : c.loc[j]? = some l) (hx : l.name = x) (hd : (x == ("__debug__" : Str)) = false := by decide) (hcd : (x == ("__classdict__" : Str)) = false := by decide) :
    S1 W k c Wr (.Return (some (.Name x p)) pos) (retSF j) := by
  intro A hA σ s V F Q E f σ' R hm hQ
  unfold retSF at hm
  split at hm
  · rename_i av e1
    cases hm
    have hav := look_some e1
    refine wpAny_Return_some (wpAny_Name ?_ hd)
    have hq : Q (.ret (V j)) s := hQ _ _ V F ⟨R, fun _ _ => ⟨rfl, rfl, rfl⟩, fun b o e _ _ => e, fun i hi _ ha => .inl ⟨i, hi, ha⟩, fun _ o e => ⟨o, e⟩, .rf, ⟨rfl, _, hav⟩⟩
    cases l with
    | ns z =>
      have hx' : z = x := hx
      subst hx'
      obtain ⟨m, hn, hmm⟩ := R.ns
      exact wpAny_loadName_local O.kind (O.kindL j z hl) hn (hmm j z _ hl hav) hq
    | cell z b =>
      have hx' : z = x := hx
      subst hx'
      obtain ⟨o, hc, ho⟩ := R.cell j z b hl
      have ho' := ho _ hav
      subst ho'
      obtain ⟨hk, hlk⟩ := O.kindC j z b hl
      rcases hk with hk | hk
      · exact wpAny_loadName_cell O.kind hk hlk hc hq
      · exact wpAny_loadName_free O.kind hk hlk hc hq hcd
  · cases hm
end
end Mine

namespace Mine
section
variable {W : Wd} {k : Nat} {c : Fx}

theorem op_iaddS : OpIs W k AV.str AV.str AV.str (inplaceOp .Add) catF := by
  intro A hA s v1 v2 F1 F2 Q E a b g _ r1 r2 e hQ
  unfold catF at e
  split at e
  · rename_i hb
    cases e; cases r1; cases r2
    refine iadd_str (fun t' tk => ?_) (by rw [txt_len, txt_len]; have := tLine_le; omega)
    rw [txt_append]
    exact hQ _ _ [] (Kp.toks s _) (.str _ _) nofr
  · cases e

/-- a list in place -/
theorem Rel.poke {σ : St} {s : Shared} {V : Nat → Value} {F : Nat → List Addr} (R : Rel W c σ s V F) {i : Nat} {av av' : AV} {a : Addr} {h' : Heap} (hi : σ[i]? = some (some av)) (ha : a ∈ F i)
    (hk : ∀ b o, b ≠ a → s.heap.get? b = some o → h'.get? b = some o) (hr : Rep W.C h' (F i) (V i) av') : Rel W c (σ.set i (some av')) { s with heap := h' } V F := by
  obtain ⟨am, aG⟩ := R.off i a ha
  have hlen : i < σ.length := (List.getElem?_eq_some_iff.mp hi).1
  have key : ∀ (j : Nat) aw, (σ.set i (some av'))[j]? = some (some aw) → (j = i ∧ aw = av') ∨ (j ≠ i ∧ σ[j]? = some (some aw)) := fun j aw h => by
    by_cases hij : j = i
    · subst hij
      rw [List.getElem?_set_self hlen] at h
      simp at h
      exact .inl ⟨rfl, h.symm⟩
    · exact .inr ⟨hij, by rwa [List.getElem?_set_ne (Ne.symm hij)] at h⟩
  refine ⟨fun b o e => hk b o (fun h => ?_) (R.top b o e), ?_, fun j x b e => ?_, fun j aw e => ?_, fun j h => R.nil j fun aw e => ?_, R.apart, R.off, R.gens, by rw [List.length_set, R.len]⟩
  · subst h; rw [aG] at e; cases e
  · obtain ⟨m, hn, hm⟩ := R.ns
    refine ⟨m, hn.at' fun o e => hk _ o (fun h => am (h ▸ .head _)) e, fun j x aw hx e => ?_⟩
    rcases key j aw e with ⟨h1, h2⟩ | ⟨_, e'⟩
    · subst h1; exact hm j x _ hx hi
    · exact hm j x _ hx e'
  · obtain ⟨o, hc, ho⟩ := R.cell j x b e
    have hb : b ≠ a := fun h => am (h ▸ .tail _ (List.mem_filterMap.mpr ⟨_, List.mem_of_getElem? e, rfl⟩))
    refine ⟨o, (let ⟨ob, e1, e2⟩ := hc; ⟨ob, hk _ ob hb e1, e2⟩), fun aw e' => ?_⟩
    rcases key j aw e' with ⟨h1, h2⟩ | ⟨_, e2⟩
    · subst h1; exact ho _ hi
    · exact ho _ e2
  · rcases key j aw e with ⟨h1, h2⟩ | ⟨h1, e2⟩
    · subst h1; subst h2; exact hr
    · exact (R.rep j aw e2).keep fun b hb o e => hk b o (fun h => R.apart j i h1 b hb (h ▸ ha)) e
  · by_cases hij : j = i
    · subst hij; exact h av' (by rw [List.getElem?_set_self hlen])
    · exact h aw (by rw [List.getElem?_set_ne (Ne.symm hij)]; exact e)

theorem After.poke {Wr : List Nat} {σ : St} {s s1 : Shared} {V : Nat → Value} {F : Nat → List Addr} (kp : Kp s s1) (R : Rel W c σ s1 V F) {i : Nat} {av av' : AV} {a : Addr} {h' : Heap} (hw : i ∈ Wr) (hi : σ[i]? = some (some av)) (ha : a ∈ F i)
    (hk : ∀ b o, b ≠ a → s1.heap.get? b = some o → h'.get? b = some o) (hr : Rep W.C h' (F i) (V i) av') : After W c Wr σ s V F .next (σ.set i (some av')) .next { s1 with heap := h' } V F := by
  refine ⟨R.poke hi ha hk hr, fun j hj => ⟨rfl, rfl, List.getElem?_set_ne fun h => hj (by rw [← h]; exact hw)⟩, fun b o e hm hF => hk b o (fun h => hF i hw (h ▸ ha)) (kp.heap b o e), fun j hj a ha => .inl ⟨j, hj, ha⟩, fun b o e => ?_, kp.os.hp, rfl⟩
  by_cases h : b = a
  · subst h
    exact hr.has b ha
  · exact ⟨o, hk b o h (kp.heap b o e)⟩

/-- a list of one kind -/
structure Lst {α : Type} (T : Ty (List α)) (inj : α → AV) : Prop where
  is : ∀ {C : Addr} {h : Heap} {F : List Addr} {v : Value} {l : List α}, Rep C h F v (T.inj l) → ∃ (a : Addr) (vs : List Value), v = .ref a ∧ F = [a] ∧ vs.length = l.length ∧ h.PlainList a vs.toArray ∧
    (∀ (n : Nat) (h' : Heap) (F' : List Addr) (v' : Value) (x : α), Rep C h F' v' (inj x) → h'.PlainList a (vs.take n ++ v' :: vs.drop n).toArray → Rep C h' F v (T.inj (l.take n ++ x :: l.drop n)))

theorem lst_il : Lst tIl AV.int where
  is := fun r => by
    cases r with | @il a vs ns l i =>
    refine ⟨a, vs, rfl, rfl, i.length, l, fun n h' F' v' x r' l' => ?_⟩
    cases r'
    exact .il l' (IntsAre.append (i.take n) (.cons _ _ (i.drop n)))
theorem lst_sl : Lst tSl AV.str where
  is := fun r => by
    cases r with | @sl a vs ns l i =>
    refine ⟨a, vs, rfl, rfl, by simpa using StrsAre.length i, l, fun n h' F' v' x r' l' => ?_⟩
    cases r'
    refine .sl l' ?_
    rw [List.map_append, List.map_cons]
    exact StrsAre.append' (by rw [List.map_take]; exact StrsAre.take' i n) (.cons _ _ (by rw [List.map_drop]; exact StrsAre.drop' i n))

/-- a statement that writes the object of slot i, in place -/
def SP (W : Wd) (k : Nat) (c : Fx) (i : Nat) (st : Stmt) (m : St → Option (Fl × St)) : Prop :=
  ∀ (A : Around), AOk k A → ∀ (σ : St) (s : Shared) (V : Nat → Value) (F : Nat → List Addr) (Q : Flow → Shared → Prop) (E : Value → Shared → Prop) (f : Fl) (σ' : St),
    Rel W c σ s V F → m σ = some (f, σ') → (∀ s' F', After W c [i] σ s V F f σ' .next s' V F' → Q .next s') → wpAny (model W.prog W.w) A (exec st c.env) Q E s
theorem SP.s1 {i : Nat} {st : Stmt} {m : St → Option (Fl × St)} {Wr : List Nat} (h : SP W k c i st m) (hi : i ∈ Wr) : S1 W k c Wr st m :=
  fun A hA σ s V F Q E f σ' R hm hQ => h A hA σ s V F Q E f σ' R hm fun s' F' X => hQ _ _ _ _ (X.weak fun j hj => by rcases List.mem_cons.mp hj with rfl | h; exact hi; cases h)

def appF {α : Type} (T : Ty (List α)) (i : Nat) (m : St → Option α) (σ : St) : Option (Fl × St) := match look T i σ with
  | some l => match m σ with
    | some x => if l.length ≤ tLine then some (.next, σ.set i (some (T.inj (l ++ [x])))) else none
    | none => none
  | none => none

theorem gm_Lst {α : Type} {T : Ty (List α)} {inj : α → AV} (L : Lst T inj) {name : Str} {id : String} {pl : Sem Bool} (slot : Slot "list" name id) (hty : typeOf (.builtin id) = pure (.type "method_descriptor")) {A : Around} {s : Shared} {F : List Addr} {v : Value} {a : List α} {Q : Value × List Value → Shared → Prop} {E : Value → Shared → Prop}
    (r : Rep W.C s.heap F v (T.inj a)) (h : Q (.builtin id, [v]) s) : wpAny (model W.prog W.w) A (getMethod v name pl) Q E s := by
  obtain ⟨a, vs, rfl, rfl, _, l, _⟩ := L.is r
  obtain ⟨n, e⟩ := l
  exact getMethod_list_of slot hty ⟨_, e, rfl, n, rfl⟩ ⟨_, e, rfl⟩ h

/-- a name's value as it stands -/
theorem load_slot (O : c.Ok W) {y : Str} {q : Pos} {j : Nat} {l' : Loc} (hl' : c.loc[j]? = some l') (hy : l'.name = y) {A : Around} {σ : St} {s : Shared} {V : Nat → Value} {F : Nat → List Addr} {av : AV} {E : Value → Shared → Prop} (R : Rel W c σ s V F) (hav : σ[j]? = some (some av))
    (hd : (y == ("__debug__" : Str)) = false := by decide) (hcd : (y == ("__classdict__" : Str)) = false := by decide) : wpAny (model W.prog W.w) A (eval (.Name y q) c.env) (fun v s' => v = V j ∧ s' = s) E s := by
  refine wpAny_Name ?_ hd
  cases l' with
  | ns z =>
    have hx' : z = y := hy
    subst hx'
    obtain ⟨m, hn, hmm⟩ := R.ns
    exact wpAny_loadName_local O.kind (O.kindL j z hl') hn (hmm j z _ hl' hav) ⟨rfl, rfl⟩
  | cell z b =>
    have hx' : z = y := hy
    subst hx'
    obtain ⟨o, hc, ho⟩ := R.cell j z b hl'
    have ho' := ho _ hav
    subst ho'
    obtain ⟨hk, hlk⟩ := O.kindC j z b hl'
    rcases hk with hk | hk
    · exact wpAny_loadName_cell O.kind hk hlk hc ⟨rfl, rfl⟩
    · exact wpAny_loadName_free O.kind hk hlk hc ⟨rfl, rfl⟩ hcd

theorem SP_append {α : Type} {T : Ty (List α)} {inj : α → AV} (L : Lst T inj) {b : Bool} {e : Expr} {m : St → Option α} {x : Str} {p ap pos pos2 : Pos} {pl : Sem Bool} (hsc : Scal' inj) (O : c.Ok W) (h : SE W k c b inj e m)
    (i : Nat) {l : Loc} (hl : c.loc[i]? = some l) (hx : l.name = x) (hint : interactive c.env = false)
    (hd : (x == ("__debug__" : Str)) = false := by decide) (hcd : (x == ("__classdict__" : Str)) = false := by decide)
    (hs : swapsWith (.Call (.Attribute (.Name x p) "append" ap) [e] [] pos2) none pos.line c.env = pure false := by rfl)
    (he : eval (.Call (.Attribute (.Name x p) "append" ap) [e] [] pos2) c.env = (do
      let ov ← eval (.Name x p) c.env
      standAt ap.atName
      let (f, first) ← holding [ov] (getMethod ov "append" pl)
      callWith pos2 f first (backTo pos2 (starEach [e] c.env)) []) := by rfl)
    (hse : ∀ rest, starEach (e :: rest) c.env = (false, eval e c.env) :: starEach rest c.env := by intro _; rfl) :
    SP W k c i (.Expr (.Call (.Attribute (.Name x p) "append" ap) [e] [] pos2) pos) (appF T i m) := by
  intro A hA σ s V F Q E fl σ' R hm hQ
  unfold appF at hm
  split at hm
  · rename_i ls e1
    split at hm
    · rename_i y e2
      split at hm
      · rename_i hz
        cases hm
        have hav := look_some e1
        refine wpAny_Expr ?_ hint hs
        refine MethodCall_ (he := he) (wpAny_mono (load_slot O hl hx R hav hd hcd) (fun v s' hv => ?_) fun _ _ x => x)
        obtain ⟨rfl, rfl⟩ := hv
        refine gm_Lst L slot_list_append rfl (R.rep i _ hav) ?_
        refine callWith_method1 (he := hse _) (args_cons (he := hse _) (h A hA σ s' V F _ E y R e2 fun v1 s1 F1 k1 r1 _ => args_nil ?_))
        have R1 := R.kp k1
        obtain ⟨a, vs, e4, e5, e6, l1, snoc⟩ := L.is (R1.rep i _ hav)
        rw [e4]
        refine wpAny_list_append_plain (hsz := by simp; have := tLine_le; omega) l1 fun h' l2 sb => ?_
        have hr : Rep W.C h' (F i) (V i) (T.inj (ls ++ [y])) := by
          have := snoc ls.length h' [] v1 y (hsc _ _ _ _ _ r1 _ _) (by
            have e7 : (vs.take ls.length ++ v1 :: vs.drop ls.length).toArray = vs.toArray.push v1 := by
              rw [← e6, List.take_length, List.drop_length]; simp
            rw [e7]; exact l2)
          rw [List.take_length, List.drop_length] at this
          exact this
        exact hQ _ _ (After.poke k1 R1 (.head _) hav (by rw [e5]; exact .head _) sb.extBut hr)
      · cases hm
    · cases hm
  · cases hm

def insF (i : Nat) (m1 m2 : St → Option Int) (σ : St) : Option (Fl × St) := match look tIl i σ with
  | some l => match m1 σ with
    | some n => match m2 σ with
      | some x => if l.length ≤ tLine ∧ 0 ≤ n ∧ n ≤ l.length then some (.next, σ.set i (some (.il (l.take n.toNat ++ x :: l.drop n.toNat)))) else none
      | none => none
    | none => none
  | none => none

theorem SP_insert {b1 b2 : Bool} {e1 e2 : Expr} {m1 m2 : St → Option Int} {x : Str} {p ap pos pos2 : Pos} {pl : Sem Bool} (O : c.Ok W) (h1 : SE W k c b1 AV.int e1 m1) (h2 : SE W k c b2 AV.int e2 m2)
    (i : Nat) {l : Loc} (hl : c.loc[i]? = some l) (hx : l.name = x) (hint : interactive c.env = false)
    (hd : (x == ("__debug__" : Str)) = false := by decide) (hcd : (x == ("__classdict__" : Str)) = false := by decide)
    (hs : swapsWith (.Call (.Attribute (.Name x p) "insert" ap) [e1, e2] [] pos2) none pos.line c.env = pure false := by rfl)
    (he : eval (.Call (.Attribute (.Name x p) "insert" ap) [e1, e2] [] pos2) c.env = (do
      let ov ← eval (.Name x p) c.env
      standAt ap.atName
      let (f, first) ← holding [ov] (getMethod ov "insert" pl)
      callWith pos2 f first (backTo pos2 (starEach [e1, e2] c.env)) []) := by rfl)
    (hse1 : ∀ rest, starEach (e1 :: rest) c.env = (false, eval e1 c.env) :: starEach rest c.env := by intro _; rfl)
    (hse2 : ∀ rest, starEach (e2 :: rest) c.env = (false, eval e2 c.env) :: starEach rest c.env := by intro _; rfl) 
    (hpl : (backTo pos2 (starEach [e2] c.env)).any (·.1) = false := by rfl) :
    SP W k c i (.Expr (.Call (.Attribute (.Name x p) "insert" ap) [e1, e2] [] pos2) pos) (insF i m1 m2) := by
  intro A hA σ s V F Q E fl σ' R hm hQ
  unfold insF at hm
  split at hm
  · rename_i ls e3
    split at hm
    · rename_i n e4
      split at hm
      · rename_i y e5
        split at hm
        · rename_i hz
          obtain ⟨hz, hn0, hn1⟩ := hz
          cases hm
          have hav := look_some e3
          refine wpAny_Expr ?_ hint hs
          refine MethodCall_ (he := he) (wpAny_mono (load_slot O hl hx R hav hd hcd) (fun v s' hv => ?_) fun _ _ x => x)
          obtain ⟨rfl, rfl⟩ := hv
          refine gm_Lst lst_il PySem.F.slot_list_insert rfl (R.rep i _ hav) ?_
          refine callWith_method1 (he := hse1 _) (hplain := hpl) (args_cons (he := hse1 _) (h1 A hA σ s' V F _ E n R e4 fun v1 s1 F1 k1 r1 _ => args_cons (he := hse2 _) (h2 A hA σ s1 V F _ E y (R.kp k1) e5 fun v2 s2 F2 k2 r2 _ => args_nil ?_)))
          have kp := k1.trans k2
          have R2 := R.kp kp
          obtain ⟨a, vs, e6, e7, e8, l1, snoc⟩ := lst_il.is (R2.rep i _ hav)
          rw [e6]
          cases r1 with | int _ t1 =>
          cases r2 with | int _ t2 =>
          obtain ⟨nn, ho⟩ := l1
          refine call_meets PySem.F.slot_list_insert ⟨_, ho, rfl⟩ PySem.F.entry_list_insert (PySem.F.args_list_insert_3 _ _ _)
            (AutoListH.list_insert_list_int_val_1 a vs.toArray nn n t1 (.int y t2) ?_ ?_) ⟨ho, ?_⟩
          · have h64 : tLine = 1000 := rfl
            unfold Builtin.List.listFitsIndex
            simp
            omega
          · simp; have := tLine_le; omega
          · refine hQ _ _ (After.poke kp R2 (.head _) hav (by rw [e7]; exact .head _) (a := a) (Heap.SameBut.update ..).extBut ?_)
            refine snoc n.toNat _ [] (.int y t2) y (.int _ _) ⟨nn + 1, ?_⟩
            have key : Obj.mapSeq (fun xs => have k := if n < 0 then (n + ((xs.size : Nat) : Int)).toNat else min n.toNat xs.size; (xs.extract 0 k).push (Value.int y t2) ++ xs.extract k) { cls := .type "list", data := .seq vs.toArray nn } = { cls := .type "list", data := .seq (vs.take n.toNat ++ Value.int y t2 :: vs.drop n.toNat).toArray (nn + 1) } := by
              have hmin : min n.toNat vs.length = n.toNat := by omega
              have hneg : ¬ n < 0 := by omega
              simp [Obj.mapSeq, hneg, hmin]
              exact ⟨List.take_of_length_le (by simp), by omega⟩
            rw [Heap.get?_update_self _ ho (by rw [key]; rfl), key]
        · cases hm
      · cases hm
    · cases hm
  · cases hm

/-- while, with fuel -/
def whileF (t : St → Option Bool) (b : St → Option (Fl × St)) : Nat → St → Option (Fl × St)
  | 0, _ => none
  | n + 1, σ => match t σ with
    | some true => match b σ with
      | some (.next, σ') => whileF t b n σ'
      | o => o
    | some false => some (.next, σ)
    | none => none

theorem S1_while {Wr : List Nat} {test : Expr} {body : List Stmt} {pos : Pos} {t : St → Option Bool} {b : St → Option (Fl × St)} (n : Nat) (ht : ST W k c test t) (hb : SS W k c Wr body b) : S1 W k c Wr (.While test body [] pos) (whileF t b n) := by
  intro A hA σ s V F Q E f σ' R hm hQ
  refine wpAny_While (codeAny_whileLoop (fun n s' => ∃ σ1 V1 F1, After W c Wr σ s V F .next σ1 .next s' V1 F1 ∧ whileF t b n σ1 = some (f, σ')) ?_ n ⟨σ, V, F, After.refl R, hm⟩)
  rintro n s' ⟨σ1, V1, F1, X, hw⟩
  cases n with
  | zero => cases hw
  | succ n =>
    unfold whileF at hw
    split at hw
    · rename_i e
      refine ht A hA σ1 s' V1 F1 _ _ true X.rel e fun s2 kp => ?_
      simp only [if_true]
      cases hbσ : b σ1 with
      | none => rw [hbσ] at hw; cases hw
      | some r =>
        obtain ⟨f2, σ2⟩ := r
        rw [hbσ] at hw
        refine hb A hA σ1 s2 V1 F1 _ _ f2 σ2 (X.rel.kp kp) hbσ fun fl s3 V3 F3 Y => ?_
        have Z := X.trans (Y.pre kp X.rel)
        have hf := Y.flow
        cases f2 with
        | next =>
          have : fl = .next := hf
          subst this
          exact ⟨n, Nat.lt_succ_self n, σ2, V3, F3, Z, hw⟩
        | ret av => obtain ⟨v, Fr, e1, _⟩ := hf; subst e1; cases hw; exact hQ _ _ _ _ Z
        | rets j => obtain ⟨e1, _⟩ := hf; subst e1; cases hw; exact hQ _ _ _ _ Z
    · rename_i e
      cases hw
      refine ht A hA _ s' V1 F1 _ _ false X.rel e fun s2 kp => ?_
      simp only [Bool.false_eq_true, if_false]
      have Z := X.trans ((After.refl (Wr := Wr) (X.rel.kp kp)).pre kp X.rel)
      exact wpAny_execs_nil (hQ _ _ _ _ Z)
    · cases hw
end
end Mine

namespace Mine
section
variable {W : Wd} {k : Nat} {c : Fx}

/-- addresses that the loop alone writes -/
theorem Rel.hop {σ : St} {s : Shared} {V : Nat → Value} {F : Nat → List Addr} (R : Rel W c σ s V F) {wr : List Addr} {h' : Heap} {tk : Nat} (h : ∀ b ∈ wr, b ∉ c.mine ∧ W.G.get? b = none ∧ ∀ i, b ∉ F i)
    (hk : ∀ b o, b ∉ wr → s.heap.get? b = some o → h'.get? b = some o) : Rel W c σ { s with heap := h', toks := tk } V F := by
  refine ⟨fun b o e => hk b o (fun hb => ?_) (R.top b o e), ?_, fun j x b e => ?_, fun j aw e => (R.rep j aw e).keep fun a ha o => hk a o fun hb => (h a hb).2.2 j ha, R.nil, R.apart, R.off, R.gens, R.len⟩
  · rw [(h b hb).2.1] at e; cases e
  · obtain ⟨m, hn, hm⟩ := R.ns
    exact ⟨m, hn.at' fun o => hk _ o fun hb => (h _ hb).1 (.head _), hm⟩
  · obtain ⟨o, hc, ho⟩ := R.cell j x b e
    exact ⟨o, (let ⟨ob, e1, e2⟩ := hc; ⟨ob, hk _ ob (fun hb => (h _ hb).1 (.tail _ (List.mem_filterMap.mpr ⟨_, List.mem_of_getElem? e, rfl⟩))) e1, e2⟩), ho⟩

theorem After.hop {Wr : List Nat} {σ σ1 : St} {s s1 : Shared} {V V1 : Nat → Value} {F F1 : Nat → List Addr} (X : After W c Wr σ s V F .next σ1 .next s1 V1 F1) {wr : List Addr} {h' : Heap} {tk : Nat}
    (h : ∀ b ∈ wr, b ∉ c.mine ∧ W.G.get? b = none ∧ ∀ i, b ∉ F1 i) (hn : ∀ b ∈ wr, s.heap.get? b = none)
    (hk : ∀ b o, b ∉ wr → s1.heap.get? b = some o → h'.get? b = some o) : After W c Wr σ s V F .next σ1 .next { s1 with heap := h', toks := tk } V1 F1 := by
  have nw : ∀ b o, s.heap.get? b = some o → b ∉ wr := fun b o e hb => by rw [hn b hb] at e; cases e
  refine ⟨X.rel.hop h hk, X.same, fun b o e hm hF => hk b o (nw b o e) (X.heap b o e hm hF), X.grow, fun b o e => ?_, X.os.hp, rfl⟩
  obtain ⟨o', e'⟩ := X.old b o e
  exact ⟨o', hk b o' (nw b o e) e'⟩

/-- an expression to walk over -/
def IT (W : Wd) (k : Nat) (c : Fx) (Wr : List Nat) {α : Type} (inj : α → AV) (iter : Expr) (m : St → Option (List α)) : Prop :=
  ∀ (A : Around), AOk k A → ∀ (σ : St) (s : Shared) (V : Nat → Value) (F : Nat → List Addr) (Q : Value → Shared → Prop) (E : Value → Shared → Prop) (xs : List α), Rel W c σ s V F → m σ = some xs →
    (∀ I fp wr P St s', Walks W.prog W.w A I fp wr xs.length P St → Kp s s' → St 0 s'.heap → (∀ i h, St i h → ∀ b ∈ fp, ∃ o, h.get? b = some o) →
      (∀ j v, j < xs.length → P j v → ∃ a, xs[j]? = some a ∧ ∀ C h, Rep C h [] v (inj a)) → (∀ b ∈ wr, s.heap.get? b = none) → (∀ b ∈ fp, b ∉ c.mine ∧ ∀ i ∈ Wr, b ∉ F i) → xs.length ≤ tLine → Q (.ref I) s') →
    wpAny (model W.prog W.w) A (eval iter c.env) (fun xv s1 => wpAny (model W.prog W.w) A (pyIter xv) Q E s1) E s

def forF {α : Type} (t : Nat) (inj : α → AV) (b : St → Option (Fl × St)) : List α → St → Option (Fl × St)
  | [], σ => some (.next, σ)
  | x :: r, σ => match b (σ.set t (some (inj x))) with
    | some (.next, σ') => forF t inj b r σ'
    | o => o

def forM {α : Type} (t : Nat) (inj : α → AV) (mi : St → Option (List α)) (b : St → Option (Fl × St)) (σ : St) : Option (Fl × St) := match mi σ with
  | some xs => forF t inj b xs σ
  | none => none

theorem S1_for {Wr : List Nat} {α : Type} {inj : α → AV} {x : Str} {px pos : Pos} {iter : Expr} {body : List Stmt} {mi : St → Option (List α)} {b : St → Option (Fl × St)} (O : c.Ok W) (t : Nat) {l : Loc} (hl : c.loc[t]? = some l) (hx : l.name = x) (ht : t ∈ Wr)
    (hcell : c.env.kindOf x ≠ some .free) (hi : IT W k c Wr inj iter mi) (hb : SS W k c Wr body b) (hs : ∀ x, foldedSetIterable iter c.env x = pure x := by intro _; rfl) :
    S1 W k c Wr (.For (.Name x px) iter body [] pos) (forM t inj mi b) := by
  intro A hA σ s V F Q E f σ' R hm hQ
  unfold forM at hm
  split at hm
  case h_2 => cases hm
  rename_i xs e
  refine wpAny_For (hi A hA σ s V F _ E xs R e fun I fp wr P St s0 Wk kp st0 live hP hwr hfp _ => ?_) hs
  refine codeAny_forLoop (fun n s' => ∃ j σj Vj Fj, n = xs.length - j ∧ j ≤ xs.length ∧ St j s'.heap ∧ After W c Wr σ s V F .next σj .next s' Vj Fj ∧ (∀ b ∈ fp, b ∉ c.mine ∧ ∀ i ∈ Wr, b ∉ Fj i) ∧ forF t inj b (xs.drop j) σj = some (f, σ')) ?_ xs.length
    ⟨0, σ, V, F, rfl, Nat.zero_le _, st0, (After.refl (R.kp kp)).pre kp R, hfp, hm⟩
  rintro n s' ⟨j, σj, Vj, Fj, rfl, hj, st, X, hfj, hw⟩
  have hwr' : ∀ b ∈ wr, b ∉ c.mine ∧ W.G.get? b = none ∧ ∀ i, b ∉ Fj i := fun b hb => by
    refine ⟨(hfj b (Wk.sub b hb)).1, (R.fresh (hwr b hb)).2.1, fun i => ?_⟩
    by_cases hi : i ∈ Wr
    · exact (hfj b (Wk.sub b hb)).2 i hi
    · rw [(X.same i hi).2.1]; exact (R.fresh (hwr b hb)).2.2 i
  by_cases hlt : j < xs.length
  · refine Wk.item j s' _ _ hlt st fun v h1 tk1 hPv st1 hk1 => ?_
    obtain ⟨a, ha, hr⟩ := hP j v hlt hPv
    rw [List.drop_eq_getElem_cons hlt] at hw
    have haj : xs[j] = a := by rw [List.getElem?_eq_getElem hlt] at ha; exact Option.some.inj ha
    rw [haj] at hw
    unfold forF at hw
    have X1 := X.hop (tk := tk1) hwr' hwr hk1
    refine wpAny_assign_Name (wp_store (F₁ := []) O hl hx hcell X1.rel (hr _ _) (fun y hy => nomatch hy) fun s2 R2 B => ?_)
    have X2 := After.store (Wr := Wr) (F₁ := []) (s := { s' with heap := h1, toks := tk1 }) ht (Kp.refl _) (fun y hy => nomatch hy) R2 B
    cases hbσ : b (σj.set t (some (inj a))) with
    | none => rw [hbσ] at hw; cases hw
    | some r =>
      obtain ⟨f2, σ2⟩ := r
      rw [hbσ] at hw
      refine hb A hA _ s2 _ _ _ _ f2 σ2 R2 hbσ fun fl s3 V3 F3 Y => ?_
      have Z0 := X2.trans Y
      have Z := X1.trans Z0
      have hf := Y.flow
      cases f2 with
      | next =>
        have : fl = .next := hf
        subst this
        refine ⟨xs.length - (j + 1), by omega, j + 1, σ2, V3, F3, rfl, hlt, ?_, Z, fun y hy => ⟨(hfj y hy).1, fun i hi hm => ?_⟩, hw⟩
        · exact Wk.frame _ _ _ st1 fun y hy o e => Z0.heap y o e (hfj y hy).1 (hfj y hy).2
        · rcases Z0.grow i hi y hm with ⟨i', hi', hm'⟩ | h
          · exact (hfj y hy).2 i' hi' hm'
          · obtain ⟨o, e⟩ := live _ _ st1 y hy
            rw [show h1.get? y = none from h] at e; cases e
      | ret av => obtain ⟨v, Fr, e1, _⟩ := hf; subst e1; cases hw; exact hQ _ _ _ _ Z
      | rets j' => obtain ⟨e1, _⟩ := hf; subst e1; cases hw; exact hQ _ _ _ _ Z
  · have hjn : j = xs.length := by omega
    subst hjn
    rw [List.drop_length] at hw
    cases hw
    refine Wk.done s' _ _ st fun h1 tk1 hk1 => ?_
    exact wpAny_execs_nil (hQ _ _ _ _ (X.hop hwr' hwr hk1))

/-! what is walked over -/
theorem isListIter_push (h : Heap) (a : Addr) : (h.push { cls := .type "list_iterator", data := .fields #[.ref a, .int 0 0] }).IsListIter h.objs.size a 0 := ⟨_, Heap.get?_push_size _ rfl, rfl, rfl⟩

/-- a slot's list, not written in the loop -/
theorem IT_list {Wr : List Nat} {α : Type} {T : Ty (List α)} {inj : α → AV} {x : Str} {p : Pos} (O : c.Ok W) (hAt : ∀ (C : Addr) (h : Heap) (F : List Addr) (v : Value) (l : List α), Rep C h F v (T.inj l) → ∃ (a : Addr) (vs : List Value), v = .ref a ∧ F = [a] ∧ vs.length = l.length ∧ h.PlainList a vs.toArray ∧ ∀ (j : Nat) (u : Value), vs[j]? = some u → ∃ y, l[j]? = some y ∧ ∀ C h, Rep C h [] u (inj y))
    (i : Nat) {l : Loc} (hl : c.loc[i]? = some l) (hx : l.name = x) (hi : i ∉ Wr) (hd : (x == ("__debug__" : Str)) = false := by decide) (hcd : (x == ("__classdict__" : Str)) = false := by decide) :
    IT W k c Wr inj (.Name x p) (fun σ => match look T i σ with | some l => if l.length ≤ tLine then some l else none | none => none) := by
  intro A hA σ s V F Q E xs R hm hQ
  dsimp only at hm
  split at hm
  case h_2 => cases hm
  rename_i ls e1
  split at hm
  case isFalse => cases hm
  rename_i hz
  cases hm
  have hav := look_some e1
  refine wpAny_mono (load_slot O hl hx R hav hd hcd) (fun v s' hv => ?_) fun _ _ x => x
  obtain ⟨rfl, rfl⟩ := hv
  obtain ⟨a, vs, e2, e3, e4, l1, hvs⟩ := hAt _ _ _ _ _ (R.rep i _ hav)
  rw [e2]
  have hne : a ≠ s'.heap.objs.size := fun h => by obtain ⟨n, e⟩ := l1; exact Nat.lt_irrefl _ (h ▸ Heap.lt_size e)
  have hsz : s'.heap.get? s'.heap.objs.size = none := freshSize (Nat.le_refl _)
  have Wk : Walks W.prog W.w A s'.heap.objs.size [s'.heap.objs.size, a] [s'.heap.objs.size] xs.length (fun i v => vs.toArray[i]? = some v) (fun i h => h.IsListIter s'.heap.objs.size a i ∧ h.IsList a vs.toArray) := by
    rw [← e4]; exact Walks.list hA.hh _ a hne vs.toArray
  refine wpAny_pyIter_list l1.isList (hQ s'.heap.objs.size _ _ _ _ _ Wk (Kp.of (s := s') (t := s'.toks) fun b o e => Heap.get?_push_of_some _ e)
    ⟨isListIter_push _ _, (l1.at fun o e => Heap.get?_push_of_some _ e).isList⟩ (fun i h st b hb => ?_) (fun j u _ hu => hvs j u (by simpa using hu)) (fun b hb => ?_) (fun b hb => ?_) hz)
  · rcases List.mem_cons.mp hb with rfl | hb
    · obtain ⟨o, e, _⟩ := st.1; exact ⟨o, e⟩
    · rcases List.mem_cons.mp hb with rfl | hb
      · obtain ⟨o, e, _⟩ := st.2; exact ⟨o, e⟩
      · cases hb
  · rcases List.mem_cons.mp hb with rfl | hb
    · exact hsz
    · cases hb
  · rcases List.mem_cons.mp hb with rfl | hb
    · exact ⟨(R.fresh hsz).1, fun j _ => (R.fresh hsz).2.2 j⟩
    · rcases List.mem_cons.mp hb with rfl | hb
      · have hb : b ∈ F i := by rw [e3]; exact .head _
        exact ⟨(R.off i b hb).1, fun j hj => R.apart i j (fun h => hi (h ▸ hj)) b hb⟩
      · cases hb
end
end Mine

namespace Mine
section
variable {W : Wd} {k : Nat} {c : Fx}

def rangeL (a b : Int) : List Int := (List.range (b - a).toNat).map fun (i : Nat) => a + i
def rangeM (a b : Int) : Option (List Int) := if -1000 ≤ a ∧ a ≤ 1000 ∧ b ≤ 1000 ∧ a - b ≤ 1000 ∧ b - a ≤ 1000 then some (rangeL a b) else none

/-- from a range object on -/
theorem iter_range {A : Around} {s s0 : Shared} {σ : St} {V : Nat → Value} {F : Nat → List Addr} {Wr : List Nat} {E : Value → Shared → Prop} {Q : Value → Shared → Prop} {a b : Int} {xs : List Int} {r : Addr} {t u v : Tok} (hA : AOk k A) (R : Rel W c σ s V F) (kp : Kp s s0)
    (hr : IsRange s0.heap r a b 1 t u v) (hm : rangeM a b = some xs)
    (hQ : ∀ I fp wr P St s', Walks W.prog W.w A I fp wr xs.length P St → Kp s s' → St 0 s'.heap → (∀ i h, St i h → ∀ b ∈ fp, ∃ o, h.get? b = some o) →
      (∀ j v, j < xs.length → P j v → ∃ a, xs[j]? = some a ∧ ∀ C h, Rep C h [] v (AV.int a)) → (∀ b ∈ wr, s.heap.get? b = none) → (∀ b ∈ fp, b ∉ c.mine ∧ ∀ i ∈ Wr, b ∉ F i) → xs.length ≤ tLine → Q (.ref I) s') :
    wpAny (model W.prog W.w) A (pyIter (.ref r)) Q E s0 := by
  unfold rangeM at hm
  split at hm
  case isFalse => cases hm
  rename_i hb
  obtain ⟨h1, h2, h3, h4, h5⟩ := hb
  cases hm
  have hsz : s.heap.get? s0.heap.objs.size = none := by
    cases e : s.heap.get? s0.heap.objs.size with
    | none => rfl
    | some o => exact absurd (Heap.lt_size (kp.heap _ _ e)) (Nat.lt_irrefl _)
  have hlen : (rangeL a b).length = (b - a).toNat := by simp [rangeL]
  have hn : Builtin.Range.rangeSize a b 1 = ((rangeL a b).length : Int) := by
    rw [rangeSize_one, hlen]
    split <;> omega
  refine wpAny_pyIter_range hr (small_one (by omega) (by omega) (by omega) (by omega)) ?_
  refine hQ s0.heap.objs.size [s0.heap.objs.size] [s0.heap.objs.size] _ _ _ (Walks.range hA.hh _ a 1 (rangeL a b).length) (kp.trans (Kp.of (s := s0) (t := s0.toks) fun b o e => Heap.get?_push_of_some _ e)) ?_ (fun i h st b hb => ?_) (fun j v hj hv => ?_) (fun y hy => ?_) (fun y hy => ?_) ?_
  · show _ = _
    rw [hn]
    simp
    exact Heap.get?_push_size _ rfl
  · rcases List.mem_cons.mp hb with rfl | hb
    · exact ⟨_, st⟩
    · cases hb
  · obtain ⟨t', rfl⟩ := hv
    refine ⟨a + (j : Nat) * 1, ?_, fun _ _ => .int _ _⟩
    rw [hlen] at hj
    unfold rangeL
    rw [List.getElem?_map, List.getElem?_range hj]
    simp
  · rcases List.mem_cons.mp hy with rfl | hy
    · exact hsz
    · cases hy
  · rcases List.mem_cons.mp hy with rfl | hy
    · exact ⟨(R.fresh hsz).1, fun j _ => (R.fresh hsz).2.2 j⟩
    · cases hy
  · rw [hlen]; unfold tLine; omega

theorem IT_range1 {Wr : List Nat} {b1 : Bool} {e : Expr} {m1 : St → Option Int} {p pos : Pos} (T : TopF W) (O : c.Ok W) (hg : W.mg "range" = none) (hx : c.env.kindOf "range" = some .globalImplicit) (h1 : SE W k c b1 AV.int e m1)
    (he : eval (.Call (.Name "range" p) [e] [] pos) c.env = (do callWith pos (← eval (.Name "range" p) c.env) [] (backTo pos (starEach [e] c.env)) (backToKw pos (keywordEach [] c.env))) := by rfl)
    (hs : ∀ rest, starEach (e :: rest) c.env = (false, eval e c.env) :: starEach rest c.env := by intro _; rfl) :
    IT W k c Wr AV.int (.Call (.Name "range" p) [e] [] pos) (fun σ => match m1 σ with | some b => rangeM 0 b | none => none) := by
  intro A hA σ s V F Q E xs R hm hQ
  dsimp only at hm
  split at hm
  case h_2 => cases hm
  rename_i b e1
  refine Call_ (he := he) (wp_builtin (v := .type "range") T O R (by rfl) hg hx ?_)
  refine callWith_type1 (he := hs _) (args_cons (he := hs _) (h1 A hA σ s V F _ E b R e1 fun v1 s1 F1 k1 r1 _ => args_nil ?_))
  cases r1 with | int _ t1 =>
  refine call_range_1 (iter_range hA R (k1.trans (Kp.of (s := s1) (t := s1.toks + 1 + 1) fun b o e => Heap.get?_push_of_some _ e)) (IsRange.new _ _ _ _ _ _ _) hm hQ)

theorem IT_range2 {Wr : List Nat} {b1 b2 : Bool} {e1 e2 : Expr} {m1 m2 : St → Option Int} {p pos : Pos} (T : TopF W) (O : c.Ok W) (hg : W.mg "range" = none) (hx : c.env.kindOf "range" = some .globalImplicit) (h1 : SE W k c b1 AV.int e1 m1) (h2 : SE W k c b2 AV.int e2 m2)
    (he : eval (.Call (.Name "range" p) [e1, e2] [] pos) c.env = (do callWith pos (← eval (.Name "range" p) c.env) [] (backTo pos (starEach [e1, e2] c.env)) (backToKw pos (keywordEach [] c.env))) := by rfl)
    (hs1 : ∀ rest, starEach (e1 :: rest) c.env = (false, eval e1 c.env) :: starEach rest c.env := by intro _; rfl)
    (hs2 : ∀ rest, starEach (e2 :: rest) c.env = (false, eval e2 c.env) :: starEach rest c.env := by intro _; rfl)
    (hpl : (backTo pos (starEach [e2] c.env)).any (·.1) = false := by rfl) :
    IT W k c Wr AV.int (.Call (.Name "range" p) [e1, e2] [] pos) (op2 rangeM m1 m2) := by
  intro A hA σ s V F Q E xs R hm hQ
  obtain ⟨a, b, e3, e4, e5⟩ := op2_some hm
  refine Call_ (he := he) (wp_builtin (v := .type "range") T O R (by rfl) hg hx ?_)
  refine callWith_type1 (he := hs1 _) (hplain := hpl) (args_cons (he := hs1 _) (h1 A hA σ s V F _ E a R e3 fun v1 s1 F1 k1 r1 _ => args_cons (he := hs2 _) (h2 A hA σ s1 V F _ E b (R.kp k1) e4 fun v2 s2 F2 k2 r2 _ => args_nil ?_)))
  cases r1 with | int _ t1 =>
  cases r2 with | int _ t2 =>
  refine call_range_2 (iter_range hA R ((k1.trans k2).trans (Kp.of (s := s2) (t := s2.toks + 1) fun b o e => Heap.get?_push_of_some _ e)) (IsRange.new _ _ _ _ _ _ _) e5 hQ)

def signs (x : Sg) : List Sg := x.map fun n => [n]
/-- a text, sign by sign -/
theorem IT_text {Wr : List Nat} {b1 : Bool} {e : Expr} {m1 : St → Option Sg} (h1 : SE W k c b1 AV.str e m1) : IT W k c Wr AV.str e (fun σ => match m1 σ with | some x => if x.length ≤ tLine then some (signs x) else none | none => none) := by
  intro A hA σ s V F Q E xs R hm hQ
  dsimp only at hm
  split at hm
  case h_2 => cases hm
  rename_i x e1
  split at hm
  case isFalse => cases hm
  rename_i hz
  cases hm
  refine h1 A hA σ s V F _ E x R e1 fun v1 s1 F1 k1 r1 _ => ?_
  cases r1 with | str _ t1 =>
  have hsz : s.heap.get? s1.heap.objs.size = none := by
    cases e : s.heap.get? s1.heap.objs.size with
    | none => rfl
    | some o => exact absurd (Heap.lt_size (k1.heap _ _ e)) (Nat.lt_irrefl _)
  have fin : ∀ (o : Obj) (St : Nat → Heap → Prop) (_ : Walks W.prog W.w A s1.heap.objs.size [s1.heap.objs.size] [s1.heap.objs.size] (txt x).cps.size (SignAt (txt x)) St) (_ : St 0 (s1.heap.push o)) (_ : ∀ i h, St i h → ∃ o, h.get? s1.heap.objs.size = some o),
      Q (.ref s1.heap.objs.size) { s1 with heap := s1.heap.push o } := by
    intro o St Wk st live
    have hl : (signs x).length = (txt x).cps.size := by simp [signs, txt]
    refine hQ s1.heap.objs.size [s1.heap.objs.size] [s1.heap.objs.size] _ _ _ (by rw [hl]; exact Wk) (k1.trans (Kp.of (s := s1) (t := s1.toks) fun b o e => Heap.get?_push_of_some _ e)) st (fun i h st b hb => ?_) (fun j v hj hv => ?_) (fun y hy => ?_) (fun y hy => ?_) (by simpa [signs] using hz)
    · rcases List.mem_cons.mp hb with rfl | hb
      · exact live i h st
      · cases hb
    · obtain ⟨cc, u, h1, rfl⟩ := hv
      have h1' : x[j]? = some cc := by simpa [txt] using h1
      refine ⟨[cc], by simp [signs, h1'], fun _ _ => .str [cc] u⟩
    · rcases List.mem_cons.mp hy with rfl | hy
      · exact hsz
      · cases hy
    · rcases List.mem_cons.mp hy with rfl | hy
      · exact ⟨(R.fresh hsz).1, fun j _ => (R.fresh hsz).2.2 j⟩
      · cases hy
  cases ha : (txt x).cps.all (· < 128)
  · exact wpAny_pyIter_wide ha (fin _ _ (Walks.strWide hA.hh _ _ _) ⟨_, Heap.get?_push_size _ rfl, rfl, rfl⟩ fun i h st => by obtain ⟨o, e, _⟩ := st; exact ⟨o, e⟩)
  · exact wpAny_pyIter_ascii ha (fin _ _ (Walks.strAscii hA.hh _ _ _) ⟨_, Heap.get?_push_size _ rfl, rfl, rfl⟩ fun i h st => by obtain ⟨o, e, _⟩ := st; exact ⟨o, e⟩)
end
end Mine

namespace Mine

inductive Reps (C : Addr) (h : Heap) : List (List Addr) → List Value → List AV → Prop
  | nil : Reps C h [] [] []
  | cons {F v av Fs vs avs} : Rep C h F v av → Reps C h Fs vs avs → Reps C h (F :: Fs) (v :: vs) (av :: avs)

theorem Reps.len {C : Addr} {h : Heap} {Fs : List (List Addr)} {vs : List Value} {avs : List AV} (r : Reps C h Fs vs avs) : vs.length = avs.length ∧ Fs.length = avs.length := by
  induction r with
  | nil => exact ⟨rfl, rfl⟩
  | cons _ _ ih => exact ⟨by simp [ih.1], by simp [ih.2]⟩
theorem Reps.at {C : Addr} {h : Heap} {Fs : List (List Addr)} {vs : List Value} {avs : List AV} (r : Reps C h Fs vs avs) : ∀ (i : Nat) av, avs[i]? = some av → Rep C h (Fs[i]?.getD []) (vs[i]?.getD .none) av := by
  induction r with
  | nil => intro i av h; simp at h
  | cons r _ ih =>
    intro i av h
    cases i with
    | zero => simp at h; subst h; simpa using r
    | succ i => simpa using ih i av (by simpa using h)
theorem Reps.keeps {C : Addr} {h h' : Heap} {Fs : List (List Addr)} {vs : List Value} {avs : List AV} (r : Reps C h Fs vs avs) (hk : ∀ b o, h.get? b = some o → h'.get? b = some o) : Reps C h' Fs vs avs := by
  induction r with
  | nil => exact .nil
  | cons r _ ih => exact .cons (r.keeps hk) ih
theorem Reps.append {C : Addr} {h : Heap} {Fs Fs' : List (List Addr)} {vs vs' : List Value} {avs avs' : List AV} (r : Reps C h Fs vs avs) (r' : Reps C h Fs' vs' avs') : Reps C h (Fs ++ Fs') (vs ++ vs') (avs ++ avs') := by
  induction r with
  | nil => exact r'
  | cons r _ ih => exact .cons r ih

def St0 (avs : List AV) (n : Nat) : St := avs.map some ++ List.replicate (n - avs.length) none

theorem St0_at {avs : List AV} {n i : Nat} {av : AV} : (St0 avs n)[i]? = some (some av) ↔ avs[i]? = some av := by
  unfold St0
  by_cases h : i < avs.length
  · rw [List.getElem?_append_left (by simpa using h)]
    simp
  · rw [List.getElem?_append_right (by simpa using h), List.getElem?_eq_none (by omega : avs.length ≤ i)]
    simp [List.getElem?_replicate]

theorem nodup_inj {α : Type} {l : List α} (h : l.Nodup) {i j : Nat} {x : α} (h1 : l[i]? = some x) (h2 : l[j]? = some x) : i = j := by
  obtain ⟨l1, g1⟩ := List.getElem?_eq_some_iff.mp h1
  obtain ⟨l2, g2⟩ := List.getElem?_eq_some_iff.mp h2
  have := List.pairwise_iff_getElem.mp h
  rcases Nat.lt_trichotomy i j with hlt | he | hlt
  · exact absurd (g1.trans g2.symm) (this i j l1 l2 hlt)
  · exact he
  · exact absurd (g2.trans g1.symm) (this j i l2 l1 hlt)

theorem look_mem {l : List (Str × Value)} {x : Str} {v : Value} (hm : (x, v) ∈ l) (hnd : l.Pairwise fun p q => p.1 ≠ q.1) : l.lookup x = some v := by
  induction l with
  | nil => cases hm
  | cons p r ih =>
    obtain ⟨y, u⟩ := p
    rw [List.pairwise_cons] at hnd
    rcases List.mem_cons.mp hm with e | hm
    · cases e; simp [List.lookup]
    · have : x ≠ y := fun h => hnd.1 _ hm h.symm
      rw [List.lookup_cons]
      have hb : (x == y) = false := by simpa using this
      rw [hb]
      exact ih hm hnd.2

theorem zip_pair : ∀ {names : List Str} {vs : List Value}, names.Nodup → (names.zip vs).Pairwise fun p q => p.1 ≠ q.1
  | [], _, _ => by simp
  | _ :: _, [], _ => by simp
  | n :: ns, v :: vs, h => by
    rw [List.nodup_cons] at h
    rw [List.zip_cons_cons, List.pairwise_cons]
    refine ⟨fun p hp e => h.1 ?_, zip_pair h.2⟩
    obtain ⟨a, b⟩ := p
    have : a ∈ ns := (List.of_mem_zip hp).1
    have e' : n = a := e
    rw [e']; exact this

theorem look_zip {names : List Str} {vs : List Value} (hnd : names.Nodup) {i : Nat} {x : Str} {v : Value} (h1 : names[i]? = some x) (h2 : vs[i]? = some v) : (names.zip vs).reverse.lookup x = some v := by
  refine look_mem ?_ ?_
  · rw [List.mem_reverse]
    refine List.mem_of_getElem? (i := i) ?_
    rw [List.getElem?_zip_eq_some]
    exact ⟨h1, h2⟩
  · rw [List.pairwise_reverse]
    exact (zip_pair hnd).imp fun h e => h e.symm

structure Fs1 (W : Wd) (f : Addr) (o : Obj) (fd : FuncData) (body : List Stmt) : Prop where
  ho : W.G.get? f = some o
  hdata : o.data = .func fd
  hcd : W.G.CodeRec fd.code fd.qualname
  hbody : fd.body = .stmts body
  glob : fd.globals = mainGlobals
  clos : fd.closure = []
  blt : fd.builtins = builtinsNs
  kind : fd.scope.kind = .function
  co : fd.scope.isCoroutine = false
  gen : fd.scope.isGenerator = false
  cell : ∀ x ∈ fd.scope.names, x.2 ≠ .cell

def fx (fd : FuncData) (f L : Addr) (names : List Str) : Fx := ⟨callEnv fd L f, names.map .ns⟩

theorem fx_mine {fd : FuncData} {f L : Addr} {names : List Str} : (fx fd f L names).mine = [L] := by
  unfold Fx.mine fx
  have : (names.map Loc.ns).filterMap Loc.addr? = [] := by
    induction names with
    | nil => rfl
    | cons a r ih => simp [List.filterMap_cons, Loc.addr?]
  simp only [this]
  rfl

theorem fx_ok {W : Wd} {f L : Addr} {o : Obj} {fd : FuncData} {body : List Stmt} {names : List Str} (X : Fs1 W f o fd body) (hL : W.G.get? L = none) (hnd : names.Nodup) (hk : ∀ x ∈ names, fd.scope.names.lookup x = some .local) : (fx fd f L names).Ok W where
  kind := X.kind
  glob := X.glob
  blt := X.blt
  new := by rw [fx_mine]; intro a ha; rcases List.mem_cons.mp ha with rfl | h; exact hL; cases h
  apart := fun i j x y b h => by simp [fx] at h
  offL := fun i x h => by simp [fx] at h
  names := fun i j x h1 h2 => by
    have e1 : names[i]? = some x := by simpa [fx] using h1
    have e2 : names[j]? = some x := by simpa [fx] using h2
    exact nodup_inj hnd e1 e2
  kindL := fun i x h => by
    have e1 : names[i]? = some x := by simpa [fx] using h
    have := hk x (List.mem_of_getElem? e1)
    exact this
  kindC := fun i x b h => by simp [fx] at h


theorem Rel_init {W : Wd} {fd : FuncData} {f : Addr} {names : List Str} {s : Shared} {h0 : Heap} {tk : Nat} {vs : List Value} {Fs : List (List Addr)} {avs : List AV} (top : ∀ b o, W.G.get? b = some o → s.heap.get? b = some o) (gens : AllBare s.gens)
    (hns : h0.Ns s.heap.objs.size (fun x => ((names.zip vs).reverse.lookup x))) (hk : ∀ b o, s.heap.get? b = some o → h0.get? b = some o) (reps : Reps W.C s.heap Fs vs avs) (hap : Fs.Pairwise (fun A B => ∀ a ∈ A, a ∉ B))
    (hoff : ∀ F ∈ Fs, ∀ a ∈ F, W.G.get? a = none) (hnd : names.Nodup) (hlen : avs.length ≤ names.length) :
    Rel W (fx fd f s.heap.objs.size names) (St0 avs names.length) { s with heap := h0, toks := tk } (fun i => vs[i]?.getD .none) (fun i => Fs[i]?.getD []) := by
  obtain ⟨l1, l2⟩ := reps.len
  have hF : ∀ (i : Nat), (∃ F, Fs[i]? = some F ∧ Fs[i]?.getD [] = F ∧ F ∈ Fs) ∨ Fs[i]?.getD [] = [] := fun i => by
    cases e : Fs[i]? with
    | none => exact .inr rfl
    | some F => exact .inl ⟨F, rfl, rfl, List.mem_of_getElem? e⟩
  refine ⟨fun b o e => hk b o (top b o e), ⟨_, hns, fun i x av h1 h2 => ?_⟩, fun i x b h => by simp [fx] at h, fun i av h => ?_, fun i h => ?_, fun i j hij a ha => ?_, fun i a ha => ?_, gens, ?_⟩
  · have e1 : names[i]? = some x := by simpa [fx] using h1
    have e2 := St0_at.mp h2
    obtain ⟨hl, _⟩ := List.getElem?_eq_some_iff.mp e2
    have e3 : vs[i]? = some (vs[i]'(by omega)) := List.getElem?_eq_getElem _
    rw [look_zip hnd e1 e3, e3]; rfl
  · exact (reps.keeps hk).at i av (St0_at.mp h)
  · show Fs[i]?.getD [] = []
    have : avs.length ≤ i := by
      by_cases hi : i < avs.length
      · exact absurd (St0_at.mpr (List.getElem?_eq_getElem hi)) (h _)
      · omega
    rw [List.getElem?_eq_none (by omega)]; rfl
  · rcases hF i with ⟨A, e1, e2, _⟩ | e
    · rcases hF j with ⟨B, e3, e4, _⟩ | e
      · have ha : a ∈ A := by rw [← e2]; exact ha
        show a ∉ Fs[j]?.getD []
        rw [e4]
        obtain ⟨p1, g1⟩ := List.getElem?_eq_some_iff.mp e1
        obtain ⟨p2, g2⟩ := List.getElem?_eq_some_iff.mp e3
        have pw := List.pairwise_iff_getElem.mp hap
        rcases Nat.lt_trichotomy i j with hlt | he | hlt
        · have := pw i j p1 p2 hlt; rw [g1, g2] at this; exact this a ha
        · exact absurd he hij
        · have := pw j i p2 p1 hlt; rw [g1, g2] at this; exact fun hb => this a hb ha
      · show a ∉ Fs[j]?.getD []
        rw [e]; intro h; cases h
    · have : a ∈ Fs[i]?.getD [] := ha
      rw [e] at this; cases this
  · rcases hF i with ⟨A, e1, e2, hm⟩ | e
    · have ha : a ∈ A := by rw [← e2]; exact ha
      refine ⟨?_, hoff A hm a ha⟩
      rw [fx_mine]
      intro h
      rcases List.mem_cons.mp h with rfl | h
      · have hi : i < avs.length := by
          obtain ⟨p1, _⟩ := List.getElem?_eq_some_iff.mp e1; omega
        obtain ⟨o, e⟩ := (reps.at i _ (List.getElem?_eq_getElem hi)).has _ (by rw [e2]; exact ha)
        exact absurd (Heap.lt_size e) (Nat.lt_irrefl _)
      · cases h
    · have : a ∈ Fs[i]?.getD [] := ha
      rw [e] at this; cases this
  · show (St0 avs names.length).length = (names.map Loc.ns).length
    unfold St0
    simp
    omega
end Mine

namespace Mine

/-- a function that keeps every object -/
def FnP (W : Wd) (k : Nat) (f : Addr) (kws : List (Str × Value)) (g : List AV → Option AV) : Prop :=
  ∀ (A : Around), AOk k A → ∀ (s : Shared) (vs : List Value) (Fs : List (List Addr)) (avs : List AV) (Q : Value → Shared → Prop) (E : Value → Shared → Prop) (r : AV),
    (∀ b o, W.G.get? b = some o → s.heap.get? b = some o) → AllBare s.gens → Reps W.C s.heap Fs vs avs → Fs.Pairwise (fun A B => ∀ a ∈ A, a ∉ B) → (∀ F ∈ Fs, ∀ a ∈ F, W.G.get? a = none) → g avs = some r →
    (∀ v s' F', Kp s s' → Rep W.C s'.heap F' v r → (∀ x ∈ F', s.heap.get? x = none) → Q v s') → wpAny (model W.prog W.w) A (call (.ref f) vs kws) Q E s

/-- a function that writes its first argument alone, and gives None -/
def FnW (W : Wd) (k : Nat) (f : Addr) (kws : List (Str × Value)) (g : List AV → Option AV) : Prop :=
  ∀ (A : Around), AOk k A → ∀ (s : Shared) (v0 : Value) (vs : List Value) (F0 : List Addr) (Fs : List (List Addr)) (avs : List AV) (Q : Value → Shared → Prop) (E : Value → Shared → Prop) (r : AV),
    (∀ b o, W.G.get? b = some o → s.heap.get? b = some o) → AllBare s.gens → Reps W.C s.heap (F0 :: Fs) (v0 :: vs) avs → (F0 :: Fs).Pairwise (fun A B => ∀ a ∈ A, a ∉ B) → (∀ F ∈ F0 :: Fs, ∀ a ∈ F, W.G.get? a = none) → g avs = some r →
    (∀ s' F', (∀ b o, s.heap.get? b = some o → b ∉ F0 → s'.heap.get? b = some o) → (∀ b o, s.heap.get? b = some o → ∃ o', s'.heap.get? b = some o') → OsG s' s → AllBare s'.gens → Rep W.C s'.heap F' v0 r → (∀ x ∈ F', x ∈ F0 ∨ s.heap.get? x = none) → Q .none s') →
    wpAny (model W.prog W.w) A (call (.ref f) (v0 :: vs) kws) Q E s

def AV.scal : AV → Bool
  | .none | .bool _ | .int _ | .str _ | .pat _ => true
  | _ => false
theorem Rep.scal {C : Addr} {h : Heap} {F : List Addr} {v : Value} {a : AV} (r : Rep C h F v a) (hs : a.scal = true) : F = [] := by cases r <;> first | rfl | cases hs

def outOf (Wr : List Nat) (r : Option (Fl × St)) : Option AV := match r with
  | some (.ret av, _) => some av
  | some (.rets j, σ) => if j ∈ Wr then (match σ[j]? with
    | some (some av) => some av
    | _ => none) else none
  | some (.next, _) => some .none
  | none => none

/-- the slots that a body may write are plain at the call -/
def plainAt (avs : List AV) (Wr : List Nat) : Bool := Wr.all fun i => match avs[i]? with
  | some av => av.scal
  | none => true

def runF (m : St → Option (Fl × St)) (Wr : List Nat) (n : Nat) (avs : List AV) : Option AV := if plainAt avs Wr && decide (avs.length ≤ n) then outOf Wr (m (St0 avs n)) else none

theorem FnP_of {W : Wd} {k : Nat} {f : Addr} {o : Obj} {fd : FuncData} {body : List Stmt} {names : List Str} {kws : List (Str × Value)} {Wr : List Nat} {m : St → Option (Fl × St)} {ex : List Value} {exa : List AV} (T : TopF W) (X : Fs1 W f o fd body)
    (hnd : names.Nodup) (hk : ∀ x ∈ names, fd.scope.names.lookup x = some .local) (hex : ∀ h, Reps W.C h (exa.map fun _ => []) ex exa) (n : Nat)
    (hbind : ∀ (s : Shared) (vs : List Value), (∀ b o, W.G.get? b = some o → s.heap.get? b = some o) → vs.length = n → BindsTo s fd ⟨vs, kws⟩ (names.zip (vs ++ ex)))
    (hb : ∀ L, W.G.get? L = none → SS W k (fx fd f L names) Wr body m) :
    FnP W (k + 1) f kws (fun avs => if avs.length = n then runF m Wr names.length (avs ++ exa) else none) := by
  intro A hA s vs Fs avs Q E r top gens reps hap hoff hg hQ
  dsimp only at hg
  split at hg
  case isFalse => cases hg
  rename_i hn
  unfold runF at hg
  split at hg
  case isFalse => cases hg
  rename_i hc
  rw [Bool.and_eq_true, decide_eq_true_eq] at hc
  obtain ⟨hc1, hc2⟩ := hc
  have hL : W.G.get? s.heap.objs.size = none := by
    cases e : W.G.get? s.heap.objs.size with
    | none => rfl
    | some o => exact absurd (Heap.lt_size (top _ _ e)) (Nat.lt_irrefl _)
  obtain ⟨l1, l2⟩ := reps.len
  have reps' := reps.append (hex s.heap)
  refine wpAny_call (codeAny_call_def (binds := names.zip (vs ++ ex)) hA.room (top _ _ X.ho) X.hdata (T.nolimit.keeps top) (X.hcd.keeps top) X.hbody (hbind s vs top (by omega)) X.cell (fun p hp => ?_) (fun h0 hns hk0 => ?_) X.co X.gen X.kind)
  · obtain ⟨a, b⟩ := p
    exact hk a (List.of_mem_zip hp).1
  have hap' : (Fs ++ exa.map fun _ => ([] : List Addr)).Pairwise (fun A B => ∀ a ∈ A, a ∉ B) := by
    rw [List.pairwise_append]
    refine ⟨hap, ?_, fun A _ B hB a _ hb => ?_⟩
    · refine List.pairwise_iff_getElem.mpr fun i j h1 h2 _ a ha => ?_
      rw [List.getElem_map] at ha; cases ha
    · obtain ⟨_, _, rfl⟩ := List.mem_map.mp hB; cases hb
  have hoff' : ∀ F ∈ (Fs ++ exa.map fun _ => ([] : List Addr)), ∀ a ∈ F, W.G.get? a = none := fun F hF a ha => by
    rcases List.mem_append.mp hF with h | h
    · exact hoff F h a ha
    · obtain ⟨_, _, rfl⟩ := List.mem_map.mp h; cases ha
  have R := Rel_init (W := W) (fd := fd) (f := f) (tk := s.toks + (names.zip (vs ++ ex)).length) top gens hns hk0 reps' hap' hoff' hnd hc2
  have hFW : ∀ i ∈ Wr, (Fs ++ exa.map fun _ => ([] : List Addr))[i]?.getD [] = [] := fun i hi => by
    have := List.all_eq_true.mp hc1 i hi
    cases e : (avs ++ exa)[i]? with
    | none =>
      have := reps'.len.2
      rw [List.getElem?_eq_none (by rw [List.getElem?_eq_none_iff] at e; omega)]; rfl
    | some av =>
      rw [e] at this
      exact (reps'.at i av e).scal this
  have hA' : AOk k (A.deeper (callEnv fd s.heap.objs.size f)) := ⟨hA.hh, by have := hA.dep; show A.depth + 1 + k < _; omega, by have := hA.un; show A.units + 3 + _ < _; omega⟩
  cases hm : m (St0 (avs ++ exa) names.length) with
  | none => rw [hm] at hg; cases hg
  | some q =>
    obtain ⟨fl, σ'⟩ := q
    rw [hm] at hg
    refine hb _ hL _ hA' _ _ _ _ _ _ fl σ' R hm fun f' s' V' F' Y => ?_
    have kp : Kp s s' := ⟨fun b o e => Y.heap b o (hk0 b o e) (by rw [fx_mine]; intro h; rcases List.mem_cons.mp h with rfl | h; exact absurd (Heap.lt_size e) (Nat.lt_irrefl _); cases h) (fun i hi hb => by rw [hFW i hi] at hb; cases hb), ⟨Y.os.os, Y.os.gk⟩, fun _ => Y.rel.gens⟩
    have hfr : ∀ a, h0.get? a = none → s.heap.get? a = none := fun a h => by
      cases e : s.heap.get? a with
      | none => rfl
      | some o => rw [hk0 a o e] at h; cases h
    have hf := Y.flow
    cases fl with
    | next =>
      have : f' = .next := hf
      subst this
      cases hg
      exact hQ _ s' [] kp .none fun x hx => nomatch hx
    | ret av =>
      obtain ⟨v, Fr, e1, e2, e3⟩ := hf
      subst e1
      cases hg
      exact hQ v s' Fr kp e2 fun x hx => hfr x (e3 x hx)
    | rets j =>
      obtain ⟨e1, av, e2⟩ := hf
      subst e1
      simp only [outOf, e2] at hg
      split at hg
      case isFalse => cases hg
      rename_i hj
      cases hg
      refine hQ _ s' (F' j) kp (Y.rel.rep j _ e2) fun x hx => ?_
      rcases Y.grow j hj x hx with ⟨j', hj', hx'⟩ | h
      · rw [hFW j' hj'] at hx'; cases hx'
      · exact hfr x h

def runW (m1 m2 : St → Option (Fl × St)) (Wr : List Nat) (n : Nat) (avs : List AV) : Option AV :=
  if plainAt avs Wr && decide (avs.length ≤ n) && decide (0 ∉ Wr) && decide (0 < avs.length) then match m1 (St0 avs n) with
    | some (.next, σ) => match m2 σ with
      | some (.next, σ') => match σ'[0]? with
        | some (some av) => some av
        | _ => none
      | _ => none
    | _ => none
  else none

/-- statements, of which the last writes the object of slot i in place -/
def SSP (W : Wd) (k : Nat) (c : Fx) (Wr : List Nat) (i : Nat) (sts : List Stmt) (m1 m2 : St → Option (Fl × St)) : Prop :=
  ∀ (A : Around), AOk k A → ∀ (σ : St) (s : Shared) (V : Nat → Value) (F : Nat → List Addr) (Q : Flow → Shared → Prop) (E : Value → Shared → Prop) (σ1 σ2 : St),
    Rel W c σ s V F → m1 σ = some (.next, σ1) → m2 σ1 = some (.next, σ2) →
    (∀ s1 V1 F1 s2 F2, After W c Wr σ s V F .next σ1 .next s1 V1 F1 → After W c [i] σ1 s1 V1 F1 .next σ2 .next s2 V1 F2 → Q .next s2) → wpAny (model W.prog W.w) A (execs sts c.env) Q E s
theorem SSP_last {W : Wd} {k : Nat} {c : Fx} {Wr : List Nat} {i : Nat} {st : Stmt} {m2 : St → Option (Fl × St)} (h : SP W k c i st m2) : SSP W k c Wr i [st] (fun σ => some (.next, σ)) m2 := by
  intro A hA σ s V F Q E σ1 σ2 R e1 e2 hQ
  cases e1
  exact wpAny_execs_cons (h A hA _ s V F _ E .next σ2 R e2 fun s' F' X => wpAny_execs_nil (hQ s V F s' F' (After.refl R) X))
theorem SSP_cons {W : Wd} {k : Nat} {c : Fx} {Wr : List Nat} {i : Nat} {st : Stmt} {rest : List Stmt} {ms m1 m2 : St → Option (Fl × St)} (h : S1 W k c Wr st ms) (hr : SSP W k c Wr i rest m1 m2) : SSP W k c Wr i (st :: rest) (andThen ms m1) m2 := by
  intro A hA σ s V F Q E σ1 σ2 R e1 e2 hQ
  unfold andThen at e1
  split at e1
  · rename_i σ0 e0
    refine wpAny_execs_cons (h A hA σ s V F _ E .next σ0 R e0 fun fl s1 V1 F1 X => ?_)
    have : fl = .next := X.flow
    subst this
    exact hr A hA σ0 s1 V1 F1 Q E σ1 σ2 X.rel e1 e2 fun s2 V2 F2 s3 F3 Y Z => hQ s2 V2 F2 s3 F3 (X.trans Y) Z
  · rename_i e0
    exact absurd e1 (e0 σ1)

theorem FnW_of {W : Wd} {k : Nat} {f : Addr} {o : Obj} {fd : FuncData} {body : List Stmt} {names : List Str} {kws : List (Str × Value)} {Wr : List Nat} {m1 m2 : St → Option (Fl × St)} {ex : List Value} {exa : List AV} (T : TopF W) (X : Fs1 W f o fd body)
    (hnd : names.Nodup) (hk : ∀ x ∈ names, fd.scope.names.lookup x = some .local) (hex : ∀ h, Reps W.C h (exa.map fun _ => []) ex exa) (n : Nat)
    (hbind : ∀ (s : Shared) (vs : List Value), (∀ b o, W.G.get? b = some o → s.heap.get? b = some o) → vs.length = n → BindsTo s fd ⟨vs, kws⟩ (names.zip (vs ++ ex)))
    (hb : ∀ L, W.G.get? L = none → SSP W k (fx fd f L names) Wr 0 body m1 m2) :
    FnW W (k + 1) f kws (fun avs => if avs.length = n then runW m1 m2 Wr names.length (avs ++ exa) else none) := by
  intro A hA s v0 vs F0 Fs avs Q E r top gens reps hap hoff hg hQ
  dsimp only at hg
  split at hg
  case isFalse => cases hg
  rename_i hn
  unfold runW at hg
  split at hg
  case isFalse => cases hg
  rename_i hc
  rw [Bool.and_eq_true, Bool.and_eq_true, Bool.and_eq_true, decide_eq_true_eq, decide_eq_true_eq, decide_eq_true_eq] at hc
  obtain ⟨⟨⟨hc1, hc2⟩, hc3⟩, hc4⟩ := hc
  have hL : W.G.get? s.heap.objs.size = none := by
    cases e : W.G.get? s.heap.objs.size with
    | none => rfl
    | some o => exact absurd (Heap.lt_size (top _ _ e)) (Nat.lt_irrefl _)
  obtain ⟨l1, l2⟩ := reps.len
  have reps' := reps.append (hex s.heap)
  refine wpAny_call (codeAny_call_def (binds := names.zip ((v0 :: vs) ++ ex)) hA.room (top _ _ X.ho) X.hdata (T.nolimit.keeps top) (X.hcd.keeps top) X.hbody (hbind s (v0 :: vs) top (by omega)) X.cell (fun p hp => ?_) (fun h0 hns hk0 => ?_) X.co X.gen X.kind)
  · obtain ⟨a, b⟩ := p
    exact hk a (List.of_mem_zip hp).1
  have hap' : ((F0 :: Fs) ++ exa.map fun _ => ([] : List Addr)).Pairwise (fun A B => ∀ a ∈ A, a ∉ B) := by
    rw [List.pairwise_append]
    refine ⟨hap, ?_, fun A _ B hB a _ hb => ?_⟩
    · refine List.pairwise_iff_getElem.mpr fun i j h1 h2 _ a ha => ?_
      rw [List.getElem_map] at ha; cases ha
    · obtain ⟨_, _, rfl⟩ := List.mem_map.mp hB; cases hb
  have hoff' : ∀ F ∈ ((F0 :: Fs) ++ exa.map fun _ => ([] : List Addr)), ∀ a ∈ F, W.G.get? a = none := fun F hF a ha => by
    rcases List.mem_append.mp hF with h | h
    · exact hoff F h a ha
    · obtain ⟨_, _, rfl⟩ := List.mem_map.mp h; cases ha
  have R := Rel_init (W := W) (fd := fd) (f := f) (tk := s.toks + (names.zip ((v0 :: vs) ++ ex)).length) top gens hns hk0 reps' hap' hoff' hnd hc2
  have hFW : ∀ i ∈ Wr, ((F0 :: Fs) ++ exa.map fun _ => ([] : List Addr))[i]?.getD [] = [] := fun i hi => by
    have := List.all_eq_true.mp hc1 i hi
    cases e : (avs ++ exa)[i]? with
    | none =>
      have := reps'.len.2
      rw [List.getElem?_eq_none (by rw [List.getElem?_eq_none_iff] at e; omega)]; rfl
    | some av =>
      rw [e] at this
      exact (reps'.at i av e).scal this
  have hA' : AOk k (A.deeper (callEnv fd s.heap.objs.size f)) := ⟨hA.hh, by have := hA.dep; show A.depth + 1 + k < _; omega, by have := hA.un; show A.units + 3 + _ < _; omega⟩
  have hfr : ∀ a, h0.get? a = none → s.heap.get? a = none := fun a h => by
    cases e : s.heap.get? a with
    | none => rfl
    | some o => rw [hk0 a o e] at h; cases h
  cases hm : m1 (St0 (avs ++ exa) names.length) with
  | none => rw [hm] at hg; cases hg
  | some q =>
    obtain ⟨fl, σ'⟩ := q
    rw [hm] at hg
    cases fl with
    | ret av => cases hg
    | rets j => cases hg
    | next =>
      dsimp only at hg
      cases hm2 : m2 σ' with
      | none => rw [hm2] at hg; cases hg
      | some q =>
        obtain ⟨fl2, σ2⟩ := q
        rw [hm2] at hg
        cases fl2 with
        | ret av => cases hg
        | rets j => cases hg
        | next =>
          dsimp only at hg
          refine hb _ hL _ hA' _ _ _ _ _ _ σ' σ2 R hm hm2 fun s1 V1 F1 s2 F2 Y Z => ?_
          obtain ⟨y1, y2, _⟩ := Y.same 0 hc3
          have h0F : ((F0 :: Fs) ++ exa.map fun _ => ([] : List Addr))[0]?.getD [] = F0 := rfl
          have hv0 : (((v0 :: vs) ++ ex)[0]?).getD .none = v0 := rfl
          cases hr0 : σ2[0]? with
          | none => rw [hr0] at hg; cases hg
          | some q0 =>
            cases q0 with
            | none => rw [hr0] at hg; cases hg
            | some av =>
              rw [hr0] at hg
              cases hg
              have hmine : ∀ b o, s.heap.get? b = some o → b ∉ (fx fd f s.heap.objs.size names).mine := fun b o e h => by
                rw [fx_mine] at h
                rcases List.mem_cons.mp h with rfl | h
                · exact absurd (Heap.lt_size e) (Nat.lt_irrefl _)
                · cases h
              have hs1 : ∀ b o, s.heap.get? b = some o → s1.heap.get? b = some o := fun b o e => Y.heap b o (hk0 b o e) (hmine b o e) fun i hi hb => by rw [hFW i hi] at hb; cases hb
              refine hQ s2 (F2 0) (fun b o e hb => ?_) (fun b o e => Z.old b o (hs1 b o e)) (Z.os.trans ⟨Y.os.os, Y.os.gk⟩) Z.rel.gens ?_ fun x hx => ?_
              · refine Z.heap b o (hs1 b o e) (hmine b o e) fun i hi hbi => ?_
                rcases List.mem_cons.mp hi with rfl | h
                · rw [y2] at hbi; exact hb hbi
                · cases h
              · have := Z.rel.rep 0 _ hr0
                rw [y1] at this
                exact this
              · rcases Z.grow 0 (.head _) x hx with ⟨j, hj, hx'⟩ | h
                · rcases List.mem_cons.mp hj with rfl | h
                  · rw [y2] at hx'; exact .inl hx'
                  · cases h
                · exact .inr (hfr x (Y.none_of h))
end Mine

namespace Mine
section
variable {W : Wd} {k : Nat} {c : Fx}

theorem wp_fn (T : TopF W) (O : c.Ok W) {x : Str} {pos : Pos} {v : Value} {A : Around} {σ : St} {s : Shared} {V : Nat → Value} {F : Nat → List Addr} {Q : Value → Shared → Prop} {E : Value → Shared → Prop} (R : Rel W c σ s V F)
    (hg : W.mg x = some v) (hx : c.env.kindOf x = some .globalImplicit) (hQ : Q v s) (hd : (x == ("__debug__" : Str)) = false := by decide) :
    wpAny (model W.prog W.w) A (eval (.Name x pos) c.env) Q E s := by
  refine Calls.Name_function_global O.kind hx ?_ hd
  refine Calls.loadGlobal_global (mg := W.mg) ?_ hg hQ
  rw [O.glob]; exact T.g.keeps R.top

/-- scalar arguments -/
inductive ASs (W : Wd) (k : Nat) (c : Fx) : List Expr → List (St → Option AV) → Prop
  | nil : ASs W k c [] []
  | cons {α : Type} {inj : α → AV} {b e es} {m : St → Option α} {ms} : SE W k c b inj e m → (∀ a, (inj a).scal = true) → (∀ rest, starEach (e :: rest) c.env = (false, eval e c.env) :: starEach rest c.env) → ASs W k c es ms → ASs W k c (e :: es) ((fun σ => (m σ).map inj) :: ms)

theorem as_vals {pos : Pos} {A : Around} (hA : AOk k A) {σ : St} {V : Nat → Value} {F : Nat → List Addr} {E : Value → Shared → Prop} :
    ∀ {es : List Expr} {ms : List (St → Option AV)}, ASs W k c es ms → ∀ {s : Shared} {Q : List Value → Shared → Prop} {as : List AV}, Rel W c σ s V F → mAll ms σ = some as →
      (∀ vs s', Kp s s' → Reps W.C s'.heap (as.map fun _ => []) vs as → Q vs s') → wpAny (model W.prog W.w) A (spliced (backTo pos (starEach es c.env))) Q E s := by
  intro es ms h
  induction h with
  | nil => intro s Q as R hm hQ; cases hm; exact args_nil (hQ _ _ (Kp.refl s) .nil)
  | @cons α inj b e es m ms h1 hsc hs h2 ih =>
    intro s Q as R hm hQ
    unfold mAll at hm
    cases e1 : m σ with
    | none => simp only [e1, Option.map_none] at hm; cases hm
    | some a =>
      simp only [e1, Option.map_some] at hm
      split at hm
      · rename_i r e2
        cases hm
        refine args_cons (he := hs _) (h1 A hA σ s V F _ E a R e1 fun v s' F' k1 r1 _ => ih (R.kp k1) e2 fun vs s'' k2 hv => hQ _ _ (k1.trans k2) (.cons ?_ hv))
        have := r1.scal (hsc a)
        subst this
        exact r1.keeps k2.heap
      · cases hm

theorem nils_pair {as : List AV} : (as.map fun _ => ([] : List Addr)).Pairwise (fun A B => ∀ a ∈ A, a ∉ B) :=
  List.pairwise_iff_getElem.mpr fun i j h1 h2 _ a ha => by rw [List.getElem_map] at ha; cases ha
theorem nils_mem {as : List AV} {p : Addr → Prop} : ∀ F ∈ (as.map fun _ => ([] : List Addr)), ∀ a ∈ F, p a := fun F h a ha => by
  obtain ⟨_, _, rfl⟩ := List.mem_map.mp h; cases ha

/-- what a call gives, its arguments by their slots' kinds -/
def callM {γ : Type} (T : Ty γ) (g : List AV → Option AV) (mas : St → Option (List AV)) (σ : St) : Option γ := match mas σ with
  | some as => match g as with
    | some r => T.prj r
    | none => none
  | none => none
theorem callM_some {γ : Type} {T : Ty γ} {g : List AV → Option AV} {mas : St → Option (List AV)} {σ : St} {a : γ} (h : callM T g mas σ = some a) : ∃ as, mas σ = some as ∧ g as = some (T.inj a) := by
  unfold callM at h
  split at h
  · rename_i as e
    split at h
    · rename_i r e2
      exact ⟨as, e, by rw [e2, T.ok _ _ h]⟩
    · cases h
  · cases h

theorem SE_callS {γ : Type} {Tγ : Ty γ} {x : Str} {f : Addr} {o : Obj} {fd : FuncData} {e : Expr} {es : List Expr} {ms : List (St → Option AV)} {g : List AV → Option AV} {p pos : Pos} (T : TopF W) (O : c.Ok W) (hg : W.mg x = some (.ref f)) (hx : c.env.kindOf x = some .globalImplicit)
    (ho : W.G.get? f = some o) (hdat : o.data = .func fd) (hf : FnP W k f [] g) (h : ASs W k c (e :: es) ms) (hd : (x == ("__debug__" : Str)) = false := by decide)
    (he : eval (.Call (.Name x p) (e :: es) [] pos) c.env = (do callWith pos (← eval (.Name x p) c.env) [] (backTo pos (starEach (e :: es) c.env)) (backToKw pos (keywordEach [] c.env))) := by rfl)
    (hs : ∀ rest, starEach (e :: rest) c.env = (false, eval e c.env) :: starEach rest c.env := by intro _; rfl) :
    SE W k c true Tγ.inj (.Call (.Name x p) (e :: es) [] pos) (callM Tγ g (mAll ms)) := by
  intro A hA σ s V F Q E a R hm hQ
  obtain ⟨as, e1, e2⟩ := callM_some hm
  refine Call_ (he := he) (wp_fn T O R hg hx (hd := hd) ?_)
  refine callWith_def (he := hs _) hdat (as_vals hA h R e1 fun vs s1 k1 reps => ⟨(R.kp k1).top _ _ ho, ?_⟩)
  exact hf A hA s1 vs _ as Q E _ (R.kp k1).top (R.kp k1).gens reps nils_pair nils_mem e2 fun v s' F' k2 r hfr => hQ v s' F' (k1.trans k2) r fun _ y hy => fresh_of k1 (hfr y hy)

/-- the first argument is a slot -/
def slotArg (i : Nat) (ms : List (St → Option AV)) (σ : St) : Option (List AV) := match look tAny i σ with
  | some av => match mAll ms σ with
    | some as => some (av :: as)
    | none => none
  | none => none
theorem slotArg_some {i : Nat} {ms : List (St → Option AV)} {σ : St} {l : List AV} (h : slotArg i ms σ = some l) : ∃ av as, look tAny i σ = some av ∧ mAll ms σ = some as ∧ l = av :: as := by
  unfold slotArg at h
  split at h
  · rename_i av e
    split at h
    · rename_i as e2; cases h; exact ⟨av, as, e, e2, rfl⟩
    · cases h
  · cases h

theorem slot_vals {i : Nat} {y : Str} {q : Pos} {l : Loc} (O : c.Ok W) (hl : c.loc[i]? = some l) (hy : l.name = y) {pos : Pos} {A : Around} (hA : AOk k A) {σ : St} {V : Nat → Value} {F : Nat → List Addr} {E : Value → Shared → Prop} {es : List Expr} {ms : List (St → Option AV)} (h : ASs W k c es ms)
    {s : Shared} {Q : List Value → Shared → Prop} {as : List AV} {av : AV} (R : Rel W c σ s V F) (hi : σ[i]? = some (some av)) (hm : mAll ms σ = some as)
    (hQ : ∀ vs s', Kp s s' → Reps W.C s'.heap (F i :: as.map fun _ => []) (V i :: vs) (av :: as) → (F i :: as.map fun _ => ([] : List Addr)).Pairwise (fun A B => ∀ a ∈ A, a ∉ B) → (∀ F' ∈ F i :: as.map fun _ => ([] : List Addr), ∀ a ∈ F', W.G.get? a = none) → Q (V i :: vs) s')
    (hd : (y == ("__debug__" : Str)) = false) (hcd : (y == ("__classdict__" : Str)) = false)
    (hs : starEach (.Name y q :: es) c.env = (false, eval (.Name y q) c.env) :: starEach es c.env) :
    wpAny (model W.prog W.w) A (spliced (backTo pos (starEach (.Name y q :: es) c.env))) Q E s := by
  refine args_cons (he := hs) (wpAny_mono (load_slot O hl hy R hi hd hcd) (fun v s' hv => ?_) fun _ _ x => x)
  obtain ⟨rfl, rfl⟩ := hv
  refine as_vals hA h R hm fun vs s1 k1 reps => hQ vs s1 k1 (.cons ((R.rep i av hi).keeps k1.heap) reps) ?_ ?_
  · rw [List.pairwise_cons]
    refine ⟨fun B hB a _ hb => ?_, nils_pair⟩
    obtain ⟨_, _, rfl⟩ := List.mem_map.mp hB; cases hb
  · intro F' hF a ha
    rcases List.mem_cons.mp hF with rfl | hF
    · exact (R.off i a ha).2
    · exact nils_mem (p := fun a => W.G.get? a = none) F' hF a ha

theorem SE_callL {γ : Type} {Tγ : Ty γ} {x y : Str} {f : Addr} {o : Obj} {fd : FuncData} {es : List Expr} {ms : List (St → Option AV)} {g : List AV → Option AV} {p q pos : Pos} (T : TopF W) (O : c.Ok W) (hg : W.mg x = some (.ref f)) (hx : c.env.kindOf x = some .globalImplicit)
    (ho : W.G.get? f = some o) (hdat : o.data = .func fd) (hf : FnP W k f [] g) (i : Nat) {l : Loc} (hl : c.loc[i]? = some l) (hy : l.name = y) (h : ASs W k c es ms) (hd : (x == ("__debug__" : Str)) = false := by decide)
    (hdy : (y == ("__debug__" : Str)) = false := by decide) (hcd : (y == ("__classdict__" : Str)) = false := by decide)
    (he : eval (.Call (.Name x p) (.Name y q :: es) [] pos) c.env = (do callWith pos (← eval (.Name x p) c.env) [] (backTo pos (starEach (.Name y q :: es) c.env)) (backToKw pos (keywordEach [] c.env))) := by rfl)
    (hs : ∀ rest, starEach (.Name y q :: rest) c.env = (false, eval (.Name y q) c.env) :: starEach rest c.env := by intro _; rfl) :
    SE W k c true Tγ.inj (.Call (.Name x p) (.Name y q :: es) [] pos) (callM Tγ g (slotArg i ms)) := by
  intro A hA σ s V F Q E a R hm hQ
  obtain ⟨l0, e1, e2⟩ := callM_some hm
  obtain ⟨av, as, e3, e4, rfl⟩ := slotArg_some e1
  refine Call_ (he := he) (wp_fn T O R hg hx (hd := hd) ?_)
  refine callWith_def (he := hs _) hdat (slot_vals O hl hy hA h R (look_some e3) e4 (fun vs s1 k1 reps pw off => ⟨(R.kp k1).top _ _ ho, ?_⟩) hdy hcd (hs _))
  exact hf A hA s1 _ _ _ Q E _ (R.kp k1).top (R.kp k1).gens reps pw off e2 fun v s' F' k2 r hfr => hQ v s' F' (k1.trans k2) r fun _ y hy => fresh_of k1 (hfr y hy)

def callWF (i : Nat) (g : List AV → Option AV) (ms : List (St → Option AV)) (σ : St) : Option (Fl × St) := match slotArg i ms σ with
  | some as => match g as with
    | some r => some (.next, σ.set i (some r))
    | none => none
  | none => none

/-- the object of slot i, written by a call -/
theorem After.put {i : Nat} {σ : St} {s s1 s2 : Shared} {V : Nat → Value} {F : Nat → List Addr} {F' : List Addr} {av r : AV} (R : Rel W c σ s V F) (hi : σ[i]? = some (some av)) (k1 : Kp s s1)
    (hk : ∀ b o, s1.heap.get? b = some o → b ∉ F i → s2.heap.get? b = some o) (hold : ∀ b o, s1.heap.get? b = some o → ∃ o', s2.heap.get? b = some o') (hos : OsG s2 s1) (hg : AllBare s2.gens)
    (hr : Rep W.C s2.heap F' (V i) r) (hF : ∀ x ∈ F', x ∈ F i ∨ s1.heap.get? x = none) : After W c [i] σ s V F .next (σ.set i (some r)) .next s2 V (upd F i F') := by
  have R1 := R.kp k1
  have hlen : i < σ.length := (List.getElem?_eq_some_iff.mp hi).1
  have key : ∀ (j : Nat) aw, (σ.set i (some r))[j]? = some (some aw) → (j = i ∧ aw = r) ∨ (j ≠ i ∧ σ[j]? = some (some aw)) := fun j aw h => by
    by_cases hij : j = i
    · subst hij
      rw [List.getElem?_set_self hlen] at h
      simp at h
      exact .inl ⟨rfl, h.symm⟩
    · exact .inr ⟨hij, by rwa [List.getElem?_set_ne (Ne.symm hij)] at h⟩
  have hoff : ∀ a ∈ F', a ∉ c.mine ∧ W.G.get? a = none ∧ ∀ j, j ≠ i → a ∉ F j := fun a ha => by
    rcases hF a ha with h | h
    · exact ⟨(R.off i a h).1, (R.off i a h).2, fun j hj => R.apart i j (Ne.symm hj) a h⟩
    · exact ⟨(R1.fresh h).1, (R1.fresh h).2.1, fun j _ => (R1.fresh h).2.2 j⟩
  refine ⟨⟨fun b o e => hk b o (R1.top b o e) (fun h => ?_), ?_, fun j x b e => ?_, fun j aw e => ?_, fun j h => ?_, fun j j' hjj a ha => ?_, fun j a ha => ?_, hg, by rw [List.length_set, R.len]⟩, fun j hj => ?_, fun b o e hm hFF => hk b o (k1.heap b o e) (hFF i (.head _)), fun j hj a ha => ?_, fun b o e => hold b o (k1.heap b o e), hos.trans k1.os, rfl⟩
  · rw [(R.off i b h).2] at e; cases e
  · obtain ⟨m, hn, hm⟩ := R1.ns
    refine ⟨m, hn.at' fun o e => hk _ o e (fun h => (R.off i _ h).1 (.head _)), fun j x aw hx e => ?_⟩
    rcases key j aw e with ⟨h1, h2⟩ | ⟨_, e'⟩
    · subst h1; exact hm j x _ hx hi
    · exact hm j x _ hx e'
  · obtain ⟨o, hc, ho⟩ := R1.cell j x b e
    have hb : b ∉ F i := fun h => (R.off i b h).1 (.tail _ (List.mem_filterMap.mpr ⟨_, List.mem_of_getElem? e, rfl⟩))
    refine ⟨o, (let ⟨ob, e1, e2⟩ := hc; ⟨ob, hk _ ob e1 hb, e2⟩), fun aw e' => ?_⟩
    rcases key j aw e' with ⟨h1, h2⟩ | ⟨_, e2⟩
    · subst h1; exact ho _ hi
    · exact ho _ e2
  · rcases key j aw e with ⟨h1, h2⟩ | ⟨h1, e2⟩
    · subst h1; subst h2; rw [upd_same]; exact hr
    · rw [upd_ne _ _ h1]
      exact (R1.rep j aw e2).keep fun b hb o e => hk b o e fun h => R.apart j i h1 b hb h
  · by_cases hij : j = i
    · subst hij; exact absurd (by rw [List.getElem?_set_self hlen]) (h r)
    · rw [upd_ne _ _ hij]; exact R.nil j fun aw e => h aw (by rw [List.getElem?_set_ne (Ne.symm hij)]; exact e)
  · by_cases hij : j = i
    · subst hij; rw [upd_same] at ha; rw [upd_ne _ _ (Ne.symm hjj)]; exact (hoff a ha).2.2 j' (Ne.symm hjj)
    · rw [upd_ne _ _ hij] at ha
      by_cases hij' : j' = i
      · subst hij'; rw [upd_same]; exact fun h => (hoff a h).2.2 j hij ha
      · rw [upd_ne _ _ hij']; exact R.apart j j' hjj a ha
  · by_cases hij : j = i
    · subst hij; rw [upd_same] at ha; exact ⟨(hoff a ha).1, (hoff a ha).2.1⟩
    · rw [upd_ne _ _ hij] at ha; exact R.off j a ha
  · have : j ≠ i := fun h => hj (by rw [h]; exact .head _)
    exact ⟨rfl, upd_ne _ _ this, List.getElem?_set_ne (Ne.symm this)⟩
  · rcases List.mem_cons.mp hj with rfl | h
    · rw [upd_same] at ha
      rcases hF a ha with h | h
      · exact .inl ⟨j, .head _, h⟩
      · refine .inr ?_
        cases e : s.heap.get? a with
        | none => rfl
        | some o => rw [k1.heap a o e] at h; cases h
    · cases h

theorem SP_callW {x y : Str} {f : Addr} {o : Obj} {fd : FuncData} {es : List Expr} {ms : List (St → Option AV)} {g : List AV → Option AV} {p q pos pos2 : Pos} (T : TopF W) (O : c.Ok W) (hg : W.mg x = some (.ref f)) (hx : c.env.kindOf x = some .globalImplicit)
    (ho : W.G.get? f = some o) (hdat : o.data = .func fd) (hf : FnW W k f [] g) (i : Nat) {l : Loc} (hl : c.loc[i]? = some l) (hy : l.name = y) (h : ASs W k c es ms) (hint : interactive c.env = false) (hd : (x == ("__debug__" : Str)) = false := by decide)
    (hdy : (y == ("__debug__" : Str)) = false := by decide) (hcd : (y == ("__classdict__" : Str)) = false := by decide)
    (hsw : swapsWith (.Call (.Name x p) (.Name y q :: es) [] pos2) none pos.line c.env = pure false := by rfl)
    (he : eval (.Call (.Name x p) (.Name y q :: es) [] pos2) c.env = (do callWith pos2 (← eval (.Name x p) c.env) [] (backTo pos2 (starEach (.Name y q :: es) c.env)) (backToKw pos2 (keywordEach [] c.env))) := by rfl)
    (hs : ∀ rest, starEach (.Name y q :: rest) c.env = (false, eval (.Name y q) c.env) :: starEach rest c.env := by intro _; rfl) :
    SP W k c i (.Expr (.Call (.Name x p) (.Name y q :: es) [] pos2) pos) (callWF i g ms) := by
  intro A hA σ s V F Q E fl σ' R hm hQ
  unfold callWF at hm
  split at hm
  case h_2 => cases hm
  rename_i l0 e1
  split at hm
  case h_2 => cases hm
  rename_i r e2
  cases hm
  obtain ⟨av, as, e3, e4, rfl⟩ := slotArg_some e1
  refine wpAny_Expr ?_ hint hsw
  refine Call_ (he := he) (wp_fn T O R hg hx (hd := hd) ?_)
  refine callWith_def (he := hs _) hdat (slot_vals O hl hy hA h R (look_some e3) e4 (fun vs s1 k1 reps pw off => ⟨(R.kp k1).top _ _ ho, ?_⟩) hdy hcd (hs _))
  exact hf A hA s1 _ _ _ _ _ _ E _ (R.kp k1).top (R.kp k1).gens reps pw off e2 fun s' F' h1 h2 h3 h4 h5 h6 => hQ s' _ (After.put R (look_some e3) k1 h1 h2 h3 h4 h5 h6)
end
end Mine

namespace Mine

def stAt (n : Nat) : Stmt := match PySem.Challenge.pw_re0159_01.main.body.drop n with
  | st :: _ => st
  | [] => .Pass ⟨0, 0, 0, 0⟩
def bodyOf : Stmt → List Stmt
  | .FunctionDef _ _ b _ _ _ _ _ _ _ => b
  | .ClassDef _ _ _ b _ _ _ _ _ _ _ => b
  | _ => []
def nameOf : Stmt → Str
  | .FunctionDef n _ _ _ _ _ _ _ _ _ => n
  | _ => "?"
def paramsOf : Stmt → Arguments
  | .FunctionDef _ a _ _ _ _ _ _ _ _ => a
  | _ => default
def scopeOf : Stmt → Scope
  | .FunctionDef _ _ _ _ _ _ sc _ _ _ => sc
  | _ => default
/-- the function that a def makes -/
def mkfd (st : Stmt) (q : Str) (dv kv doc pm : Value) (an : Option Addr) (cd ct : Value) : FuncData :=
  { name := nameOf st, qualname := q, params := paramsOf st, body := .stmts (bodyOf st), scope := scopeOf st, globals := mainGlobals, closure := [], defaults := dv, kwdefaults := kv,
    doc := doc, pyModule := pm, annotations := an, code := cd, closureTuple := ct, builtins := builtinsNs }

section
variable {W : Wd} {k : Nat} {c : Fx}
def tNone : Ty Unit := ⟨fun _ => .none, fun | .none => some () | _ => none, fun av a h => by cases av <;> simp at h; rfl⟩
theorem SS_never {Wr : List Nat} {sts : List Stmt} : SS W k c Wr sts (fun _ => none) := fun _ _ _ _ _ _ _ _ _ _ _ h => nomatch h
theorem nf (O : c.Ok W) (i : Nat) {x : Str} (h : c.loc[i]? = some (.ns x)) : c.env.kindOf x ≠ some .free := by rw [O.kindL i x h]; intro h; cases h
end

def FnAt (W : Wd) (x : Str) (f : Addr) : Prop := W.mg x = some (.ref f) ∧ ∃ o fd, W.G.get? f = some o ∧ o.data = .func fd
/-- the builtins' names are free -/
structure Nm (W : Wd) : Prop where
  len : W.mg "len" = none
  range : W.mg "range" = none
  sum : W.mg "sum" = none
  max : W.mg "max" = none
  enumerate : W.mg "enumerate" = none
  type : W.mg "type" = none

section
variable {W : Wd} {k : Nat} {c : Fx}
theorem CS {γ : Type} (Tγ : Ty γ) {x : Str} {f : Addr} {e : Expr} {es : List Expr} {ms : List (St → Option AV)} {g : List AV → Option AV} {p pos : Pos} (T : TopF W) (O : c.Ok W) (a : FnAt W x f) (hx : c.env.kindOf x = some .globalImplicit)
    (hf : FnP W k f [] g) (h : ASs W k c (e :: es) ms) (hd : (x == ("__debug__" : Str)) = false := by decide)
    (he : eval (.Call (.Name x p) (e :: es) [] pos) c.env = (do callWith pos (← eval (.Name x p) c.env) [] (backTo pos (starEach (e :: es) c.env)) (backToKw pos (keywordEach [] c.env))) := by rfl)
    (hs : ∀ rest, starEach (e :: rest) c.env = (false, eval e c.env) :: starEach rest c.env := by intro _; rfl) :
    SE W k c true Tγ.inj (.Call (.Name x p) (e :: es) [] pos) (callM Tγ g (mAll ms)) := by
  obtain ⟨hg, o, fd, ho, hdat⟩ := a
  exact SE_callS T O hg hx ho hdat hf h hd he hs
theorem CL {γ : Type} (Tγ : Ty γ) {x y : Str} {f : Addr} {es : List Expr} {ms : List (St → Option AV)} {g : List AV → Option AV} {p q pos : Pos} (T : TopF W) (O : c.Ok W) (a : FnAt W x f) (hx : c.env.kindOf x = some .globalImplicit)
    (hf : FnP W k f [] g) (i : Nat) {l : Loc} (hl : c.loc[i]? = some l) (hy : l.name = y) (h : ASs W k c es ms) (hd : (x == ("__debug__" : Str)) = false := by decide)
    (hdy : (y == ("__debug__" : Str)) = false := by decide) (hcd : (y == ("__classdict__" : Str)) = false := by decide)
    (he : eval (.Call (.Name x p) (.Name y q :: es) [] pos) c.env = (do callWith pos (← eval (.Name x p) c.env) [] (backTo pos (starEach (.Name y q :: es) c.env)) (backToKw pos (keywordEach [] c.env))) := by rfl)
    (hs : ∀ rest, starEach (.Name y q :: rest) c.env = (false, eval (.Name y q) c.env) :: starEach rest c.env := by intro _; rfl) :
    SE W k c true Tγ.inj (.Call (.Name x p) (.Name y q :: es) [] pos) (callM Tγ g (slotArg i ms)) := by
  obtain ⟨hg, o, fd, ho, hdat⟩ := a
  exact SE_callL T O hg hx ho hdat hf i hl hy h hd hdy hcd he hs
theorem CW {x y : Str} {f : Addr} {es : List Expr} {ms : List (St → Option AV)} {g : List AV → Option AV} {p q pos pos2 : Pos} (T : TopF W) (O : c.Ok W) (a : FnAt W x f) (hx : c.env.kindOf x = some .globalImplicit)
    (hf : FnW W k f [] g) (i : Nat) {l : Loc} (hl : c.loc[i]? = some l) (hy : l.name = y) (h : ASs W k c es ms) (hint : interactive c.env = false := by rfl) (hd : (x == ("__debug__" : Str)) = false := by decide)
    (hdy : (y == ("__debug__" : Str)) = false := by decide) (hcd : (y == ("__classdict__" : Str)) = false := by decide)
    (hsw : swapsWith (.Call (.Name x p) (.Name y q :: es) [] pos2) none pos.line c.env = pure false := by rfl)
    (he : eval (.Call (.Name x p) (.Name y q :: es) [] pos2) c.env = (do callWith pos2 (← eval (.Name x p) c.env) [] (backTo pos2 (starEach (.Name y q :: es) c.env)) (backToKw pos2 (keywordEach [] c.env))) := by rfl)
    (hs : ∀ rest, starEach (.Name y q :: rest) c.env = (false, eval (.Name y q) c.env) :: starEach rest c.env := by intro _; rfl) :
    SP W k c i (.Expr (.Call (.Name x p) (.Name y q :: es) [] pos2) pos) (callWF i g ms) := by
  obtain ⟨hg, o, fd, ho, hdat⟩ := a
  exact SP_callW T O hg hx ho hdat hf i hl hy h hint hd hdy hcd hsw he hs
end
end Mine

namespace Mine
section
variable {W : Wd} {k : Nat} {c : Fx}

def mulLF (a : List Int) (n : Int) : Option (List Int) := if 0 ≤ n ∧ n ≤ 1000 ∧ a.length = 1 then some (List.replicate n.toNat a).flatten else none
theorem op_mulL : OpIs W k AV.il AV.int AV.il (binaryOp .Mult) mulLF := by
  intro A hA s v1 v2 F1 F2 Q E a b g _ r1 r2 e hQ
  unfold mulLF at e
  split at e
  case isFalse => cases e
  rename_i hb
  obtain ⟨h0, h1, h2⟩ := hb
  cases e
  cases r1 with | @il l vs _ l1 i1 =>
  cases r2 with | int _ u =>
  obtain ⟨n, ho⟩ := l1
  have hl : vs.length = 1 := i1.length.trans h2
  have hsz' : vs.toArray.size * b.toNat ≤ 2 ^ 24 := by simp [hl]; omega
  refine wpAny_binaryOp_repeat_ref (T := "list") (U := "int") (by decide) ⟨_, ho, rfl⟩ (fun s' => typeIs_int s' b u) noFill_list_mul PySem.F.fills_int_mul PySem.F.slot_int_rmul repeat_list PySem.F.slot_int_index.lookup
    (call_meets PySem.F.slot_int_rmul (typeIs_int s b u) PySem.F.entry_int_rmul (PySem.F.args_int_rmul_2 _ _) (lm_int_rmul_list_any b u l vs.toArray n none #[])
      ⟨ho, rfl, ⟨_, ho, rfl⟩, call_meets PySem.F.slot_list_mul ⟨_, ho, rfl⟩ PySem.F.entry_list_mul (PySem.F.args_list_mul_2 _ _)
        (lm_list_mul_any l vs.toArray n none #[] b u (by simp [Builtin.List.listFitsIndex]; omega) (by omega) (by simp [Builtin.List.listTooLong, sizeLine]; omega))
        ⟨ho, ?_⟩⟩)
  rw [listMul_foldl_if]
  refine hQ _ _ [s.heap.objs.size] (Kp.of (s := s) (t := s.toks) fun b o e => Heap.get?_push_of_some _ e) (.il ⟨_, Heap.get?_push_size _ rfl⟩ (KM.ints_rep i1 _)) fun x hx => ?_
  rcases List.mem_cons.mp hx with rfl | hx
  · exact freshSize (Nat.le_refl _)
  · cases hx

theorem SE_neg {i : Int} {kk : Nat} {p pos : Pos} : SE W k c true AV.int (.UnaryOp .USub (.Constant (.int i) kk p) pos) (fun _ => some (-i)) := by
  intro A hA σ s V F Q E a R hm hQ
  cases hm
  refine wpAny_UnaryOp (wpAny_Constant_int (neg_int ?_))
  exact hQ _ _ [] ((Kp.toks s _).trans (Kp.toks _ _)) (.int _ _) fun _ _ hx => nomatch hx

def ifF (t : St → Option Bool) (m1 m2 : St → Option (Fl × St)) (σ : St) : Option (Fl × St) := match t σ with
  | some true => m1 σ
  | some false => m2 σ
  | none => none
def cI (n : Int) (_ : St) : Option Int := some n
def cS (n : Sg) (_ : St) : Option Sg := some n
def cB (n : Bool) (_ : St) : Option Bool := some n
def cN (_ : St) : Option Unit := some ()
def stop (_ : St) : Option (Fl × St) := none
def done (σ : St) : Option (Fl × St) := some (.next, σ)
def textM (m1 : St → Option Sg) (σ : St) : Option (List Sg) := match m1 σ with | some x => if x.length ≤ tLine then some (signs x) else none | none => none
def listM {α : Type} (T : Ty (List α)) (i : Nat) (σ : St) : Option (List α) := match look T i σ with | some l => if l.length ≤ tLine then some l else none | none => none
def range1M (m1 : St → Option Int) (σ : St) : Option (List Int) := match m1 σ with | some b => rangeM 0 b | none => none
def scM {α : Type} (inj : α → AV) (m : St → Option α) (σ : St) : Option AV := (m σ).map inj
def addI (a b : Int) : Option Int := some (a + b)
def subI (a b : Int) : Option Int := some (a - b)
def eqI (a b : Int) : Option Bool := some (a == b)
def neI (a b : Int) : Option Bool := some (a != b)
def ltI (a b : Int) : Option Bool := some (decide (a < b))
def eqS (a b : Sg) : Option Bool := some (a == b)
def neS (a b : Sg) : Option Bool := some (a != b)
def neLF (a b : List Int) : Option Bool := some (!decide (a = b))
def isNF (a : AV) (_ : Unit) : Option Bool := some (isN a)
def isNNF (a : AV) (_ : Unit) : Option Bool := some (!isN a)
def isNotBF (a b : Bool) : Option Bool := some (a != b)
def countF (l : List Int) (x : Int) : Option Int := some (l.count x : Nat)

theorem S1_ifF {Wr : List Nat} {test : Expr} {body orelse : List Stmt} {pos : Pos} {t : St → Option Bool} {m1 m2 : St → Option (Fl × St)} (ht : ST W k c test t) (h1 : SS W k c Wr body m1) (h2 : SS W k c Wr orelse m2) :
    S1 W k c Wr (.If test body orelse pos) (ifF t m1 m2) := S1_if ht h1 h2
end
end Mine

namespace Mine
section
variable {W : Wd} {k : Nat} {c : Fx}
theorem il_at : ∀ (C : Addr) (h : Heap) (F : List Addr) (v : Value) (l : List Int), Rep C h F v (tIl.inj l) → ∃ (a : Addr) (vs : List Value), v = .ref a ∧ F = [a] ∧ vs.length = l.length ∧ h.PlainList a vs.toArray ∧ ∀ (j : Nat) (u : Value), vs[j]? = some u → ∃ y, l[j]? = some y ∧ ∀ C h, Rep C h [] u (AV.int y) := by
  intro C h F v l r
  cases r with | @il a vs _ l1 i1 =>
  refine ⟨a, vs, rfl, rfl, i1.length, l1, fun j u hu => ?_⟩
  have : ∀ {vs : List Value} {ns : List Int}, IntsAre vs ns → ∀ (j : Nat) (u : Value), vs[j]? = some u → ∃ y, ns[j]? = some y ∧ ∀ C h, Rep C h [] u (AV.int y) := by
    intro vs ns hi
    induction hi with
    | nil => intro j u h; simp at h
    | cons n t r ih =>
      intro j u h
      cases j with
      | zero => simp at h; subst h; exact ⟨n, by simp, fun _ _ => .int _ _⟩
      | succ j => simpa using ih j u (by simpa using h)
  exact this i1 j u hu
theorem S1_weak {Wr Wr' : List Nat} {st : Stmt} {m : St → Option (Fl × St)} (h : S1 W k c Wr' st m) (hw : ∀ i ∈ Wr', i ∈ Wr) : S1 W k c Wr st m :=
  fun A hA σ s V F Q E f σ' R hm hQ => h A hA σ s V F Q E f σ' R hm fun fl s' V' F' X => hQ fl s' V' F' (X.weak hw)
theorem nfc (_O : c.Ok W) (i : Nat) {x : Str} {b : Addr} (_ : c.loc[i]? = some (.cell x b)) (h : c.env.kindOf x = some .cell) : c.env.kindOf x ≠ some .free := by rw [h]; intro h; cases h
end
end Mine

namespace Mine
section
variable {M : Model} {A : Around} {R : GenEnd} {Y : Protocol} {n : Nat} {s₀ : Shared} {c : Code} {fs : List Frame} {s : Shared} {env : Env}
  {K : Flow → Sem Fin} {H : Value → Sem Fin} {gd : Bool → Bool} {lv : List Value → List Value}

theorem seg_If {test : Expr} {body orelse : List Stmt} {pos : Pos}
    (h : wpAny M (A.over c fs) (isTrue test env (eval test env)) (fun b s' => if b = true then Seg M A R Y n s₀ c ((execs body env).wrap K H gd lv) fs s' else Seg M A R Y n s₀ c ((execs orelse env).wrap K H gd lv) fs s')
      (fun x s' => Seg M A R Y n s₀ c (H x) fs s') s) :
    Seg M A R Y n s₀ c ((exec (.If test body orelse pos) env).wrap K H gd lv) fs s := by
  rw [exec_If]
  refine seg_bind_wrap (wpAny_standAt ?_)
  refine seg_bind_wrap (wpAny_mono h (fun b s' hb => ?_) fun _ _ x => x)
  cases b with
  | true => exact hb
  | false => exact hb
theorem seg_For {target iter : Expr} {body orelse : List Stmt} {pos : Pos} (hs : ∀ x, foldedSetIterable iter env x = pure x := by intro _; rfl)
    (h : wpAny M (A.over c fs) (eval iter env) (fun x s₁ => wpAny M (A.over c fs) (pyIter x) (fun it s₂ => ∀ p, Seg M A R Y n s₀ (.forLoop target it body orelse env) (M.den (.forLoop target it body orelse env))
      (.ret (fun r => ((match r with | .ok f => (.pure f : Sem Flow) | .error e => .raise e).onRaise fun (x : Value) => do
        if (← field x 1) == Value.none then unsupported "frame.own-activation:exception-without-traceback"
        setFlight x env.frame).wrap K H gd lv) none (gd false) (lv []) c p [] :: fs) s₂) (fun x s' => Seg M A R Y n s₀ c (H x) fs s') s₁) (fun x s' => Seg M A R Y n s₀ c (H x) fs s') s) :
    Seg M A R Y n s₀ c ((exec (.For target iter body orelse pos) env).wrap K H gd lv) fs s := by
  rw [exec_For]
  refine seg_bind_wrap (wpAny_standAt ?_)
  refine seg_bind_wrap (wpAny_mono h (fun x s₁ h₁ => ?_) fun _ _ x => x)
  refine seg_bind_wrap (wpAny_of_eq (hs x) ?_)
  refine seg_bind_wrap (wpAny_standAt ?_)
  refine seg_bind_wrap (wpAny_holding (wpAny_mono h₁ (fun it s₂ h₂ => ?_) fun _ _ x => x))
  exact seg_call h₂
end

section
variable {prog : Program} {w : World} {A : Around} {R : GenEnd} {Y : Protocol} {n : Nat} {s₀ : Shared} {fs : List Frame} {s : Shared} {env : Env}
/-- after a turn's body -/
def forK (c : Code) (f : Flow) : Sem Fin := match f with
  | .next | .cont => .pure (.again c)
  | .brk => .pure (.done .next)
  | .ret v => .pure (.done (.ret v))
def forH (env : Env) (e : Value) : Sem Fin := (do noteFrame e env; theTreesLotGoes e : Sem Unit).bind fun _ => .raise e
theorem seg_forLoop {target : Expr} {it : Value} {body orelse : List Stmt}
    (h : wpAny (model prog w) (A.over (.forLoop target it body orelse env) fs) (pyNext it) (fun r s₁ => match r with
      | none => Seg (model prog w) A R Y n s₀ (.block orelse env) ((model prog w).den (.block orelse env)) fs s₁
      | some v => wpAny (model prog w) (A.over (.forLoop target it body orelse env) fs) (letOwnedTupleGo target it v) (fun _ s₂ => wpAny (model prog w) (A.over (.forLoop target it body orelse env) fs) (assign target env v) (fun _ s₃ =>
          Seg (model prog w) A R Y n s₀ (.forLoop target it body orelse env) ((execs body env).wrap (forK (.forLoop target it body orelse env)) (forH env) id id) fs s₃)
          (fun x s' => Seg (model prog w) A R Y n s₀ (.forLoop target it body orelse env) (forH env x) fs s') s₂) (fun x s' => Seg (model prog w) A R Y n s₀ (.forLoop target it body orelse env) (forH env x) fs s') s₁)
      (fun x s' => Seg (model prog w) A R Y n s₀ (.forLoop target it body orelse env) (forH env x) fs s') s) :
    Seg (model prog w) A R Y n s₀ (.forLoop target it body orelse env) ((model prog w).den (.forLoop target it body orelse env)) fs s := by
  show Seg _ A R Y n s₀ _ ((forTurn target it body orelse env).onRaise (fun x => do noteFrame x env; theTreesLotGoes x)) fs s
  unfold forTurn
  rw [Sem.onRaise_eq_wrap]
  refine seg_bind_wrap (wpAny_standAt ?_)
  refine seg_bind_wrap (wpAny_onRaise (wpAny_mono h (fun r s₁ h₁ => ?_) fun _ _ x => wpAny_standAt x))
  cases r with
  | none => exact seg_again rfl h₁
  | some v =>
    refine seg_bind_wrap (wpAny_mono h₁ (fun _ s₂ h₂ => ?_) fun _ _ x => x)
    refine seg_bind_wrap (wpAny_mono h₂ (fun _ s₃ h₃ => ?_) fun _ _ x => x)
    show Seg _ A R Y n s₀ _ (Sem.wrap _ _ _ _ (execs body env >>= _)) fs s₃
    rw [Sem.bind_eq_wrap', Sem.wrap_wrap]
    refine Eq.mpr (congrArg (fun t => Seg (model prog w) A R Y n s₀ _ t fs s₃) (Sem.wrap_congr (execs body env) id id (fun f => ?_) (fun e => ?_))) h₃
    · cases f <;> rfl
    · rfl
end
end Mine

namespace Mine

def escL : Nat → Bool → Sg → List (Nat × Sg)
  | i, e, [] => if e then [(i - 1, [92])] else []
  | i, true, c :: r => (i, [92, c]) :: escL (i + 1) false r
  | i, false, c :: r => if c = 92 then escL (i + 1) true r else (i, [c]) :: escL (i + 1) false r

/-- a text that ends behind a backslash -/
def escEnd : Bool → Sg → Bool
  | e, [] => e
  | true, _ :: r => escEnd false r
  | false, c :: r => escEnd (c == 92) r

structure Since (wr : List Addr) (s₀ s : Shared) : Prop where
  heap : ∀ b o, b ∉ wr → s₀.heap.get? b = some o → s.heap.get? b = some o
  os : OsG s s₀
  gens : AllBare s₀.gens → AllBare s.gens
theorem Since.refl (wr : List Addr) (s : Shared) : Since wr s s := ⟨fun _ _ _ e => e, .rf, id⟩
theorem Since.trans {wr : List Addr} {a b c : Shared} (x : Since wr a b) (y : Since wr b c) : Since wr a c :=
  ⟨fun p o h e => y.heap p o h (x.heap p o h e), y.os.trans x.os, fun g => y.gens (x.gens g)⟩
theorem Since.kp {wr : List Addr} {a b : Shared} (x : Kp a b) : Since wr a b := ⟨fun p o _ e => x.heap p o e, x.os, x.gens⟩
theorem Since.hp {wr : List Addr} {a : Shared} {h : Heap} {t : Nat} (hk : ∀ b o, b ∉ wr → a.heap.get? b = some o → h.get? b = some o) : Since wr a { a with heap := h, toks := t } := ⟨hk, .rf, id⟩

def tupOf (p : Nat × Sg) (o : Obj) : Prop := ∃ u1 u2 m, o = { cls := .type "tuple", data := .seq #[.int (p.1 : Nat) u1, .str (txt p.2) u2] m }

def gY (W : Wd) (fp wr : List Addr) (ys : List (Nat × Sg)) : Protocol := fun r s₀ v s κ =>
  (∃ p t o, ys[ys.length - 1 - r]? = some p ∧ v = .ref t ∧ s.heap.get? t = some o ∧ tupOf p o) ∧ Since wr s₀ s ∧ (∀ b ∈ fp, ∃ o, s.heap.get? b = some o) ∧
    ∀ s'' : Shared, (∀ b ∈ fp, ∀ o, s.heap.get? b = some o → s''.heap.get? b = some o) → (∀ b o, W.G.get? b = some o → s''.heap.get? b = some o) → AllBare s''.gens → κ (.send .none) s''
def gR (wr : List Addr) : GenEnd := fun n s₀ r s => r = .ok (.ret .none) ∧ n = 0 ∧ Since wr s₀ s

section
variable {W : Wd} {k : Nat} {c : Fx} {A : Around} {R : GenEnd} {Y : Protocol} {n : Nat} {s₀ : Shared} {cd : Code} {fs : List Frame} {s : Shared} {K : Flow → Sem Fin} {H : Value → Sem Fin} {gd : Bool → Bool} {lv : List Value → List Value}

theorem seg_S1 {Wr : List Nat} {st : Stmt} {m : St → Option (Fl × St)} (h : S1 W k c Wr st m) (hA : AOk k (A.over cd fs)) {σ σ' : St} {V : Nat → Value} {F : Nat → List Addr} (Rl : Rel W c σ s V F) (hm : m σ = some (.next, σ'))
    (hq : ∀ s' V' F', After W c Wr σ s V F .next σ' .next s' V' F' → Seg (model W.prog W.w) A R Y n s₀ cd (K .next) fs s') : Seg (model W.prog W.w) A R Y n s₀ cd ((exec st c.env).wrap K H gd lv) fs s :=
  seg_wrap (h _ hA σ s V F _ _ .next σ' Rl hm fun fl s' V' F' X => by have : fl = .next := X.flow; subst this; exact hq _ _ _ X)

theorem seg_ST {test : Expr} {body orelse : List Stmt} {pos : Pos} {t : St → Option Bool} (h : ST W k c test t) (hA : AOk k (A.over cd fs)) {σ : St} {V : Nat → Value} {F : Nat → List Addr} (Rl : Rel W c σ s V F) {b : Bool} (hm : t σ = some b)
    (hq : ∀ s', Kp s s' → if b = true then Seg (model W.prog W.w) A R Y n s₀ cd ((execs body c.env).wrap K H gd lv) fs s' else Seg (model W.prog W.w) A R Y n s₀ cd ((execs orelse c.env).wrap K H gd lv) fs s') :
    Seg (model W.prog W.w) A R Y n s₀ cd ((exec (.If test body orelse pos) c.env).wrap K H gd lv) fs s :=
  seg_If (h _ hA σ s V F _ _ b Rl hm fun s' kp => hq s' kp)

theorem Rel.flat {σ : St} {V : Nat → Value} {F : Nat → List Addr} (Rl : Rel W c σ s V F) (h : (σ.all fun x => match x with | some av => av.scal | none => true) = true) : ∀ i, F i = [] := fun i => by
  by_cases hx : ∃ av, σ[i]? = some (some av)
  · obtain ⟨av, e⟩ := hx
    have := List.all_eq_true.mp h _ (List.mem_of_getElem? e)
    exact (Rl.rep i av e).scal this
  · exact Rl.nil i fun av e => hx ⟨av, e⟩

theorem Since.after {Wr : List Nat} {wr : List Addr} {σ σ' : St} {s' : Shared} {V V' : Nat → Value} {F F' : Nat → List Addr} (X : After W c Wr σ s V F .next σ' .next s' V' F') (hF : ∀ i, F i = []) (hm : ∀ a ∈ c.mine, a ∈ wr) : Since wr s s' :=
  ⟨fun b o hbw e => X.heap b o e (fun h => hbw (hm b h)) (fun i _ h => by rw [hF i] at h; cases h), X.os, fun _ => X.rel.gens⟩

/-- a flat frame at a later time -/
theorem Rel.re {σ : St} {V : Nat → Value} {F : Nat → List Addr} {L : Addr} (Rl : Rel W c σ s V F) (hF : ∀ i, F i = []) (hns : ∀ (i : Nat) x b, c.loc[i]? ≠ some (.cell x b)) (hL : c.env.locals = L) {s'' : Shared} (hk : ∀ o, s.heap.get? L = some o → s''.heap.get? L = some o)
    (top : ∀ b o, W.G.get? b = some o → s''.heap.get? b = some o) (gens : AllBare s''.gens) : Rel W c σ s'' V F := by
  subst hL
  refine ⟨top, ?_, fun i x b e => absurd e (hns i x b), fun i av e => (Rl.rep i av e).keep fun a ha => ?_, Rl.nil, Rl.apart, Rl.off, gens, Rl.len⟩
  · obtain ⟨m, hn, hm⟩ := Rl.ns
    exact ⟨m, hn.at' hk, hm⟩
  · rw [hF i] at ha; cases ha

/-- a yield of a pair -/
theorem seg_yield2 {wr fp : List Addr} {ys : List (Nat × Sg)} {b1 b2 : Bool} {e1 e2 : Expr} {m1 : St → Option Int} {m2 : St → Option Sg} {kk : Nat} {tp ypos pos : Pos} (h1 : SE W k c b1 AV.int e1 m1) (h2 : SE W k c b2 AV.str e2 m2) (hA : AOk k (A.over cd fs))
    {σ : St} {V : Nat → Value} {F : Nat → List Addr} (Rl : Rel W c σ s V F) {i : Nat} {y : Sg} (hm1 : m1 σ = some (i : Int)) (hm2 : m2 σ = some y) (hfs : splitAtGen fs = none) (hgd : gd false = false) (hfg : fs.any Frame.guarded = false)
    (hi : ys[ys.length - 1 - n]? = some (i, y)) (hs : Since wr s₀ s) (hlive : ∀ b ∈ fp, ∃ o, s.heap.get? b = some o) (hq : ∀ s' s'', Kp s s' → (∀ b ∈ fp, ∀ o, s'.heap.get? b = some o → s''.heap.get? b = some o) → (∀ b o, W.G.get? b = some o → s''.heap.get? b = some o) → AllBare s''.gens →
      Seg (model W.prog W.w) A R (gY W fp wr ys) n s'' cd (K .next) fs s'') (hco : c.env.scope.isCoroutine = false := by rfl) (hint : interactive c.env = false := by rfl)
    (hs1 : ∀ rest, starEach (e1 :: rest) c.env = (false, eval e1 c.env) :: starEach rest c.env := by intro _; rfl) (hs2 : ∀ rest, starEach (e2 :: rest) c.env = (false, eval e2 c.env) :: starEach rest c.env := by intro _; rfl) :
    Seg (model W.prog W.w) A R (gY W fp wr ys) (n + 1) s₀ cd ((exec (.Expr (.Yield (some (.Tuple [e1, e2] kk tp)) ypos) pos) c.env).wrap K H gd lv) fs s := by
  refine seg_Expr_Yield hfs hgd hfg ?_ hco hint
  refine Tuple_ (as_vals hA (.cons h1 (fun _ => rfl) hs1 (.cons h2 (fun _ => rfl) hs2 .nil)) (as := [.int i, .str y]) Rl (by simp [mAll, hm1, hm2]) fun vs s1 k1 reps => ?_)
  cases reps with | cons r1 reps =>
  cases reps with | cons r2 reps =>
  cases reps
  cases r1 with | int _ u1 =>
  cases r2 with | str _ u2 =>
  refine wpAny_newObj_type ?_ (by show (2 : Nat) ≤ sizeLine; decide)
  intro κ hκ
  have kp2 := k1.trans (Kp.of (s := s1) (t := s1.toks) fun b o e => Heap.get?_push_of_some { cls := .type "tuple", dict := none, data := .seq [Value.int i u1, .str (txt y) u2].toArray } e)
  exact ⟨⟨(i, y), s1.heap.objs.size, _, hi, rfl, Heap.get?_push_size _ rfl, u1, u2, 0, rfl⟩, hs.trans (Since.kp kp2), fun b hb => by obtain ⟨o, e⟩ := hlive b hb; exact ⟨o, kp2.heap b o e⟩, fun s'' ha ht hb => hκ .none s'' (hq _ s'' kp2 ha ht hb)⟩
end
end Mine

namespace Mine

def N_gen : List Str := ["addr", "pos", "escape", "ch"]
def genFor : Stmt := match (bodyOf (stAt 7)).drop 2 with
  | st :: _ => st
  | [] => .Pass ⟨0, 0, 0, 0⟩
def forTarget : Stmt → Expr
  | .For t _ _ _ _ => t
  | _ => .Constant .none 0 ⟨0, 0, 0, 0⟩
def forBody : Stmt → List Stmt
  | .For _ _ b _ _ => b
  | _ => []

def EscP (x : Sg) (i : Nat) (v : Value) : Prop := ∃ c u, (txt x).cps[i]? = some c ∧ v = .str ⟨#[c]⟩ u

section
variable {W : Wd} {k : Nat} {q : Str} {dv kv doc pm : Value} {an : Option Addr} {cd ct : Value} {f C : Addr}

theorem gen_loop (T : TopF W) (O : (fx (mkfd (stAt 7) q dv kv doc pm an cd ct) f C N_gen).Ok W) {A : Around} {en it : Addr} {x : Sg} {ys : List (Nat × Sg)} {St : Nat → Heap → Prop} {kk : Result → Sem Fin} {p : Pos}
    (hne : en ≠ it) (hCe : en ≠ C) (hCi : it ≠ C) (hGe : W.G.get? en = none) (hGi : W.G.get? it = none) (hlv : ∀ i h, St i h → ∃ o, h.get? it = some o)
    (hA : AOk k (A.over (.forLoop (forTarget genFor) (.ref en) (forBody genFor) [] (callEnv (mkfd (stAt 7) q dv kv doc pm an cd ct) C f)) [.ret kk none false [] (.func (bodyOf (stAt 7)) (callEnv (mkfd (stAt 7) q dv kv doc pm an cd ct) C f)) p []]))
    (D : ∀ A' : Around, A'.handled = none → Draws W.prog W.w A' it [it] x.length (EscP x) St)
    (hEnd : ∀ (s₀ s : Shared) (V : Nat → Value) (F : Nat → List Addr) (pv cv : Option AV), Rel W (fx (mkfd (stAt 7) q dv kv doc pm an cd ct) f C N_gen) [some (.str x), pv, some (.bool false), cv] s V F → (∀ i, F i = []) →
      Since [C, en, it] s₀ s →
      Seg (model W.prog W.w) A (gR [C, en, it]) (gY W [C, en, it] [C, en, it] ys) 0 s₀ (.func (bodyOf (stAt 7)) (callEnv (mkfd (stAt 7) q dv kv doc pm an cd ct) C f)) (kk (.ok .next)) [] s) :
    ∀ (r : Sg) (i : Nat) (e : Bool) (pv cv : Option AV) (s₀ s : Shared) (V : Nat → Value) (F : Nat → List Addr) (old : Value), x.drop i = r → i ≤ x.length → escEnd e r = false →
      Rel W (fx (mkfd (stAt 7) q dv kv doc pm an cd ct) f C N_gen) [some (.str x), pv, some (.bool e), cv] s V F → (∀ i, F i = []) → IsEnum s.heap en it i old → St i s.heap → Since [C, en, it] s₀ s → (∃ pre, ys = pre ++ escL i e r) →
      Seg (model W.prog W.w) A (gR [C, en, it]) (gY W [C, en, it] [C, en, it] ys) (escL i e r).length s₀ (.forLoop (forTarget genFor) (.ref en) (forBody genFor) [] (callEnv (mkfd (stAt 7) q dv kv doc pm an cd ct) C f))
        ((model W.prog W.w).den (.forLoop (forTarget genFor) (.ref en) (forBody genFor) [] (callEnv (mkfd (stAt 7) q dv kv doc pm an cd ct) C f)))
        [.ret kk none false [] (.func (bodyOf (stAt 7)) (callEnv (mkfd (stAt 7) q dv kv doc pm an cd ct) C f)) p []] s := by
  have hm : ∀ b, b = en ∨ b = it → b ∉ (fx (mkfd (stAt 7) q dv kv doc pm an cd ct) f C N_gen).mine := fun b hb h => by
    rw [fx_mine] at h
    rcases List.mem_cons.mp h with rfl | h
    · rcases hb with h | h
      · exact hCe h.symm
      · exact hCi h.symm
    · cases h
  have hwr : ∀ (F : Nat → List Addr), (∀ i, F i = []) → ∀ b ∈ [en, it], b ∉ (fx (mkfd (stAt 7) q dv kv doc pm an cd ct) f C N_gen).mine ∧ W.G.get? b = none ∧ ∀ i, b ∉ F i := fun F hF b hb => by
    rcases List.mem_cons.mp hb with rfl | hb
    · exact ⟨hm _ (.inl rfl), hGe, fun i h => by rw [hF i] at h; cases h⟩
    · rcases List.mem_cons.mp hb with rfl | hb
      · exact ⟨hm _ (.inr rfl), hGi, fun i h => by rw [hF i] at h; cases h⟩
      · cases hb
  intro r
  induction r with
  | nil =>
    intro i e pv cv s₀ s V F old hr hi hpv Rl hF he st hs hys
    have hix : i = x.length := by
      have := congrArg List.length hr
      rw [List.length_drop] at this
      simp at this
      omega
    subst hix
    refine seg_forLoop ?_
    refine wpAny_pyNext_enum_endD (D _ hA.hh) he st fun h' hx => ?_
    show Seg _ A _ _ _ s₀ _ ((do return Fin.done (← (execs [] _).onRaise (fun x => do noteFrame x _; theTreesLotGoes x))) : Sem Fin) _ _
    have Rl' := Rl.hop (tk := s.toks) (hwr F hF) (h' := h') fun b o hb e' => hx b o (fun h => hb (by rw [h]; exact .tail _ (.head _))) e'
    have hee : e = false := hpv
    subst hee
    refine seg_leaf (.ok .next) ?_
    exact hEnd s₀ _ V F pv cv Rl' hF (hs.trans (Since.hp (t := s.toks) (fun b o hb e' => hx b o (fun h => hb (by rw [h]; simp)) e')))
  | cons ch r ih =>
    intro i e pv cv s₀ s V F old hr hi hpv Rl hF he st hs hys
    have hlt : i < x.length := by
      have := congrArg List.length hr
      rw [List.length_drop] at this
      simp at this
      omega
    have hch : x[i]? = some ch := by
      have := congrArg (fun l => l[0]?) hr
      simpa using this
    have hr' : x.drop (i + 1) = r := by
      have := congrArg (List.drop 1) hr
      rw [List.drop_drop] at this
      simpa using this
    refine seg_forLoop ?_
    refine wpAny_pyNext_enum_itemD (D _ hA.hh) he st hlt hne (by simpa using hne) fun v h₁ tk hPv heo st₁ ht₁ hz₁ hk₁ => ?_
    obtain ⟨c', u, hc', rfl⟩ := hPv
    have : c' = ch := by
      have e1 : x[i]? = some c' := by simpa [txt] using hc'
      rw [hch] at e1; exact (Option.some.inj e1).symm
    subst this
    have heH : en < s.heap.objs.size := Heap.lt_size he
    obtain ⟨oi, hoi⟩ := hlv _ _ st
    have hiH : it < s.heap.objs.size := Heap.lt_size hoi
    refine wpAny_letOwnedTupleGo_enum heo fun h₂ he₂ hs₂ => ?_
    replace hs₂ : Heap.SameBut en h₁ h₂ := hs₂
    have ht₂ : h₂.IsTuple s.heap.objs.size #[.int i tk, .str ⟨#[c']⟩ u] := ⟨_, (hs₂.2 _ (Nat.ne_of_gt heH)).trans ht₁, rfl, _, rfl⟩
    have hz₂ : h₂.objs.size = s.heap.objs.size + 1 := hs₂.1.trans hz₁
    refine wpAny_assign_Tuple hA.hh ht₂ rfl rfl fun h₃ hx₃ => ?_
    replace hx₃ : Heap.ExtBut h₂.objs.size h₂ h₃ := hx₃
    have old₃ : ∀ b o, b < s.heap.objs.size → h₂.get? b = some o → h₃.get? b = some o := fun b o hb x => hx₃ b o (by rw [hz₂]; exact Nat.ne_of_lt (Nat.lt_succ_of_lt hb)) x
    have up : ∀ b o, b ∉ [en, it] → s.heap.get? b = some o → h₃.get? b = some o := fun b o hb e' =>
      old₃ b o (Heap.lt_size e') (hs₂.extBut b o (fun h => hb (by rw [h]; simp)) (hk₁ b o (fun h => hb (by rw [h]; simp)) (fun h => hb (by rw [h]; simp)) e'))
    have he₃ : IsEnum h₃ en it ((i : Int) + 1) (.str ⟨#[c']⟩ u) := old₃ _ _ heH he₂
    have st₃ : St (i + 1) h₃ := (D _ hA.hh).frame _ _ _ st₁ fun b hb o e' => by
      rcases List.mem_cons.mp hb with rfl | hb
      · exact old₃ _ o hiH (hs₂.extBut _ o (Ne.symm hne) e')
      · cases hb
    have R3 := Rl.hop (tk := tk + 1) (hwr F hF) up
    have S3 : Since [C, en, it] s₀ { s with heap := h₃, toks := tk + 1 } := hs.trans (Since.hp fun b o hb e' => up b o (fun h => hb (.tail _ h)) e')
    have hcast : ((i + 1 : Nat) : Int) = (i : Int) + 1 := by push_cast; rfl
    have turn : ∀ (e' : Bool) (s₀ s₇ : Shared) (V F), escEnd e' r = false → (e' = true → e = false ∧ c' = 92) → (e' = false → ¬ (e = false ∧ c' = 92)) → Rel W (fx (mkfd (stAt 7) q dv kv doc pm an cd ct) f C N_gen) [some (.str x), some (.int (i : Int)), some (.bool e'), some (.str [c'])] s₇ V F → IsEnum s₇.heap en it ((i : Int) + 1) (.str ⟨#[c']⟩ u) → St (i + 1) s₇.heap → Since [C, en, it] s₀ s₇ →
        Seg (model W.prog W.w) A (gR [C, en, it]) (gY W [C, en, it] [C, en, it] ys) (escL (i + 1) e' r).length s₀ (.forLoop (forTarget genFor) (.ref en) (forBody genFor) [] (callEnv (mkfd (stAt 7) q dv kv doc pm an cd ct) C f))
          (.pure (.again (.forLoop (forTarget genFor) (.ref en) (forBody genFor) [] (callEnv (mkfd (stAt 7) q dv kv doc pm an cd ct) C f))))
          [.ret kk none false [] (.func (bodyOf (stAt 7)) (callEnv (mkfd (stAt 7) q dv kv doc pm an cd ct) C f)) p []] s₇ := by
      intro e' s₀ s₇ V F h0 h1 h2 R7 he7 st7 hs7
      refine seg_again rfl (ih (i + 1) e' (some (.int (i : Int))) (some (.str [c'])) s₀ s₇ V F _ hr' hlt h0 R7 (R7.flat rfl) (by rw [hcast]; exact he7) st7 hs7 ?_)
      obtain ⟨pre, hpre⟩ := hys
      cases e' with
      | true =>
        obtain ⟨rfl, rfl⟩ := h1 rfl
        exact ⟨pre, by rw [hpre]; rfl⟩
      | false =>
        have h2 := h2 rfl
        cases e with
        | true => exact ⟨pre ++ [(i, [92, c'])], by rw [hpre, List.append_assoc]; rfl⟩
        | false =>
          have : ¬ c' = 92 := fun h => h2 ⟨rfl, h⟩
          exact ⟨pre ++ [(i, [c'])], by rw [hpre, List.append_assoc]; simp [escL, this]⟩
    show wpAny _ _ (do holding [_] (assign (.Name "pos" _) _ _); do holding [] (assign (.Name "ch" _) _ _); pure ()) _ _ _
    refine wpAny_bind (wpAny_holding (wpAny_assign_Name (wp_store (F₁ := []) (av := .int (i : Int)) O (i := 1) (l := .ns "pos") rfl rfl (nf O 1 rfl) R3 (.int _ _) (fun y hy => nomatch hy) fun s4 R4 B4 => ?_)))
    refine wpAny_bind (wpAny_holding (wpAny_assign_Name (wp_store (F₁ := []) (av := .str [c']) O (i := 3) (l := .ns "ch") rfl rfl (nf O 3 rfl) R4 (.str [c'] u) (fun y hy => nomatch hy) fun s5 R5 B5 => wpAny_pure ?_)))
    have mine_wr : ∀ b, b ∉ [C, en, it] → b ∉ (fx (mkfd (stAt 7) q dv kv doc pm an cd ct) f C N_gen).mine := fun b hb h => by
      rw [fx_mine] at h
      rcases List.mem_cons.mp h with rfl | h
      · exact hb (.head _)
      · cases h
    have S5 : Since [C, en, it] s₀ s5 := S3.trans ⟨fun b o hb e' => B5.heap b o (B4.heap b o e' (mine_wr b hb)) (mine_wr b hb), B5.os.trans B4.os, fun _ => R5.gens⟩
    have he5 : IsEnum s5.heap en it ((i : Int) + 1) (.str ⟨#[c']⟩ u) := B5.heap _ _ (B4.heap _ _ he₃ (hm _ (.inl rfl))) (hm _ (.inl rfl))
    have st5 : St (i + 1) s5.heap := (D _ hA.hh).frame _ _ _ st₃ fun b hb o e' => by
      rcases List.mem_cons.mp hb with rfl | hb
      · exact B5.heap _ _ (B4.heap _ _ e' (hm _ (.inr rfl))) (hm _ (.inr rfl))
      · cases hb
    have R5 : Rel W (fx (mkfd (stAt 7) q dv kv doc pm an cd ct) f C N_gen) [some (.str x), some (.int (i : Int)), some (.bool e), some (.str [c'])] s5 _ _ := R5
    have back : ∀ {s7 s8 : Shared} {V F} {σ : Mine.St}, Rel W (fx (mkfd (stAt 7) q dv kv doc pm an cd ct) f C N_gen) σ s7 V F → (∀ i, F i = []) → (∀ b ∈ [C, en, it], ∀ o, s7.heap.get? b = some o → s8.heap.get? b = some o) → (∀ b o, W.G.get? b = some o → s8.heap.get? b = some o) → AllBare s8.gens →
        Rel W (fx (mkfd (stAt 7) q dv kv doc pm an cd ct) f C N_gen) σ s8 V F := fun R7 hF7 ag top gens =>
      R7.re (L := C) hF7 (fun j y b h => by simp [fx] at h) rfl (fun o e' => ag C (.head _) o e') top gens
    have keepE : ∀ {s7 s8 : Shared}, (∀ b ∈ [en, it], ∀ o, s7.heap.get? b = some o → s8.heap.get? b = some o) → IsEnum s7.heap en it ((i : Int) + 1) (.str ⟨#[c']⟩ u) → St (i + 1) s7.heap → IsEnum s8.heap en it ((i : Int) + 1) (.str ⟨#[c']⟩ u) ∧ St (i + 1) s8.heap := fun ag h7 st7 =>
      ⟨ag en (.head _) _ h7, (D _ hA.hh).frame _ _ _ st7 fun b hb o e' => ag b (.tail _ hb) o e'⟩
    have aft : ∀ {s7 s8 : Shared} {V7 V8 F7 F8} {σ7 σ8 : Mine.St} {Wr : List Nat}, After W (fx (mkfd (stAt 7) q dv kv doc pm an cd ct) f C N_gen) Wr σ7 s7 V7 F7 .next σ8 .next s8 V8 F8 → (∀ i, F7 i = []) → (∀ b ∈ [en, it], ∀ o, s7.heap.get? b = some o → s8.heap.get? b = some o) := fun X hF7 b hb o e' => by
      refine X.heap b o e' ((hwr _ hF7 b hb).1) fun j _ h => ?_
      rw [hF7 j] at h; cases h
    have aftS : ∀ {s7 s8 : Shared} {V7 V8 F7 F8} {σ7 σ8 : Mine.St} {Wr : List Nat}, After W (fx (mkfd (stAt 7) q dv kv doc pm an cd ct) f C N_gen) Wr σ7 s7 V7 F7 .next σ8 .next s8 V8 F8 → (∀ i, F7 i = []) → Since [C, en, it] s7 s8 := fun X hF7 =>
      Since.after X hF7 fun a ha => by
        rw [fx_mine] at ha
        rcases List.mem_cons.mp ha with rfl | h
        · exact .head _
        · cases h
    refine seg_execs_cons (seg_ST (ST_plain (SE_var tBool O 2 rfl rfl)) hA R5 (b := e) rfl fun s6 k6 => ?_)
    obtain ⟨he6, st6⟩ := keepE (s8 := s6) (fun b _ o e' => k6.heap b o e') he5 st5
    have R6 := R5.kp k6
    have S6 := S5.trans (Since.kp k6)
    have liveOf : ∀ {s7 : Shared} {V F} {σ : Mine.St}, Rel W (fx (mkfd (stAt 7) q dv kv doc pm an cd ct) f C N_gen) σ s7 V F → IsEnum s7.heap en it ((i : Int) + 1) (.str ⟨#[c']⟩ u) → St (i + 1) s7.heap → ∀ b ∈ [C, en, it], ∃ o, s7.heap.get? b = some o := by
      intro s7 V F σ R7 he7 st7 b hb
      rcases List.mem_cons.mp hb with rfl | hb
      · obtain ⟨m, ⟨o, _, _, e', _⟩, _⟩ := R7.ns; exact ⟨o, e'⟩
      · rcases List.mem_cons.mp hb with rfl | hb
        · exact ⟨_, he7⟩
        · rcases List.mem_cons.mp hb with rfl | hb
          · exact hlv _ _ st7
          · cases hb
    have live6 := liveOf R6 he6 st6
    have kp2 : ∀ {s7 : Shared}, Kp s6 s7 → (∀ b ∈ [en, it], ∀ o, s6.heap.get? b = some o → s7.heap.get? b = some o) := fun kp b _ o e' => kp.heap b o e'
    cases e with
    | true =>
      simp only [if_true]
      obtain ⟨pre, hpre⟩ := hys
      refine seg_execs_cons (seg_yield2 (n := (escL (i + 1) false r).length) (i := i) (y := [92, c']) (SE_var tInt O 1 rfl rfl) (SE_bin (SE_str (l := [92]) (by rfl)) (SE_var tStr O 3 rfl rfl) op_addS) hA R6 rfl rfl rfl rfl rfl ?_ S6 live6 fun s7 s8 k7 ag top gens => ?_)
      · rw [hpre]; simp [escL]
      · obtain ⟨he8, st8⟩ := keepE (s8 := s8) (fun b hb o e' => ag b (.tail _ hb) o (k7.heap b o e')) he6 st6
        have R8 := back (R6.kp k7) (R6.flat rfl) ag top gens
        refine seg_execs_cons (seg_S1 (Wr := [2]) (S1_assign O SE_bool 2 rfl rfl (by decide) (nf O 2 rfl)) hA R8 rfl fun s9 V9 F9 X => ?_)
        obtain ⟨he9, st9⟩ := keepE (aft X (R8.flat rfl)) he8 st8
        refine seg_execs_nil ?_
        exact turn false s8 s9 _ _ (by simpa [escEnd] using hpv) (fun h => nomatch h) (fun _ h => nomatch h.1) X.rel he9 st9 (aftS X (R8.flat rfl))
    | false =>
      simp only [Bool.false_eq_true, if_false]
      refine seg_execs_cons (seg_ST (ST_cmp (SE_var tStr O 3 rfl rfl) (SE_str (l := [92]) (by rfl)) op_eqS) hA R6 (b := [c'] == [92]) rfl fun s7 k7 => ?_)
      obtain ⟨he7, st7⟩ := keepE (s8 := s7) (kp2 k7) he6 st6
      have R7 := R6.kp k7
      have S7 := S6.trans (Since.kp k7)
      have live7 := liveOf R7 he7 st7
      by_cases h92 : c' = 92
      · have hb : ([c'] == [92]) = true := by rw [h92]; rfl
        rw [hb, if_pos rfl]
        have hl : escL i false (c' :: r) = escL (i + 1) true r := by simp [escL, h92]
        rw [hl]
        refine seg_execs_cons (seg_S1 (Wr := [2]) (S1_assign O SE_bool 2 rfl rfl (by decide) (nf O 2 rfl)) hA R7 rfl fun s9 V9 F9 X => ?_)
        obtain ⟨he9, st9⟩ := keepE (aft X (R7.flat rfl)) he7 st7
        refine seg_execs_nil (seg_execs_nil ?_)
        exact turn true s₀ s9 _ _ (by simpa [escEnd, h92] using hpv) (fun _ => ⟨rfl, h92⟩) (fun h => nomatch h) X.rel he9 st9 (S7.trans (aftS X (R7.flat rfl)))
      · have hb : ([c'] == [92]) = false := by simpa using h92
        rw [hb, if_neg (by decide)]
        have hl : escL i false (c' :: r) = (i, [c']) :: escL (i + 1) false r := by simp [escL, h92]
        rw [hl]
        obtain ⟨pre, hpre⟩ := hys
        refine seg_execs_cons (seg_yield2 (n := (escL (i + 1) false r).length) (i := i) (y := [c']) (SE_var tInt O 1 rfl rfl) (SE_var tStr O 3 rfl rfl) hA R7 rfl rfl rfl rfl rfl ?_ S7 live7 fun s8 s9 k8 ag top gens => ?_)
        · rw [hpre, hl]; simp
        · obtain ⟨he9, st9⟩ := keepE (s8 := s9) (fun b hb o e' => ag b (.tail _ hb) o (k8.heap b o e')) he7 st7
          have R9 := back (R7.kp k8) (R7.flat rfl) ag top gens
          refine seg_execs_nil (seg_execs_nil ?_)
          exact turn false s9 s9 _ _ (by
            have hb' : (c' == 92) = false := by simpa using h92
            simpa [escEnd, hb'] using hpv) (fun h => nomatch h) (fun _ h => h92 h.2) R9 he9 st9 (Since.refl _ _)
end
end Mine

namespace Mine

theorem Rep.strv {C : Addr} {h : Heap} {F : List Addr} {v : Value} {l : Sg} (r : Rep C h F v (.str l)) : ∃ t, v = .str (txt l) t := by cases r; exact ⟨_, rfl⟩

section
variable {W : Wd} {k : Nat} {q : Str} {dv kv doc pm : Value} {an : Option Addr} {cd ct : Value} {f C : Addr}

theorem gen_body (T : TopF W) (G : Nm W) (O : (fx (mkfd (stAt 7) q dv kv doc pm an cd ct) f C N_gen).Ok W) {A : Around} (hA : AOk (k + 1) A) {x : Sg} (hx : escEnd false x = false) (s : Shared) (V : Nat → Value) (F : Nat → List Addr)
    (Rl : Rel W (fx (mkfd (stAt 7) q dv kv doc pm an cd ct) f C N_gen) [some (.str x), none, none, none] s V F) :
    Seg (model W.prog W.w) A (gR [C, s.heap.objs.size + 1, s.heap.objs.size]) (gY W [C, s.heap.objs.size + 1, s.heap.objs.size] [C, s.heap.objs.size + 1, s.heap.objs.size] (escL 0 false x)) (escL 0 false x).length s
      (.func (bodyOf (stAt 7)) (callEnv (mkfd (stAt 7) q dv kv doc pm an cd ct) C f)) ((model W.prog W.w).den (.func (bodyOf (stAt 7)) (callEnv (mkfd (stAt 7) q dv kv doc pm an cd ct) C f))) [] s := by
  have hF := Rl.flat rfl
  have hAF : AOk k (A.over (.func (bodyOf (stAt 7)) (callEnv (mkfd (stAt 7) q dv kv doc pm an cd ct) C f)) []) :=
    ⟨hA.hh, by have := hA.dep; show A.depth + 0 + 1 + k < _; omega, by have := hA.un; show A.units + 0 + 3 + _ < _; omega⟩
  have hLC : C < s.heap.objs.size := by obtain ⟨m, ⟨o, _, _, e, _⟩, _⟩ := Rl.ns; exact Heap.lt_size e
  have mine_wr : ∀ b, b ∉ [C, s.heap.objs.size + 1, s.heap.objs.size] → b ∉ (fx (mkfd (stAt 7) q dv kv doc pm an cd ct) f C N_gen).mine := fun b hb h => by
    rw [fx_mine] at h
    rcases List.mem_cons.mp h with rfl | h
    · exact hb (.head _)
    · cases h
  refine seg_func ?_
  refine seg_execs_cons (seg_wrap (wpAny_Assign_Name (wpAny_Constant_int (wp_store (F₁ := []) (av := .int 0) O (i := 1) (l := .ns "pos") rfl rfl (nf O 1 rfl) (Rl.kp (Kp.toks s (s.toks + 1))) (.int _ _) (fun y hy => nomatch hy) fun s1 R1 B1 => ?_))))
  refine seg_execs_cons (seg_wrap (wpAny_Assign_Name (Constant_bool (wp_store (F₁ := []) (av := .bool false) O (i := 2) (l := .ns "escape") rfl rfl (nf O 2 rfl) R1 (.bool _) (fun y hy => nomatch hy) fun s2 R2 B2 => ?_))))
  have hsz : s2.heap.objs.size = s.heap.objs.size := B2.size.trans B1.size
  have R2 : Rel W (fx (mkfd (stAt 7) q dv kv doc pm an cd ct) f C N_gen) [some (.str x), some (.int 0), some (.bool false), none] s2 _ _ := R2
  have S2 : Since [C, s.heap.objs.size + 1, s.heap.objs.size] s s2 := ⟨fun b o hb e => B2.heap b o (B1.heap b o e (mine_wr b hb)) (mine_wr b hb), ⟨B2.os.os.trans B1.os.os, fun i g e => B2.os.gk i g (B1.os.gk i g e)⟩, fun _ => R2.gens⟩
  refine seg_execs_cons (seg_For (hs := by intro _; rfl) ?_)
  refine Call_ (wp_builtin (v := .type "enumerate") T O R2 (by rfl) G.enumerate (by rfl) ?_)
  refine callWith_type1 (args_cons (wpAny_mono (load_slot O (j := 0) (l' := .ns "addr") rfl rfl R2 (av := .str x) rfl) (fun v s3 hv => args_nil ?_) fun _ _ e => e))
  obtain ⟨rfl, rfl⟩ := hv
  have r0 := R2.rep 0 (.str x) rfl
  obtain ⟨t, ht⟩ := r0.strv
  rw [ht]
  refine call_enumerate_str fun h' he hst hz hk => ?_
  rw [hsz] at he hst hz ⊢
  refine wpAny_pyIter_enum he fun p => ?_
  have hnone : ∀ a, s.heap.objs.size ≤ a → W.G.get? a = none := fun a ha => by
    cases e : W.G.get? a with
    | none => rfl
    | some o => exact absurd (Nat.lt_of_lt_of_le (Heap.lt_size (Rl.top a o e)) ha) (Nat.lt_irrefl _)
  have R3 := R2.kp (Kp.of (s := s3) (t := s3.toks) hk)
  have S3 := S2.trans (Since.kp (wr := [C, s.heap.objs.size + 1, s.heap.objs.size]) (Kp.of (s := s3) (t := s3.toks) hk))
  refine gen_loop (k := k) (St := fun i h => h.IsStrIter s.heap.objs.size (strIterType (txt x)) (txt x) t i) T O (Nat.succ_ne_self _) (Nat.ne_of_gt (Nat.lt_succ_of_lt hLC)) (Nat.ne_of_gt hLC) (hnone _ (Nat.le_succ _)) (hnone _ (Nat.le_refl _)) (fun i h st => by obtain ⟨o, e, _⟩ := st; exact ⟨o, e⟩) ?_ (fun A' hA' => ?_) (fun s₀ s4 V4 F4 pv cv R4 hF4 S4 => ?_) x 0 false _ none _ _ _ _ _ rfl (Nat.zero_le _) hx R3 (R3.flat rfl) (by simpa using he) hst S3 ⟨[], rfl⟩
  · exact ⟨hA.hh, by have := hA.dep; show A.depth + 1 + 0 + k < _; omega, by have := hA.un; show A.units + 3 + 0 + 100 * (k + 1) < _; omega⟩
  · unfold strIterType
    cases ha : (txt x).cps.all (· < 128)
    · simp only [Bool.false_eq_true, if_false]
      exact Draws.strWide hA' s.heap.objs.size (txt x) t
    · simp only [if_true]
      exact Draws.strAscii hA' s.heap.objs.size (txt x) t
  · refine seg_execs_cons (seg_ST (ST_plain (SE_var tBool O 2 rfl rfl)) hAF R4 (b := false) rfl fun s5 k5 => ?_)
    simp only [Bool.false_eq_true, if_false]
    refine seg_execs_nil (seg_execs_nil ?_)
    exact seg_end (.ok (.ret .none)) ⟨rfl, rfl, S4.trans (Since.kp k5)⟩
end
end Mine

namespace Mine

section
variable {prog : Program} {w : World} {A : Around} {E : Value → Shared → Prop} {s : Shared}

/-- a StopIteration without arguments, new -/
theorem stop_made {Q : Value → Shared → Prop} (h : ∀ h' e o, (∀ b ob, s.heap.get? b = some ob → h'.get? b = some ob) → h'.get? e = some o → o.cls = .type "StopIteration" → Q (.ref e) { s with heap := h' }) :
    wpAny (model prog w) A (newExc (.type "StopIteration") []) Q E s := by
  unfold newExc newTuple
  refine wpAny_bind (wpAny_newObj_type (wpAny_bind (m := firstArgMember _ _) (wpAny_of_eq (a := Value.none) (by rfl) (wpAny_newObj_type ?_ (by size_fits)))) (by size_fits))
  exact h _ _ _ (fun b ob e => Heap.get?_push_of_some _ (Heap.get?_push_of_some _ e)) (Heap.get?_push_size _ rfl) rfl

/-- next() of a generator by what its waking brings: a value, or a StopIteration -/
theorem next_of_wake {a : Addr} {g : Nat} {Q : Option Value → Shared → Prop} (hg : s.heap.IsGen a g)
    (h : wpAny (model prog w) A.in1 (Builtin.Generator.genWake (.ref a) (.send .none)) (fun f s' => ∃ v, f = .done (.ret v) ∧ Q (some v) s') (fun x s' => ∃ e o, x = .ref e ∧ s'.heap.get? e = some o ∧ o.cls = .type "StopIteration" ∧ Q none s') s) :
    wpAny (model prog w) A (pyNext (.ref a)) Q E s := by
  have T := hg.typeIs
  unfold pyNext
  refine wpAny_bind (wpAny_attempt (wpAny_callSpecial?_slot T slot_gen_next (wpAny_call_entry slot_gen_next T entry_gen_next (wpAny_mono h ?_ ?_) (args_gen_next _))))
  · rintro f s' ⟨v, rfl, hq⟩
    exact ⟨v, rfl, wpAny_pure hq⟩
  · rintro x s' ⟨e, o, rfl, he, hc, hq⟩
    exact wpAny_bind (wpAny_isInstance (T := "StopIteration") (b := true) ⟨o, he, hc⟩ isSubtype_stop (wpAny_pure hq))

/-- the generator's waking, when it runs on: an item (and it stays bare), or its end -/
theorem wake_goes {a : Addr} {g n : Nat} {gs : GenState} {R : GenEnd} {Y : Protocol} {Q : PySem.Fin → Shared → Prop} (hl : s.heap.NoLimit) (hroom : A.depth < recursionLimit) (hg : s.heap.IsGen a g) (hgs : s.gens[g]? = some gs)
    (hgo : gs.Goes (model prog w) A R Y n (.send .none) (s.setGen g .running))
    (hend : ∀ x s₁, R n (s.setGen g .running) x s₁ → x = .ok (.ret .none) ∧ wpAny (model prog w) A (newExc (.type "StopIteration") []) (fun e s₂ => ∀ {α : Type} {Q' : α → Shared → Prop}, wpAny (model prog w) A (raiseNew e : Sem α) Q' E s₂) E (s₁.setGen g .finished))
    (hitem : ∀ v s₁ gs', gs'.bare = true → Y (n - 1) (s.setGen g .running) v s₁ (fun r' s'' => match n with
        | 0 => False
        | m + 1 => gs'.Goes (model prog w) A R Y m r' s'') → Q (.done (.ret v)) (s₁.setGen g gs')) :
    wpAny (model prog w) A (Builtin.Generator.genWake (.ref a) (.send .none)) Q E s := by
  unfold Builtin.Generator.genWake
  refine wpAny_bind (wpAny_holding (wpAny_genNumber hg (wpAny_bind (wpAny_genState hgs ?_))))
  have fin : ∀ {l : List Value} {k : GenResult → Sem PySem.Fin}, (∀ v s', Q (.done (.ret v)) s' → wpAny (model prog w) A (k (.yielded v)) Q E s') →
      (∀ s', wpAny (model prog w) A (newExc (.type "StopIteration") []) (fun e s₂ => ∀ {α : Type} {Q' : α → Shared → Prop}, wpAny (model prog w) A (raiseNew e : Sem α) Q' E s₂) E s' → wpAny (model prog w) A (k (.returned .none)) Q E s') →
      wpAny (model prog w) A (roomToWake >>= fun _ => Sem.resume g (.send .none) l k) Q E s := by
    intro l k h1 h2
    refine wpAny_bind (wpAny_roomToWake hl hroom (wpAny_resumeQ hgs hgo (fun x s₁ hx => ?_) fun v s₁ gs' hb hv => h1 v _ (hitem v s₁ gs' hb hv)))
    obtain ⟨rfl, q⟩ := hend x s₁ hx
    exact h2 _ q
  have stop : ∀ {s' : Shared} {α : Type} {k : α → Sem PySem.Fin}, wpAny (model prog w) A (newExc (.type "StopIteration") []) (fun e s₂ => ∀ {α : Type} {Q' : α → Shared → Prop}, wpAny (model prog w) A (raiseNew e : Sem α) Q' E s₂) E s' →
      wpAny (model prog w) A (newExc (.type "StopIteration") [] >>= fun e => (raiseNew e : Sem α) >>= k) Q E s' := fun q => wpAny_bind (wpAny_mono q (fun e s₂ hr => wpAny_bind hr) fun _ _ z => z)
  cases gs with
  | running => exact hgo.elim
  | finished => exact hgo.elim
  | fresh c => exact fin (fun v s' q => wpAny_pure q) fun s' q => stop q
  | suspended k l c p fs cl => exact fin (fun v s' q => wpAny_pure q) fun s' q => stop q

theorem pyNext_gen {a : Addr} {g n : Nat} {gs : GenState} {P : Nat → Shared → Shared → Prop} {Y : Protocol} {Q : Option Value → Shared → Prop} (hh : A.handled = none)
    (hl : s.heap.NoLimit) (hroom : A.depth < recursionLimit)
    (hg : s.heap.IsGen a g) (hgs : s.gens[g]? = some gs)
    (hgo : gs.Goes (model prog w) A.in1 (fun n s₀ r s₁ => r = .ok (.ret .none) ∧ P n s₀ s₁) Y n (.send .none) (s.setGen g .running))
    (hY : ∀ v s₁ gs', gs'.bare = true → Y (n - 1) (s.setGen g .running) v s₁ (fun r' s'' => match n with
        | 0 => False
        | m + 1 => gs'.Goes (model prog w) A.in1 (fun n s₀ r s₁ => r = .ok (.ret .none) ∧ P n s₀ s₁) Y m r' s'') → Q (some v) (s₁.setGen g gs'))
    (hP : ∀ s₁, P n (s.setGen g .running) s₁ → ∀ h', (∀ b o, s₁.heap.get? b = some o → h'.get? b = some o) → Q none { s₁.setGen g .finished with heap := h' }) :
    wpAny (model prog w) A (pyNext (.ref a)) Q E s := by
  refine next_of_wake hg (wake_goes (A := A.in1) hl hroom hg hgs hgo (fun x s₁ hx => ⟨hx.1, ?_⟩) fun v s₁ gs' hb hv => ⟨v, rfl, hY v s₁ gs' hb hv⟩)
  refine stop_made fun h' e o hk he hc => ?_
  intro α Q'
  exact wpAny_raiseNew_none hh ⟨e, o, rfl, he, hc, hP s₁ hx.2 h' hk⟩
end

/-- the generator a, number g, of frame C, stands before item j -/
def GenAt (W : Wd) (A : Around) (a : Addr) (g : Nat) (C n0 : Addr) (ys : List (Nat × Sg)) (j : Nat) (s : Shared) : Prop :=
  ∃ gs, s.gens[g]? = some gs ∧ gs.bare = true ∧ s.heap.IsGen a g ∧ (1 ≤ j → ∀ b ∈ [C, n0 + 1, n0], ∃ o, s.heap.get? b = some o) ∧
    ∀ s'' : Shared, (∀ b ∈ [C, n0 + 1, n0], ∀ o, s.heap.get? b = some o → s''.heap.get? b = some o) → (j = 0 → s''.heap.objs.size = n0) → (∀ b o, W.G.get? b = some o → s''.heap.get? b = some o) → AllBare s''.gens →
      gs.Goes (model W.prog W.w) A.in1 (gR [C, n0 + 1, n0]) (gY W [C, n0 + 1, n0] [C, n0 + 1, n0] ys) (ys.length - j) (.send .none) s''

section
variable {W : Wd} {A : Around} {a : Addr} {g : Nat} {C n0 : Addr} {ys : List (Nat × Sg)} {j : Nat} {s : Shared}

/-- what a step of the generator leaves -/
structure Stepped (C n0 : Addr) (g : Nat) (s s' : Shared) : Prop where
  heap : ∀ b o, b ∉ [C, n0 + 1, n0] → s.heap.get? b = some o → s'.heap.get? b = some o
  os : s'.os = s.os
  gk : ∀ (i : Nat) x, i ≠ g → s.gens[i]? = some x → s'.gens[i]? = some x
  bare : AllBare s.gens → AllBare s'.gens

theorem setGen_bare {s : Shared} {g : Nat} {gs : GenState} (h : AllBare s.gens) (hb : gs.bare = true) : AllBare (s.setGen g gs).gens := by
  intro y hy
  have : (s.setGen g gs).gens = s.gens.setIfInBounds g gs := rfl
  rw [this] at hy
  obtain ⟨i, hi, rfl⟩ := Array.mem_iff_getElem.mp hy
  have hi' : i < s.gens.size := by simpa using hi
  rw [Array.getElem_setIfInBounds hi']
  split
  · exact hb
  · exact h _ (Array.getElem_mem (by simpa using hi))
theorem setGen_ne {s : Shared} {g i : Nat} {gs : GenState} (h : i ≠ g) : (s.setGen g gs).gens[i]? = s.gens[i]? := by
  show (s.gens.setIfInBounds g gs)[i]? = _
  rw [Array.getElem?_setIfInBounds]
  simp [Ne.symm h]
theorem setGen_self {s : Shared} {g : Nat} {gs x : GenState} (h : s.gens[g]? = some x) : (s.setGen g gs).gens[g]? = some gs := by
  show (s.gens.setIfInBounds g gs)[g]? = _
  rw [Array.getElem?_setIfInBounds]
  have : g < s.gens.size := by
    by_cases hlt : g < s.gens.size
    · exact hlt
    · rw [Array.getElem?_eq_none (by omega)] at h; cases h
  simp [this]

theorem GenAt.item {E : Value → Shared → Prop} {Q : Option Value → Shared → Prop} (hA : AOk 0 A) (T : TopF W) (X : GenAt W A a g C n0 ys j s) (top : ∀ b o, W.G.get? b = some o → s.heap.get? b = some o) (gens : AllBare s.gens) (h0 : j = 0 → s.heap.objs.size = n0) (ha : a ∉ [C, n0 + 1, n0]) (hj : j < ys.length)
    (hQ : ∀ t o s', s'.heap.get? t = some o → tupOf ys[j] o → GenAt W A a g C n0 ys (j + 1) s' → Stepped C n0 g s s' → Q (some (.ref t)) s') : wpAny (model W.prog W.w) A (pyNext (.ref a)) Q E s := by
  obtain ⟨gs, hgs, hb, hg, hlv, hgo⟩ := X
  refine pyNext_gen hA.hh (T.nolimit.keeps top) hA.room hg hgs (hgo _ (fun _ _ _ e => e) h0 top (setGen_bare gens rfl)) (fun v s₁ gs' hb' hY => ?_) (fun s₁ hP h' hk => ?_)
  · obtain ⟨⟨p, t, o, e1, e2, e3, e4⟩, S, L, hκ⟩ := hY
    subst e2
    have hidx : ys.length - 1 - (ys.length - j - 1) = j := by omega
    rw [hidx, List.getElem?_eq_getElem hj] at e1
    have hp : ys[j] = p := Option.some.inj e1
    have hrun : s₁.gens[g]? = some .running := S.os.gk g _ (setGen_self hgs)
    refine hQ t o _ e3 (hp ▸ e4) ⟨gs', setGen_self hrun, hb', ?_, fun _ => L, fun s'' ag _ tp br => ?_⟩ ⟨fun b o hb e => S.heap b o hb e, S.os.os, fun i x hi e => ?_, fun h => setGen_bare (S.gens (setGen_bare h rfl)) hb'⟩
    · obtain ⟨ob, nm, qn, q1, q2⟩ := hg
      exact ⟨ob, nm, qn, S.heap _ _ ha q1, q2⟩
    · have := hκ s'' ag tp br
      obtain ⟨m, hm⟩ : ∃ m, ys.length - j = m + 1 := ⟨ys.length - j - 1, by omega⟩
      have hm' : ys.length - (j + 1) = m := by omega
      rw [hm'] 
      rw [hm] at this
      exact this
    · rw [setGen_ne hi]
      exact S.os.gk i x (by rw [setGen_ne hi]; exact e)
  · obtain ⟨e, _⟩ := hP
    omega

theorem GenAt.done {E : Value → Shared → Prop} {Q : Option Value → Shared → Prop} (hA : AOk 0 A) (T : TopF W) (X : GenAt W A a g C n0 ys j s) (top : ∀ b o, W.G.get? b = some o → s.heap.get? b = some o) (gens : AllBare s.gens) (h0 : j = 0 → s.heap.objs.size = n0) (hG : ∀ b ∈ [C, n0 + 1, n0], W.G.get? b = none) (hj : j = ys.length)
    (hQ : ∀ s', Stepped C n0 g s s' → Q none s') : wpAny (model W.prog W.w) A (pyNext (.ref a)) Q E s := by
  obtain ⟨gs, hgs, hb, hg, hlv, hgo⟩ := X
  refine pyNext_gen hA.hh (T.nolimit.keeps top) hA.room hg hgs (hgo _ (fun _ _ _ e => e) h0 top (setGen_bare gens rfl)) (fun v s₁ gs' hb' hY => ?_) (fun s₁ hP h' hk => ?_)
  · obtain ⟨_, S, _, hκ⟩ := hY
    have h0 : ys.length - j = 0 := by omega
    rw [h0] at hκ
    exact (hκ s₁ (fun _ _ _ e => e) (fun b o e => S.heap b o (fun hb => by rw [hG b hb] at e; cases e) (top b o e)) (S.gens (setGen_bare gens rfl))).elim
  · obtain ⟨e, S⟩ := hP
    exact hQ _ ⟨fun b o hb e => hk b o (S.heap b o hb e), S.os.os, fun i x hi e => by rw [setGen_ne hi]; exact S.os.gk i x (by rw [setGen_ne hi]; exact e), fun h => setGen_bare (S.gens (setGen_bare h rfl)) rfl⟩
end
end Mine

namespace Mine

structure Gs1 (W : Wd) (f : Addr) (o : Obj) (q : Str) (doc pm : Value) (an : Option Addr) (cd ct : Value) : Prop where
  ho : W.G.get? f = some o
  hdata : o.data = .func (mkfd (stAt 7) q .none .none doc pm an cd ct)
  hcd : W.G.CodeRec cd q

section
variable {W : Wd} {k : Nat} {f : Addr} {o : Obj} {q : Str} {doc pm : Value} {an : Option Addr} {cd ct : Value}

theorem GenAt.frame {A : Around} {a : Addr} {g : Nat} {C n0 : Addr} {ys : List (Nat × Sg)} {j : Nat} {s s' : Shared} (X : GenAt W A a g C n0 ys j s) (hj : 1 ≤ j) (hk : ∀ b ∈ a :: [C, n0 + 1, n0], ∀ o, s.heap.get? b = some o → s'.heap.get? b = some o) (hg : ∀ x, s.gens[g]? = some x → s'.gens[g]? = some x) : GenAt W A a g C n0 ys j s' := by
  obtain ⟨gs, h1, h2, h3, h4, h5⟩ := X
  refine ⟨gs, hg _ h1, h2, ?_, fun _ b hb => ?_, fun s'' ag _ tp br => h5 s'' (fun b hb o e => ag b hb o (hk b (.tail _ hb) o e)) (fun h => by omega) tp br⟩
  · obtain ⟨ob, nm, qn, q1, q2⟩ := h3
    exact ⟨ob, nm, qn, hk _ (.head _) _ q1, q2⟩
  · obtain ⟨o, e⟩ := h4 hj b hb
    exact ⟨o, hk b (.tail _ hb) o e⟩

theorem gen_call (T : TopF W) (G : Nm W) (X : Gs1 W f o q doc pm an cd ct) {A : Around} (hA : AOk (k + 2) A) {s : Shared} {E : Value → Shared → Prop} {Q : Value → Shared → Prop} (top : ∀ b o, W.G.get? b = some o → s.heap.get? b = some o) (gens : AllBare s.gens) {x : Sg} {t : Tok} (hx : escEnd false x = false)
    (hQ : ∀ C a g s', Kp s s' → s.heap.get? C = none → s.heap.get? a = none → s.gens[g]? = none → C < a → a < s'.heap.objs.size → s'.heap.IsGen a g → (∀ n0 s1, (∀ b o, s'.heap.get? b = some o → s1.heap.get? b = some o) → (s1.gens[g]? = s'.gens[g]?) → GenAt W A a g C n0 (escL 0 false x) 0 s1) → Q (.ref a) s') :
    wpAny (model W.prog W.w) A (call (.ref f) [.str (txt x) t]) Q E s := by
  have hb : BindsTo s (mkfd (stAt 7) q .none .none doc pm an cd ct) ⟨[.str (txt x) t], []⟩ [("addr", .str (txt x) t)] := BindsTo.of_eq rfl
  refine wpAny_call (codeAny_call_generator hA.room (top _ _ X.ho) X.hdata rfl rfl rfl (X.hcd.keeps top) (hb _ _ _ _ ?_))
  refine wpAny_newFunctionEnv (show ∀ x ∈ (scopeOf (stAt 7)).names, x.2 ≠ .cell by decide) (fun p hp => by rcases List.mem_cons.mp hp with rfl | h; rfl; cases h) (fun h0 hns0 hsb0 => ?_) rfl
  have hk0 : ∀ b o, s.heap.get? b = some o → h0.get? b = some o := fun b o e => hsb0.extBut b o (Nat.ne_of_lt (Heap.lt_size e)) (Heap.get?_push_of_some _ e)
  have hz0 : h0.objs.size = s.heap.objs.size + 1 := by rw [hsb0.1, Heap.size_push]
  have hC : s.heap.get? s.heap.objs.size = none := freshSize (Nat.le_refl _)
  have hGC : W.G.get? s.heap.objs.size = none := by
    cases e : W.G.get? s.heap.objs.size with
    | none => rfl
    | some o => exact absurd (Heap.lt_size (top _ _ e)) (Nat.lt_irrefl _)
  have Fs : (fx (mkfd (stAt 7) q .none .none doc pm an cd ct) f s.heap.objs.size N_gen).Ok W := {
    kind := rfl, glob := rfl, blt := rfl
    new := by rw [fx_mine]; intro a ha; rcases List.mem_cons.mp ha with rfl | h; exact hGC; cases h
    apart := fun i j x y b h => by simp [fx] at h
    offL := fun i x h => by simp [fx] at h
    names := fun i j x h1 h2 => nodup_inj (l := N_gen) (by decide) (by simpa [fx] using h1) (by simpa [fx] using h2)
    kindL := fun i x h => by
      have e1 : N_gen[i]? = some x := by simpa [fx] using h
      have hm := List.mem_of_getElem? e1
      have : ∀ x ∈ N_gen, (callEnv (mkfd (stAt 7) q .none .none doc pm an cd ct) s.heap.objs.size f).kindOf x = some .local := by
        intro x hx
        simp only [N_gen, List.mem_cons, List.not_mem_nil, or_false] at hx
        rcases hx with rfl | rfl | rfl | rfl <;> rfl
      exact this x hm
    kindC := fun i x b h => by simp [fx] at h }
  have R0 := Rel_init (W := W) (fd := mkfd (stAt 7) q .none .none doc pm an cd ct) (f := f) (names := N_gen) (s := s) (h0 := h0) (tk := s.toks + 1) (vs := [.str (txt x) t]) (Fs := [[]]) (avs := [.str x]) top gens hns0 hk0 (.cons (.str _ _) .nil) (by simp) (by simp) (by decide) (by show 1 ≤ 4; decide)
  have R0 : Rel W (fx (mkfd (stAt 7) q .none .none doc pm an cd ct) f s.heap.objs.size N_gen) [some (.str x), none, none, none] { s with heap := h0, toks := s.toks + 1 } _ _ := R0
  refine ⟨(T.nolimit.keeps top).keeps hk0, ?_⟩
  have hgn : s.gens[s.gens.size]? = none := Array.getElem?_eq_none (Nat.le_refl _)
  refine hQ s.heap.objs.size h0.objs.size s.gens.size _ ⟨fun b o e => Heap.get?_push_of_some _ (hk0 b o e), ⟨rfl, fun i x e => ?_⟩, fun h => h.push rfl⟩ hC (freshSize (by rw [hz0]; exact Nat.le_succ _)) hgn (by rw [hz0]; exact Nat.lt_succ_self _) (by rw [Heap.size_push]; exact Nat.lt_succ_self _) ⟨_, _, _, Heap.get?_push_size _ rfl, rfl, rfl, rfl⟩ fun n0 s1 hk1 hg1 => ?_
  · have hi : i < s.gens.size := by
      by_cases h : i < s.gens.size
      · exact h
      · rw [Array.getElem?_eq_none (by omega)] at e; cases e
    show (s.gens.push _)[i]? = some x
    rw [Array.getElem?_push, if_neg (Nat.ne_of_lt hi)]
    exact e
  · refine ⟨.fresh (.func (bodyOf (stAt 7)) (callEnv (mkfd (stAt 7) q .none .none doc pm an cd ct) s.heap.objs.size f)), hg1.trans (show (s.gens.push _)[s.gens.size]? = _ from Array.getElem?_push_size), rfl, ?_, fun h => by omega, fun s'' ag hsz tp br => ⟨rfl, ?_⟩⟩
    · exact ⟨_, _, _, hk1 _ _ (Heap.get?_push_size _ rfl), rfl, rfl, rfl⟩
    · have hsz := hsz rfl
      subst hsz
      have R2 := R0.re (s'' := s'') (L := s.heap.objs.size) (R0.flat rfl) (fun j y b h => by simp [fx] at h) rfl (fun o e => ag _ (.head _) o (hk1 _ o (Heap.get?_push_of_some _ e))) tp br
      exact gen_body (k := k) (A := A.in1) T G Fs ⟨hA.hh, by have := hA.dep; show A.depth + (k + 1) < _; omega, by have := hA.un; show A.units + 1 + _ < _; omega⟩ hx s'' _ _ R2
end
end Mine

namespace Mine
section
variable {W : Wd} {k : Nat} {c : Fx}

theorem Rel.hopS {σ : St} {s s' : Shared} {V : Nat → Value} {F : Nat → List Addr} (R : Rel W c σ s V F) {wr : List Addr} (h : ∀ b ∈ wr, b ∉ c.mine ∧ W.G.get? b = none ∧ ∀ i, b ∉ F i)
    (hk : ∀ b o, b ∉ wr → s.heap.get? b = some o → s'.heap.get? b = some o) (hg : AllBare s'.gens) : Rel W c σ s' V F := by
  have := R.hop (tk := s'.toks) h hk
  exact ⟨this.top, this.ns, this.cell, this.rep, this.nil, this.apart, this.off, hg, this.len⟩

theorem After.hopS {Wr : List Nat} {σ σ1 : St} {s s1 s2 : Shared} {V V1 : Nat → Value} {F F1 : Nat → List Addr} (X : After W c Wr σ s V F .next σ1 .next s1 V1 F1) {C n0 : Addr} {g : Nat} (S : Stepped C n0 g s1 s2)
    (h : ∀ b ∈ [C, n0 + 1, n0], b ∉ c.mine ∧ W.G.get? b = none ∧ ∀ i, b ∉ F1 i) (hn : ∀ b ∈ [C, n0 + 1, n0], s.heap.get? b = none) (hg : s.gens[g]? = none) : After W c Wr σ s V F .next σ1 .next s2 V1 F1 := by
  have nw : ∀ b o, s.heap.get? b = some o → b ∉ [C, n0 + 1, n0] := fun b o e hb => by rw [hn b hb] at e; cases e
  refine ⟨X.rel.hopS h S.heap (S.bare X.rel.gens), X.same, fun b o e hm hF => S.heap b o (nw b o e) (X.heap b o e hm hF), X.grow, fun b o e => ?_, ⟨S.os.trans X.os.os, fun i x e => ?_⟩, rfl⟩
  · obtain ⟨o', e'⟩ := X.old b o e
    exact ⟨o', S.heap b o' (nw b o e) e'⟩
  · refine S.gk i x (fun h => ?_) (X.os.gk i x e)
    subst h; rw [hg] at e; cases e

/-- a generator to walk over -/
def IG (W : Wd) (k : Nat) (c : Fx) (iter : Expr) (m : St → Option Sg) : Prop :=
  ∀ (A : Around), AOk k A → ∀ (σ : St) (s : Shared) (V : Nat → Value) (F : Nat → List Addr) (Q : Value → Shared → Prop) (E : Value → Shared → Prop) (x : Sg), Rel W c σ s V F → m σ = some x → escEnd false x = false →
    (∀ C a g s', Kp s s' → s.heap.get? C = none → s.heap.get? a = none → s.gens[g]? = none → C < a → a < s'.heap.objs.size → s'.heap.IsGen a g → (∀ n0 s1, (∀ b o, s'.heap.get? b = some o → s1.heap.get? b = some o) → (s1.gens[g]? = s'.gens[g]?) → GenAt W A a g C n0 (escL 0 false x) 0 s1) → Q (.ref a) s') →
    wpAny (model W.prog W.w) A (eval iter c.env) (fun xv s1 => wpAny (model W.prog W.w) A (pyIter xv) Q E s1) E s

theorem IG_call {f : Addr} {o : Obj} {q : Str} {doc pm : Value} {an : Option Addr} {cd ct : Value} {b : Bool} {e : Expr} {m : St → Option Sg} {p pos : Pos} (T : TopF W) (G : Nm W) (O : c.Ok W) (X : Gs1 W f o q doc pm an cd ct) (hg : W.mg "_iter_escaped_chars" = some (.ref f)) (hx : c.env.kindOf "_iter_escaped_chars" = some .globalImplicit)
    (h : SE W (k + 2) c b AV.str e m)
    (he : eval (.Call (.Name "_iter_escaped_chars" p) [e] [] pos) c.env = (do callWith pos (← eval (.Name "_iter_escaped_chars" p) c.env) [] (backTo pos (starEach [e] c.env)) (backToKw pos (keywordEach [] c.env))) := by rfl)
    (hs : ∀ rest, starEach (e :: rest) c.env = (false, eval e c.env) :: starEach rest c.env := by intro _; rfl) : IG W (k + 2) c (.Call (.Name "_iter_escaped_chars" p) [e] [] pos) m := by
  intro A hA σ s V F Q E x R hm hesc hQ
  refine Call_ (he := he) (wp_fn T O R hg hx ?_)
  refine callWith_def (he := hs _) X.hdata (args_cons (he := hs _) (h A hA σ s V F _ E x R hm fun v s1 F1 k1 r1 _ => args_nil ⟨(R.kp k1).top _ _ X.ho, ?_⟩))
  cases r1 with | str _ t =>
  refine gen_call (k := k) T G X hA (R.kp k1).top (R.kp k1).gens hesc fun C a g s' k2 h1 h2 h3 h4 h5 h6 h7 => ?_
  refine wpAny_pyIter_gen h6 (hQ C a g s' (k1.trans k2) (fresh_of k1 h1) (fresh_of k1 h2) ?_ h4 h5 h6 h7)
  cases e : s.gens[g]? with
  | none => rfl
  | some y => rw [k1.os.gk g y e] at h3; cases h3

def forGF (tp tc : Nat) (b : St → Option (Fl × St)) : List (Nat × Sg) → St → Option (Fl × St)
  | [], σ => some (.next, σ)
  | p :: r, σ => match b ((σ.set tp (some (.int (p.1 : Nat)))).set tc (some (.str p.2))) with
    | some (.next, σ') => forGF tp tc b r σ'
    | o => o
def forGM (tp tc : Nat) (mi : St → Option Sg) (b : St → Option (Fl × St)) (σ : St) : Option (Fl × St) := match mi σ with
  | some x => if escEnd false x then none else forGF tp tc b (escL 0 false x) σ
  | none => none

theorem letGo_gen {elts : List Expr} {kk : Nat} {tp : Pos} {a t : Addr} {g : Nat} {A : Around} {s : Shared} {Q : Unit → Shared → Prop} {E : Value → Shared → Prop} (hg : s.heap.IsGen a g) (hQ : Q () s) : wpAny (model W.prog W.w) A (letOwnedTupleGo (.Tuple elts kk tp) (.ref a) (.ref t)) Q E s := by
  obtain ⟨⟨oc, od, odat, osl⟩, nm, qn, ho, hc, hd, hs⟩ := hg
  simp only at hc hd hs
  subst hc hd hs
  unfold letOwnedTupleGo
  refine wpAny_bind (wpAny_load ho ?_)
  show wpAny _ A (if (["enumerate", "zip", "dict_itemiterator", "dict_reverseitemiterator", "odict_iterator", "itertools.zip_longest", "itertools.pairwise"].contains "generator" && _) = true then _ else _) Q E s
  rw [if_neg (by simp)]
  exact wpAny_pure hQ

theorem S1_forG {Wr : List Nat} {xp xc : Str} {pp pc tpos pos : Pos} {kk : Nat} {iter : Expr} {body : List Stmt} {mi : St → Option Sg} {b : St → Option (Fl × St)} (T : TopF W) (O : c.Ok W) (tp tc : Nat) {lp lc : Loc} (hlp : c.loc[tp]? = some lp) (hxp : lp.name = xp) (hlc : c.loc[tc]? = some lc) (hxc : lc.name = xc)
    (htp : tp ∈ Wr) (htc : tc ∈ Wr) (hcp : c.env.kindOf xp ≠ some .free) (hcc : c.env.kindOf xc ≠ some .free) (hi : IG W k c iter mi) (hb : SS W k c Wr body b) (hs : ∀ x, foldedSetIterable iter c.env x = pure x := by intro _; rfl) :
    S1 W k c Wr (.For (.Tuple [.Name xp pp, .Name xc pc] kk tpos) iter body [] pos) (forGM tp tc mi b) := by
  intro A hA σ s V F Q E f σ' R hm hQ
  unfold forGM at hm
  split at hm
  case h_2 => cases hm
  rename_i x ex
  split at hm
  case isTrue => cases hm
  rename_i hesc
  have hesc : escEnd false x = false := by simpa using hesc
  have hA0 : AOk 0 A := ⟨hA.hh, by have := hA.dep; omega, by have := hA.un; omega⟩
  refine wpAny_For (hi A hA σ s V F _ E x R ex hesc fun C a g s0 kp hC ha hg hCa hal hgen hG0 => ?_) hs
  generalize hys : escL 0 false x = ys at hm hG0
  generalize hn0 : s0.heap.objs.size = n0 at hal
  have hsn : ∀ b, n0 ≤ b → s.heap.get? b = none := fun b hb => by
    cases e : s.heap.get? b with
    | none => rfl
    | some o => exact absurd (Nat.lt_of_lt_of_le (Heap.lt_size (kp.heap _ _ e)) (hn0 ▸ hb)) (Nat.lt_irrefl _)
  have hfpn : ∀ b ∈ [C, n0 + 1, n0], s.heap.get? b = none := fun b hb => by
    rcases List.mem_cons.mp hb with rfl | hb
    · exact hC
    · rcases List.mem_cons.mp hb with rfl | hb
      · exact hsn _ (Nat.le_succ _)
      · rcases List.mem_cons.mp hb with rfl | hb
        · exact hsn _ (Nat.le_refl _)
        · cases hb
  have han : a ∉ [C, n0 + 1, n0] := fun hb => by
    rcases List.mem_cons.mp hb with rfl | hb
    · exact Nat.lt_irrefl _ hCa
    · rcases List.mem_cons.mp hb with rfl | hb
      · exact Nat.lt_irrefl _ (Nat.lt_of_le_of_lt (Nat.le_succ _) hal)
      · rcases List.mem_cons.mp hb with rfl | hb
        · exact Nat.lt_irrefl _ hal
        · cases hb
  have hpn : ∀ b ∈ a :: [C, n0 + 1, n0], s.heap.get? b = none := fun b hb => by
    rcases List.mem_cons.mp hb with rfl | hb
    · exact ha
    · exact hfpn b hb
  refine codeAny_forLoop_any (fun n s' => ∃ j σj Vj Fj, n = ys.length - j ∧ j ≤ ys.length ∧ GenAt W A a g C n0 ys j s' ∧ (j = 0 → s'.heap.objs.size = n0) ∧ After W c Wr σ s V F .next σj .next s' Vj Fj ∧ (∀ b ∈ a :: [C, n0 + 1, n0], ∀ i, b ∉ Fj i) ∧ forGF tp tc b (ys.drop j) σj = some (f, σ')) ?_ ys.length
    ⟨0, σ, V, F, rfl, Nat.zero_le _, hG0 n0 s0 (fun _ _ e => e) rfl, fun _ => hn0, (After.refl (R.kp kp)).pre kp R, fun b hb i => (R.fresh (hpn b hb)).2.2 i, hm⟩
  rintro n s' ⟨j, σj, Vj, Fj, rfl, hj, GA, hsz, X, hfj, hw⟩
  have hfp : ∀ b ∈ [C, n0 + 1, n0], b ∉ c.mine ∧ W.G.get? b = none ∧ ∀ i, b ∉ Fj i := fun b hb => ⟨(R.fresh (hfpn b hb)).1, (R.fresh (hfpn b hb)).2.1, fun i => hfj b (.tail _ hb) i⟩
  by_cases hlt : j < ys.length
  · refine GenAt.item hA0 T GA X.rel.top X.rel.gens hsz han hlt fun t o s1 ht hto GA1 S1 => ?_
    obtain ⟨u1, u2, m, rfl⟩ := hto
    have X1 := X.hopS S1 hfp hfpn hg
    rw [List.drop_eq_getElem_cons hlt] at hw
    unfold forGF at hw
    have hgen1 : s1.heap.IsGen a g := by obtain ⟨_, _, _, h, _⟩ := GA1; exact h
    refine letGo_gen hgen1 ?_
    refine wpAny_assign_Tuple hA.hh ⟨_, ht, rfl, _, rfl⟩ rfl rfl fun h2 hx2 => ?_
    replace hx2 : Heap.ExtBut s1.heap.objs.size s1.heap h2 := hx2
    have k2 : Kp s1 { s1 with heap := h2 } := ⟨fun b o e => hx2 b o (Nat.ne_of_lt (Heap.lt_size e)) e, .rf, id⟩
    have R2 := X1.rel.kp k2
    show wpAny _ _ (do holding [_] (assign (.Name xp pp) c.env _); do holding [] (assign (.Name xc pc) c.env _); pure ()) _ _ _
    refine wpAny_bind (wpAny_holding (wpAny_assign_Name (wp_store (F₁ := []) (av := .int ((ys[j].1 : Nat) : Int)) O hlp hxp hcp R2 (.int _ _) (fun y hy => nomatch hy) fun s3 R3 B3 => ?_)))
    refine wpAny_bind (wpAny_holding (wpAny_assign_Name (wp_store (F₁ := []) (av := .str ys[j].2) O hlc hxc hcc R3 (.str _ _) (fun y hy => nomatch hy) fun s4 R4 B4 => wpAny_pure ?_)))
    have Y3 := After.store (Wr := Wr) (F₁ := []) htp k2 (fun y hy => nomatch hy) R3 B3
    have Y4 := After.store (Wr := Wr) (F₁ := []) htc (Kp.refl s3) (fun y hy => nomatch hy) R4 B4
    have Y := Y3.trans Y4
    cases hbσ : b ((σj.set tp (some (.int ((ys[j].1 : Nat) : Int)))).set tc (some (.str ys[j].2))) with
    | none => rw [hbσ] at hw; cases hw
    | some r =>
      obtain ⟨f2, σ2⟩ := r
      rw [hbσ] at hw
      refine hb A hA _ s4 _ _ _ _ f2 σ2 R4 hbσ fun fl s5 V5 F5 Z => ?_
      have YZ := Y.trans Z
      have XZ := X1.trans YZ
      have hf := Z.flow
      cases f2 with
      | next =>
        have : fl = .next := hf
        subst this
        have hlive : ∀ b ∈ a :: [C, n0 + 1, n0], ∃ o, s1.heap.get? b = some o := fun b hb => by
          obtain ⟨_, _, _, _, h4, _⟩ := GA1
          rcases List.mem_cons.mp hb with rfl | hb
          · obtain ⟨ob, _, _, e, _⟩ := hgen1; exact ⟨ob, e⟩
          · exact h4 (Nat.succ_le_succ (Nat.zero_le _)) b hb
        have hkeep : ∀ b ∈ a :: [C, n0 + 1, n0], ∀ o, s1.heap.get? b = some o → s5.heap.get? b = some o := fun b hb o e =>
          YZ.heap b o e (R.fresh (hpn b hb)).1 fun i _ => hfj b hb i
        refine ⟨ys.length - (j + 1), by omega, j + 1, σ2, V5, F5, rfl, hlt, GA1.frame (Nat.succ_le_succ (Nat.zero_le _)) hkeep (fun x e => YZ.os.gk g x e), fun h => (by omega), XZ, fun b hb i hm => ?_, hw⟩
        by_cases hiw : i ∈ Wr
        · rcases YZ.grow i hiw b hm with ⟨i', _, hm'⟩ | h
          · exact hfj b hb i' hm'
          · obtain ⟨o, e⟩ := hlive b hb
            rw [e] at h; cases h
        · rw [(YZ.same i hiw).2.1] at hm
          exact hfj b hb i hm
      | ret av => obtain ⟨v, Fr, e1, _⟩ := hf; subst e1; cases hw; exact hQ _ _ _ _ XZ
      | rets j' => obtain ⟨e1, _⟩ := hf; subst e1; cases hw; exact hQ _ _ _ _ XZ
  · have hjn : j = ys.length := by omega
    subst hjn
    rw [List.drop_length] at hw
    cases hw
    refine GenAt.done hA0 T GA X.rel.top X.rel.gens hsz (fun b hb => (hfp b hb).2.1) rfl fun s1 S1 => ?_
    exact wpAny_execs_nil (hQ _ _ _ _ (X.hopS S1 hfp hfpn hg))
end
end Mine

namespace Mine
section
variable {W : Wd} {k : Nat} {c : Fx}

/-- a comprehension's frame: its own names first, then the outer slots caps -/
def cfx (env : Env) (own : List Str) (caps : List Loc) : Fx := ⟨env, own.map .ns ++ caps⟩

structure CapOk (c : Fx) (env : Env) (own : List Str) (caps : List Nat) (locs : List Loc) : Prop where
  kind : env.scope.kind = .function
  glob : env.globals = mainGlobals
  blt : env.builtins = builtinsNs
  same : ∀ (j : Nat) l, locs[j]? = some l → ∃ i y b, caps[j]? = some i ∧ l = .cell y b ∧ c.loc[i]? = some (.cell y b) ∧ (env.kindOf y = some .cell ∨ env.kindOf y = some .free) ∧ env.cells.lookup y = some b
  len : locs.length = caps.length
  nd : caps.Nodup
  ownK : ∀ x ∈ own, env.kindOf x = some .local
  ond : own.Nodup

theorem cfx_at {env : Env} {own : List Str} {locs : List Loc} {i : Nat} {l : Loc} (h : (cfx env own locs).loc[i]? = some l) : (∃ x, own[i]? = some x ∧ l = .ns x) ∨ (own.length ≤ i ∧ locs[i - own.length]? = some l) := by
  unfold cfx at h
  by_cases hi : i < own.length
  · rw [List.getElem?_append_left (by simpa using hi)] at h
    rw [List.getElem?_map] at h
    cases e : own[i]? with
    | none => rw [e] at h; cases h
    | some x => rw [e] at h; exact .inl ⟨x, rfl, (Option.some.inj h).symm⟩
  · rw [List.getElem?_append_right (by simpa using hi)] at h
    exact .inr ⟨by omega, by simpa using h⟩

theorem cfx_ok {env : Env} {own : List Str} {caps : List Nat} {locs : List Loc} (O : c.Ok W) (X : CapOk c env own caps locs) (hL : W.G.get? env.locals = none) (hLc : ∀ a ∈ c.mine, a ≠ env.locals) : (cfx env own locs).Ok W where
  kind := X.kind
  glob := X.glob
  blt := X.blt
  new := fun a ha => by
    rcases List.mem_cons.mp ha with rfl | ha
    · exact hL
    · obtain ⟨l, hl, e⟩ := List.mem_filterMap.mp ha
      obtain ⟨i, hi⟩ := List.getElem?_of_mem hl
      rcases cfx_at hi with ⟨x, _, rfl⟩ | ⟨_, h⟩
      · cases e
      · obtain ⟨i', y, b, _, rfl, h2, _⟩ := X.same _ _ h
        cases e
        exact O.new _ (.tail _ (List.mem_filterMap.mpr ⟨_, List.mem_of_getElem? h2, rfl⟩))
  apart := fun i j x y b h1 h2 => by
    rcases cfx_at h1 with ⟨x', _, h⟩ | ⟨g1, h1⟩
    · cases h
    rcases cfx_at h2 with ⟨x', _, h⟩ | ⟨g2, h2⟩
    · cases h
    obtain ⟨i1, y1, b1, p1, q1, r1, _⟩ := X.same _ _ h1
    obtain ⟨i2, y2, b2, p2, q2, r2, _⟩ := X.same _ _ h2
    cases q1; cases q2
    have := O.apart i1 i2 _ _ _ r1 r2
    subst this
    have := nodup_inj X.nd p1 p2
    omega
  offL := fun i x h => by
    rcases cfx_at h with ⟨x', _, h⟩ | ⟨_, h⟩
    · cases h
    obtain ⟨i1, y1, b1, p1, q1, r1, _⟩ := X.same _ _ h
    cases q1
    exact hLc _ (.tail _ (List.mem_filterMap.mpr ⟨_, List.mem_of_getElem? r1, rfl⟩)) rfl
  names := fun i j x h1 h2 => by
    rcases cfx_at h1 with ⟨x', e1, h⟩ | ⟨g1, h1⟩
    · cases h
      rcases cfx_at h2 with ⟨x', e2, h⟩ | ⟨g2, h2⟩
      · cases h; exact nodup_inj X.ond e1 e2
      · obtain ⟨i2, y2, b2, p2, q2, _⟩ := X.same _ _ h2; cases q2
    · obtain ⟨i2, y2, b2, p2, q2, _⟩ := X.same _ _ h1; cases q2
  kindL := fun i x h => by
    rcases cfx_at h with ⟨x', e1, h⟩ | ⟨g1, h1⟩
    · cases h; exact X.ownK x (List.mem_of_getElem? e1)
    · obtain ⟨i2, y2, b2, p2, q2, _⟩ := X.same _ _ h1; cases q2
  kindC := fun i x b h => by
    rcases cfx_at h with ⟨x', e1, h⟩ | ⟨g1, h1⟩
    · cases h
    · obtain ⟨i2, y2, b2, p2, q2, r2, k2⟩ := X.same _ _ h1; cases q2; exact k2

/-- what the comprehension's frame holds -/
def capSt (own : List AV) (caps : List Nat) (σ : St) : St := own.map some ++ caps.map fun i => (σ[i]?).getD none

theorem capSt_own {own : List AV} {caps : List Nat} {σ : St} {i : Nat} (h : i < own.length) : (capSt own caps σ)[i]? = some (own[i]?) := by
  unfold capSt
  rw [List.getElem?_append_left (by simpa using h), List.getElem?_map, List.getElem?_eq_getElem h]; rfl
theorem capSt_cap {own : List AV} {caps : List Nat} {σ : St} {i : Nat} {av : AV} (h : own.length ≤ i) : (capSt own caps σ)[i]? = some (some av) ↔ ∃ j, caps[i - own.length]? = some j ∧ σ[j]? = some (some av) := by
  unfold capSt
  rw [List.getElem?_append_right (by simpa using h), List.getElem?_map, List.length_map]
  cases e : caps[i - own.length]? with
  | none => simp
  | some j => cases e2 : σ[j]? <;> simp [e2]

theorem cap_rel {env : Env} {own : List Str} {caps : List Nat} {locs : List Loc} (X : CapOk c env own caps locs) {σ : St} {s : Shared} {V : Nat → Value} {F : Nat → List Addr} (R : Rel W c σ s V F) {m : Str → Option Value} (hn : s.heap.Ns env.locals m) (hLF : ∀ i, env.locals ∉ F i)
    {ovs : List Value} {oavs : List AV} (hlen : oavs.length = own.length) (hov : ∀ (i : Nat) x, own[i]? = some x → m x = some (ovs[i]?.getD .none)) (hrep : ∀ (i : Nat) av, oavs[i]? = some av → Rep W.C s.heap [] (ovs[i]?.getD .none) av) :
    Rel W (cfx env own locs) (capSt oavs caps σ) s (fun i => if i < own.length then ovs[i]?.getD .none else match caps[i - own.length]? with | some j => V j | none => .none)
      (fun i => if i < own.length then [] else match caps[i - own.length]? with | some j => F j | none => []) := by
  have hlow : ∀ (i : Nat) av, i < own.length → (capSt oavs caps σ)[i]? = some (some av) → oavs[i]? = some av := fun i av hi e => by
    rw [capSt_own (by omega)] at e; exact Option.some.inj e
  have hFF : ∀ (i : Nat) a, a ∈ (if i < own.length then [] else match caps[i - own.length]? with | some j => F j | none => []) → own.length ≤ i ∧ ∃ j, caps[i - own.length]? = some j ∧ a ∈ F j := fun i a h => by
    by_cases hi : i < own.length
    · rw [if_pos hi] at h; cases h
    · rw [if_neg hi] at h
      cases e : caps[i - own.length]? with
      | none => rw [e] at h; cases h
      | some j => rw [e] at h; exact ⟨by omega, j, rfl, h⟩
  refine ⟨R.top, ⟨m, hn, fun i x av h1 h2 => ?_⟩, fun i x b h => ?_, fun i av e => ?_, fun i h => ?_, fun i i' hii a ha hb => ?_, fun i a ha => ?_, R.gens, ?_⟩
  · rcases cfx_at h1 with ⟨x', e1, h⟩ | ⟨g1, h1⟩
    · cases h
      have hi := (List.getElem?_eq_some_iff.mp e1).1
      simp only [hi, if_true]
      exact hov i x e1
    · obtain ⟨i2, y2, b2, p2, q2, _⟩ := X.same _ _ h1; cases q2
  · rcases cfx_at h with ⟨x', e1, h⟩ | ⟨g1, h1⟩
    · cases h
    · obtain ⟨i2, y2, b2, p2, q2, r2, _⟩ := X.same _ _ h1
      cases q2
      obtain ⟨o, hc, ho⟩ := R.cell i2 _ _ r2
      refine ⟨o, hc, fun av e => ?_⟩
      rw [capSt_cap (by omega)] at e
      obtain ⟨j, hj, e⟩ := e
      rw [hlen] at hj
      rw [p2] at hj
      cases hj
      have hi : ¬ i < own.length := by omega
      simp only [hi, if_false, p2]
      exact ho av e
  · by_cases hi : i < own.length
    · simp only [hi, if_true]
      exact hrep i av (hlow i av hi e)
    · rw [capSt_cap (by omega)] at e
      obtain ⟨j, hj, e⟩ := e
      rw [hlen] at hj
      simp only [hi, if_false, hj]
      exact R.rep j av e
  · by_cases hi : i < own.length
    · simp only [hi, if_true]
    · simp only [hi, if_false]
      cases e : caps[i - own.length]? with
      | none => rfl
      | some j => exact R.nil j fun av e2 => h av ((capSt_cap (by omega)).mpr ⟨j, by rw [hlen]; exact e, e2⟩)
  · obtain ⟨g1, j1, p1, q1⟩ := hFF i a ha
    obtain ⟨g2, j2, p2, q2⟩ := hFF i' a hb
    have hne : j1 ≠ j2 := fun h => by
      subst h
      have := nodup_inj X.nd p1 p2
      omega
    exact R.apart j1 j2 hne a q1 q2
  · obtain ⟨g1, j1, p1, q1⟩ := hFF i a ha
    refine ⟨fun hm => ?_, (R.off j1 a q1).2⟩
    rcases List.mem_cons.mp hm with rfl | hm
    · exact hLF j1 q1
    · obtain ⟨l, hl, e⟩ := List.mem_filterMap.mp hm
      obtain ⟨i3, hi3⟩ := List.getElem?_of_mem hl
      rcases cfx_at hi3 with ⟨x, _, rfl⟩ | ⟨_, h⟩
      · cases e
      · obtain ⟨i', y, b, _, rfl, h2, _⟩ := X.same _ _ h
        cases e
        exact (R.off j1 _ q1).1 (.tail _ (List.mem_filterMap.mpr ⟨_, List.mem_of_getElem? h2, rfl⟩))
  · show (capSt oavs caps σ).length = (own.map Loc.ns ++ locs).length
    unfold capSt
    simp [hlen, X.len]
end
end Mine

namespace Mine
section
variable {W : Wd} {k : Nat} {c : Fx}

/-- a comprehension's tests -/
def CT (W : Wd) (k : Nat) (c : Fx) (ifs : List Expr) (m : St → Option Bool) : Prop :=
  ∀ (A : Around), AOk k A → ∀ (σ : St) (s : Shared) (V : Nat → Value) (F : Nat → List Addr) (Q : Bool → Shared → Prop) (E : Value → Shared → Prop) (b : Bool),
    Rel W c σ s V F → m σ = some b → (∀ s', Kp s s' → Q b s') →
    wpAny (model W.prog W.w) A (forIn ifs true fun e r => if r = true then do let ok ← isTrue e c.env (eval e c.env); pure (ForInStep.yield ok) else pure (ForInStep.yield r)) Q E s
theorem CT_nil : CT W k c [] (fun _ => some true) := by
  intro A hA σ s V F Q E b R hm hQ
  cases hm
  exact wpAny_pure (hQ s (Kp.refl s))
theorem CT_one {t : Expr} {m : St → Option Bool} (h : ST W k c t m) : CT W k c [t] m := by
  intro A hA σ s V F Q E b R hm hQ
  simp only [List.forIn_cons, List.forIn_nil, if_true, bind_assoc]
  refine wpAny_bind (h A hA σ s V F _ E b R hm fun s' kp => ?_)
  exact wpAny_pure (hQ s' kp)

def compL {α β : Type} (inj : α → AV) (caps : List Nat) (mt : St → Option Bool) (m2 : St → Option β) (σ : St) : List α → Option (List β)
  | [] => some []
  | x :: r => match mt (capSt [inj x] caps σ) with
    | some true => match m2 (capSt [inj x] caps σ) with
      | some y => match compL inj caps mt m2 σ r with
        | some ys => some (y :: ys)
        | none => none
      | none => none
    | some false => compL inj caps mt m2 σ r
    | none => none

theorem ValsAre.snoc {α : Type} {inj : α → AV} {v : Value} {a : α} (h : ∀ C h, Rep C h [] v (inj a)) : ∀ {vs : List Value} {as : List α}, ValsAre inj vs as → ValsAre inj (vs ++ [v]) (as ++ [a])
  | _, _, .nil => .cons h .nil
  | _, _, .cons h' r => .cons h' (r.snoc h)
theorem ValsAre.len {α : Type} {inj : α → AV} : ∀ {vs : List Value} {as : List α}, ValsAre inj vs as → vs.length = as.length
  | _, _, .nil => rfl
  | _, _, .cons _ r => by simp [r.len]

theorem comp_run {α β : Type} {inj : α → AV} {inj2 : β → AV} {elt iter : Expr} {x : Str} {px : Pos} {ifs : List Expr} {scope : Scope} {cl : List (Str × Addr)} {pos : Pos} {mi : St → Option (List α)} {mt : St → Option Bool} {m2 : St → Option β} {caps : List Nat} {locs : List Loc} {b2 : Bool}
    (O : c.Ok W) (hi : IT W k c [] inj iter mi) (hsc : Scal' inj2) (hcell : ∀ y ∈ scope.names, y.2 ≠ .cell) (hkind : scope.kind = .function) (hx : scope.names.lookup x = some .local)
    (hC : ∀ Cx, CapOk c (compEnvC scope cl Cx c.env) [x] caps locs)
    (hT : ∀ Cx, (cfx (compEnvC scope cl Cx c.env) [x] locs).Ok W → CT W k (cfx (compEnvC scope cl Cx c.env) [x] locs) ifs mt)
    (hE : ∀ Cx, (cfx (compEnvC scope cl Cx c.env) [x] locs).Ok W → SE W k (cfx (compEnvC scope cl Cx c.env) [x] locs) b2 inj2 elt m2)
    {A : Around} (hA : AOk k A) {σ : St} {s : Shared} {V : Nat → Value} {F : Nat → List Addr} {E : Value → Shared → Prop} {RR : Value → Addr → Result → Shared → Prop} {xs : List α} {ys : List β} (R : Rel W c σ s V F) (hm : mi σ = some xs) (hl : compL inj caps mt m2 σ xs = some ys)
    (hRR : ∀ D C s' vs m', Kp s s' → s.heap.get? D = none → s.heap.get? C = none → D ≠ C → s'.heap.PlainList D vs.toArray → ValsAre inj2 vs ys → s'.heap.Ns C m' → RR (.ref D) C (.ok .next) s') :
    wpAny (model W.prog W.w) A (eval iter c.env) (fun xv s₁ => wpAny (model W.prog W.w) A (pyIter xv) (fun it s₂ => wpAny (model W.prog W.w) A (newList []) (fun acc s₃ => wpAny (model W.prog W.w) A (newFunctionEnv scope c.env.globals cl [] c.env.qual none .none (some c.env)) (fun cenv s₄ =>
      codeAny (model W.prog W.w) A (.compStart (.ListComp elt [⟨.Name x px, iter, ifs, 0⟩] scope pos) 0 it acc { cenv with scope := relabel scope c.env }) (RR acc cenv.locals) s₄) E s₃) E s₂) E s₁) E s := by
  refine hi A hA σ s V F _ E xs R hm fun I fp wr P St s2 Wk kp st0 live hP hwr hfp hz => ?_
  have kAll : ∀ b, s2.heap.objs.size ≤ b → s.heap.get? b = none := fun b hb => by
    cases e : s.heap.get? b with
    | none => rfl
    | some o => exact absurd (Nat.lt_of_lt_of_le (Heap.lt_size (kp.heap _ _ e)) hb) (Nat.lt_irrefl _)
  refine wpAny_newObj_type (wpAny_newFunctionEnv hcell (by intro y hy; simp at hy) (fun h₁ hns₁ hsb₁ => ?_) hkind)
  dsimp only at hns₁ hsb₁ ⊢
  generalize hH2 : s2.heap.push { cls := .type "list", dict := none, data := .seq ([] : List Value).toArray } = H2 at hns₁ hsb₁ ⊢
  generalize hD : s2.heap.objs.size = D at *
  generalize hCx : H2.objs.size = Cx at *
  have hCD : Cx = D + 1 := by rw [← hCx, ← hH2, Heap.size_push, hD]
  have hDC : D ≠ Cx := by rw [hCD]; exact Nat.ne_of_lt (Nat.lt_succ_self _)
  have below : ∀ b o, s2.heap.get? b = some o → b ≠ Cx ∧ b ≠ D := fun b o e => by
    have := Heap.lt_size e
    rw [hD] at this
    exact ⟨by rw [hCD]; exact Nat.ne_of_lt (Nat.lt_succ_of_lt this), Nat.ne_of_lt this⟩
  have old : ∀ b o, s2.heap.get? b = some o → h₁.get? b = some o := fun b o e => hsb₁.extBut b o (below b o e).1 (Heap.get?_push_of_some _ (hH2 ▸ Heap.get?_push_of_some _ e))
  have hacc : h₁.PlainList D #[] := ⟨_, hsb₁.extBut _ _ hDC (Heap.get?_push_of_some _ (hH2 ▸ hD ▸ Heap.get?_push_size _ rfl))⟩
  have hDn : s.heap.get? D = none := kAll D (Nat.le_refl _)
  have hCn : s.heap.get? Cx = none := kAll Cx (by rw [hCD]; exact Nat.le_succ _)
  have hfpDC : ∀ b ∈ fp, b ≠ Cx ∧ b ≠ D := fun b hb => by
    obtain ⟨o, e⟩ := live _ _ st0 b hb
    exact below b o e
  have OC : (cfx (compEnvC scope cl Cx c.env) [x] locs).Ok W := cfx_ok O (hC Cx) (R.fresh hCn).2.1 fun a ha h => (R.fresh hCn).1 (by rw [← show a = Cx from h]; exact ha)
  have K1 : Kp s { s2 with heap := h₁, toks := s2.toks + ([] : List (Str × Value)).length } := kp.trans (Kp.of old)
  have st1 : St 0 h₁ := Wk.frame _ _ _ st0 fun b _ o e => old b o e
  have loop : ∀ s₃ : Shared, s₃ = { s2 with heap := h₁, toks := s2.toks + ([] : List (Str × Value)).length } →
      codeAny (model W.prog W.w) A (.compLoop (.ListComp elt [⟨.Name x px, iter, ifs, 0⟩] scope pos) 0 (.ref I) (.ref D) (compEnvC scope cl Cx c.env)) (RR (.ref D) Cx) s₃ := by
    rintro s₃ rfl
    refine codeAny_compLoop_tests (fun n s' => ∃ (j : Nat) (m : Str → Option Value) (vs : List Value) (ws zs : List β), n = xs.length - j ∧ j ≤ xs.length ∧ Kp s s' ∧ St j s'.heap ∧ s'.heap.Ns Cx m ∧ s'.heap.PlainList D vs.toArray ∧ ValsAre inj2 vs ws ∧ ws.length ≤ j ∧ compL inj caps mt m2 σ (xs.drop j) = some zs ∧ ys = ws ++ zs) ?_ xs.length
      ⟨0, _, [], [], ys, rfl, Nat.zero_le _, K1, st1, hns₁, hacc, .nil, Nat.le_refl _, hl, rfl⟩
    rintro n s' ⟨j, m, vs, ws, zs, rfl, hj, K, st, hn, hacc, hv, hwj, hzs, hys⟩
    have hwrn : ∀ b ∈ wr, b ≠ Cx ∧ b ≠ D := fun b hb => hfpDC b (Wk.sub b hb)
    by_cases hlt : j < xs.length
    · refine Wk.item j s' _ _ hlt st fun v h2 tk2 hPv st2 hk2 => ?_
      obtain ⟨a, ha, hr⟩ := hP j v hlt hPv
      have haj : xs[j] = a := by rw [List.getElem?_eq_getElem hlt] at ha; exact Option.some.inj ha
      rw [List.drop_eq_getElem_cons hlt, haj] at hzs
      have hn2 : h2.Ns Cx m := hn.at' fun o e => hk2 _ o (fun h => (hwrn _ h).1 rfl) e
      refine wpAny_assign_Name (wpAny_storeName_local (lookup_relabel_local hx) hn2 (fun h3 hn3 hs3 => ?_) (by simp [compEnvC, relabel, hkind]))
      replace hs3 : Heap.SameBut Cx h2 h3 := hs3
      have K3 : Kp s { s' with heap := h3, toks := tk2 + 1 } := K.trans ⟨fun b o e => e, .rf, id⟩ |>.trans (by exact Kp.refl _) |> fun _ => ⟨fun b o e => hs3.extBut b o (fun h => by rw [h, hCn] at e; cases e) (hk2 b o (fun h => by rw [hwr b h] at e; cases e) (K.heap b o e)), K.os.hp, K.gens⟩
      have st3 : St (j + 1) h3 := Wk.frame _ _ _ st2 fun b hb o e => hs3.extBut b o (hfpDC b hb).1 e
      have hacc3 : h3.PlainList D vs.toArray := (hacc.at fun o e => hk2 _ o (fun h => (hwrn _ h).2 rfl) e).extBut hs3.extBut hDC
      have R3 := R.kp K3
      have RC := cap_rel (hC Cx) R3 hn3 (fun i h => (R.fresh hCn).2.2 i h) (ovs := [v]) (oavs := [inj a]) rfl (fun i y e => by
          cases i with
          | zero => simp at e; subst e; simp
          | succ i => simp at e) (fun i av e => by
          cases i with
          | zero => simp at e; subst e; exact hr _ _
          | succ i => simp at e)
      unfold compL at hzs
      cases hmt : mt (capSt [inj a] caps σ) with
      | none => rw [hmt] at hzs; cases hzs
      | some b =>
        refine hT Cx OC A hA _ _ _ _ _ _ b RC hmt fun s4 k4 => ?_
        have K4 := K3.trans k4
        have st4 : St (j + 1) s4.heap := Wk.frame _ _ _ st3 fun b _ o e => k4.heap b o e
        have hn4 := hn3.keeps k4.heap
        have hacc4 := hacc3.at fun o e => k4.heap D o e
        cases b with
        | false =>
          rw [hmt] at hzs
          simp only [Bool.false_eq_true, if_false]
          exact ⟨xs.length - (j + 1), by omega, j + 1, _, vs, ws, zs, rfl, hlt, K4, st4, hn4, hacc4, hv, Nat.le_succ_of_le hwj, hzs, hys⟩
        | true =>
          rw [hmt] at hzs
          simp only [if_true]
          cases hm2 : m2 (capSt [inj a] caps σ) with
          | none => simp only [hm2] at hzs; cases hzs
          | some y =>
            simp only [hm2] at hzs
            split at hzs
            case h_2 => cases hzs
            rename_i zs' hz'
            cases hzs
            refine hE Cx OC A hA _ _ _ _ _ _ y (RC.kp k4) hm2 fun u s5 F5 k5 r5 _ => ?_
            have K5 := K4.trans k5
            have hlen := hv.len
            refine wpAny_list_append_plain (hsz := by simp only [List.size_toArray]; have := tLine_le; omega) (hacc4.at fun o e => k5.heap D o e) fun h6 hl6 hs6 => ?_
            refine ⟨xs.length - (j + 1), by omega, j + 1, _, vs ++ [u], ws ++ [y], zs', rfl, hlt, ⟨fun b o e => hs6.extBut b o (fun h => by rw [h, hDn] at e; cases e) (K5.heap b o e), K5.os.hp, K5.gens⟩, Wk.frame _ _ _ st4 fun b hb o e => hs6.extBut b o (hfpDC b hb).2 (k5.heap b o e), (hn4.keeps k5.heap).sameBut hs6 (Ne.symm hDC), by simpa using hl6, hv.snoc (hsc _ _ _ _ _ r5), by simp; omega, hz', by rw [hys, List.append_assoc]; rfl⟩
    · have hjn : j = xs.length := by omega
      subst hjn
      rw [List.drop_length] at hzs
      cases hzs
      refine Wk.done s' _ _ st fun h2 tk2 hk2 => ?_
      rw [List.append_nil] at hys
      subst hys
      exact hRR D Cx _ vs m ⟨fun b o e => hk2 b o (fun h => by rw [hwr b h] at e; cases e) (K.heap b o e), K.os.hp, K.gens⟩ hDn hCn hDC (hacc.at fun o e => hk2 D o (fun h => (hwrn _ h).2 rfl) e) hv (hn.at' fun o e => hk2 _ o (fun h => (hwrn _ h).1 rfl) e)
  exact codeAny_compStart_list (loop _ rfl) (Wk.self 0 _ _ _ st1 (loop _ rfl))

/-- the list that a comprehension makes -/
structure Mk {β : Type} (T2 : Ty (List β)) (inj2 : β → AV) : Prop where
  is : ∀ {C : Addr} {h : Heap} {D : Addr} {vs : List Value} {ys : List β}, h.PlainList D vs.toArray → ValsAre inj2 vs ys → Rep C h [D] (.ref D) (T2.inj ys)
theorem mk_il : Mk tIl AV.int := ⟨fun p v => .il p (ints_of_vals v)⟩
theorem mk_sl : Mk tSl AV.str := ⟨fun p v => .sl p (strs_of_vals v)⟩

def compM {α β : Type} (inj : α → AV) (caps : List Nat) (mi : St → Option (List α)) (mt : St → Option Bool) (m2 : St → Option β) (σ : St) : Option (List β) := match mi σ with
  | some xs => compL inj caps mt m2 σ xs
  | none => none

theorem SE_comp {α β : Type} {inj : α → AV} {inj2 : β → AV} {T2 : Ty (List β)} {elt iter : Expr} {x : Str} {px : Pos} {ifs : List Expr} {scope : Scope} {cl : List (Str × Addr)} {pos : Pos} {mi : St → Option (List α)} {mt : St → Option Bool} {m2 : St → Option β} {caps : List Nat} {locs : List Loc} {b2 : Bool}
    (M : Mk T2 inj2) (hsc : Scal' inj2) (O : c.Ok W) (hi : IT W k c [] inj iter mi) (hclos : closureFor scope c.env = pure cl) (hcell : ∀ y ∈ scope.names, y.2 ≠ .cell) (hkind : scope.kind = .function) (hnames : ∀ y ∈ scope.names, y.2 = .local → scope.names.lookup y.1 = some .local) (hx : scope.names.lookup x = some .local)
    (hC : ∀ Cx, CapOk c (compEnvC scope cl Cx c.env) [x] caps locs)
    (hT : ∀ Cx, (cfx (compEnvC scope cl Cx c.env) [x] locs).Ok W → CT W k (cfx (compEnvC scope cl Cx c.env) [x] locs) ifs mt)
    (hE : ∀ Cx, (cfx (compEnvC scope cl Cx c.env) [x] locs).Ok W → SE W k (cfx (compEnvC scope cl Cx c.env) [x] locs) b2 inj2 elt m2) (hs : ∀ x, foldedSetIterable iter c.env x = pure x := by intro _; rfl) :
    SE W k c true T2.inj (.ListComp elt [⟨.Name x px, iter, ifs, 0⟩] scope pos) (compM inj caps mi mt m2) := by
  intro A hA σ s V F Q E ys R hm hQ
  unfold compM at hm
  split at hm
  case h_2 => cases hm
  rename_i xs e
  rw [eval_ListComp]
  refine wpAny_comprehension_free (use := none) rfl hs hclos hkind hnames (comp_run (RR := fun acc C => compPost (model W.prog W.w) A E none Q acc C) O hi hsc hcell hkind hx hC hT hE hA R e hm fun D C s' vs m' K hD hCn hDC hl hv hn => ?_)
  refine ⟨m', hn, fun h' hs' => ?_⟩
  replace hs' : Heap.SameBut C s'.heap h' := hs'
  refine hQ (.ref D) _ [D] ⟨fun b o e => hs'.extBut b o (fun h => by rw [h, hCn] at e; cases e) (K.heap b o e), K.os.hp, K.gens⟩ (M.is (hl.extBut hs'.extBut hDC) hv) fun _ y hy => ?_
  rcases List.mem_cons.mp hy with rfl | hy
  · exact hD
  · cases hy

theorem S1_comp {α β : Type} {inj : α → AV} {inj2 : β → AV} {T2 : Ty (List β)} {elt iter : Expr} {x y : Str} {px py : Pos} {ifs : List Expr} {scope : Scope} {cl : List (Str × Addr)} {pos spos : Pos} {mi : St → Option (List α)} {mt : St → Option Bool} {m2 : St → Option β} {caps : List Nat} {locs : List Loc} {b2 : Bool} {Wr : List Nat}
    (M : Mk T2 inj2) (hsc : Scal' inj2) (O : c.Ok W) (hi : IT W k c [] inj iter mi) (hclos : closureFor scope c.env = pure cl) (hcell : ∀ y ∈ scope.names, y.2 ≠ .cell) (hkind : scope.kind = .function) (hnames : ∀ y ∈ scope.names, y.2 = .local → scope.names.lookup y.1 = some .local) (hx : scope.names.lookup x = some .local)
    (hC : ∀ Cx, CapOk c (compEnvC scope cl Cx c.env) [x] caps locs)
    (hT : ∀ Cx, (cfx (compEnvC scope cl Cx c.env) [x] locs).Ok W → CT W k (cfx (compEnvC scope cl Cx c.env) [x] locs) ifs mt)
    (hE : ∀ Cx, (cfx (compEnvC scope cl Cx c.env) [x] locs).Ok W → SE W k (cfx (compEnvC scope cl Cx c.env) [x] locs) b2 inj2 elt m2)
    (i : Nat) {l : Loc} (hl : c.loc[i]? = some l) (hy : l.name = y) (hiW : i ∈ Wr) (hcellf : c.env.kindOf y ≠ some .free)
    (hsw : swapsWith (.ListComp elt [⟨.Name x px, iter, ifs, 0⟩] scope pos) (some (.Name y py)) spos.line c.env = pure true) (hs : ∀ x, foldedSetIterable iter c.env x = pure x := by intro _; rfl) :
    S1 W k c Wr (.Assign [.Name y py] (.ListComp elt [⟨.Name x px, iter, ifs, 0⟩] scope pos) spos) (setF i T2.inj (compM inj caps mi mt m2)) := by
  intro A hA σ s V F Q E f σ' R hm hQ
  unfold setF at hm
  split at hm
  case h_2 => cases hm
  rename_i ys e1
  cases hm
  unfold compM at e1
  split at e1
  case h_2 => cases e1
  rename_i xs e
  rw [exec_Assign_Name_used _ _ _ _ hsw]
  refine wpAny_bind (wpAny_standAt (wpAny_bind ?_))
  show wpAny _ A (do let _ ← comprehension (.ListComp elt [⟨.Name x px, iter, ifs, 0⟩] scope pos) scope c.env _ (newList []) false (eval iter c.env) (some (assign (.Name y py) c.env))) _ _ s
  refine wpAny_bind (wpAny_mono (wpAny_comprehension_free (use := some (assign (.Name y py) c.env)) (Q := fun _ s' => Q .next s') rfl hs hclos hkind hnames
    (comp_run (RR := fun acc C => compPost (model W.prog W.w) A E (some (assign (.Name y py) c.env)) (fun _ s' => Q .next s') acc C) O hi hsc hcell hkind hx hC hT hE hA R e e1 fun D C s' vs m' K hD hCn hDC hl' hv hn => ?_)) (fun _ s' hq => wpAny_pure (wpAny_pure hq)) fun _ _ e => e)
  show wpAny _ A (assign (.Name y py) c.env (.ref D)) _ _ _
  have hfD := R.fresh hD
  have hfC := R.fresh hCn
  refine wpAny_assign_Name (wp_store O hl hy hcellf (R.kp K) (M.is hl' hv) (F₁ := [D]) (fun a ha => ?_) fun s2 R2 B => ?_)
  · rcases List.mem_cons.mp ha with rfl | ha
    · exact ⟨hfD.1, hfD.2.1, fun j _ => hfD.2.2 j⟩
    · cases ha
  · have hCm : C ∉ c.mine := hfC.1
    refine ⟨m', hn.at' fun o e => B.heap C o e hCm, fun h3 hs3 => ?_⟩
    replace hs3 : Heap.SameBut C s2.heap h3 := hs3
    have hFC : ∀ j, C ∉ upd F i [D] j := fun j h => by
      by_cases hj : j = i
      · subst hj; rw [upd_same] at h
        rcases List.mem_cons.mp h with rfl | h
        · exact hDC rfl
        · cases h
      · rw [upd_ne _ _ hj] at h; exact hfC.2.2 j h
    have X := After.store (Wr := Wr) (σ := σ) (s := s) (V := V) (F := F) hiW K (fun a ha => by
      rcases List.mem_cons.mp ha with rfl | ha
      · exact .inl hD
      · cases ha) R2 B
    have R3 := X.rel.hop (tk := s2.toks) (wr := [C]) (h' := h3) (fun b hb => by
      rcases List.mem_cons.mp hb with rfl | hb
      · exact ⟨hCm, hfC.2.1, hFC⟩
      · cases hb) fun b o hb e => hs3.extBut b o (fun h => hb (by rw [h]; exact .head _)) e
    have nC : ∀ b o, s.heap.get? b = some o → b ≠ C := fun b o e h => by rw [h, hCn] at e; cases e
    refine hQ .next _ _ _ ⟨R3, X.same, fun b o e hm hF => hs3.extBut b o (nC b o e) (X.heap b o e hm hF), X.grow, fun b o e => ?_, X.os.hp, rfl⟩
    obtain ⟨o', e'⟩ := X.old b o e
    exact ⟨o', hs3.extBut b o' (nC b o e) e'⟩
end
end Mine

namespace Mine
section
variable {prog : Program} {w : World} {A : Around} {E : Value → Shared → Prop} {R : Result → Shared → Prop} {s : Shared}
/-- a turn of a list comprehension, whatever its target: to the end, or round again -/
theorem comp_turn {elt target iter : Expr} {ifs : List Expr} {scope : Scope} {pos : Pos} {it acc : Value} {env : Env} {Q : PySem.Fin → Shared → Prop}
    (h : wpAny (model prog w) A (pyNext it) (fun r s₁ => match r with
      | none => Q (.done .next) s₁
      | some v => wpAny (model prog w) A (letOwnedTupleGo target it v) (fun _ s₂ => wpAny (model prog w) A (assign target env v) (fun _ s₃ =>
          wpAny (model prog w) A (forIn ifs true fun e r => if r = true then do let ok ← isTrue e env (eval e env); pure (ForInStep.yield ok) else pure (ForInStep.yield r)) (fun ok s₄ =>
            if ok = true then wpAny (model prog w) A (eval elt env) (fun x s₅ => wpAny (model prog w) A (call (.builtin "list.append") [acc, x]) (fun _ s₆ => Q (.again (.compLoop (.ListComp elt [⟨target, iter, ifs, 0⟩] scope pos) 0 it acc env)) s₆) E s₅) E s₄
            else Q (.again (.compLoop (.ListComp elt [⟨target, iter, ifs, 0⟩] scope pos) 0 it acc env)) s₄) E s₃) E s₂) E s₁) E s) :
    wpAny (model prog w) A (compTurn (.ListComp elt [⟨target, iter, ifs, 0⟩] scope pos) 0 it acc env) Q E s := by
  have err : ∀ (e : Value) (s' : Shared), E e s' → E e s' := fun _ _ z => z
  rw [compTurn_list]
  refine wpAny_bind (wpAny_standAt (wpAny_bind (wpAny_mono h ?_ err)))
  intro r s₁ h₁
  match r, h₁ with
  | none, h₁ => exact wpAny_pure h₁
  | some v, h₁ =>
    refine wpAny_bind (wpAny_mono h₁ (fun _ s₂ h₂ => wpAny_bind (wpAny_mono h₂ (fun _ s₃ h₃ => wpAny_bind (wpAny_mono h₃ ?_ err)) err)) err)
    intro ok s₄ q
    by_cases hok : ok = true
    · subst hok
      refine wpAny_bind (wpAny_bind (wpAny_mono (show wpAny _ _ (eval elt env) _ E s₄ from q) (fun x s₅ q' => wpAny_bind (wpAny_mono q' (fun _ s₆ q'' => wpAny_pure (wpAny_pure q'')) err)) err))
    · have hf : ok = false := by simpa using hok
      subst hf
      exact wpAny_pure q

/-- a comprehension's loop, by its turn -/
theorem loop_by_turn {elt target iter : Expr} {ifs : List Expr} {scope : Scope} {pos : Pos} {it acc : Value} {env : Env} (I : Nat → Shared → Prop)
    (turn : ∀ n s, I n s → wpAny (model prog w) A (compTurn (.ListComp elt [⟨target, iter, ifs, 0⟩] scope pos) 0 it acc env)
      (fun fin s' => match fin with
        | .done f => R (.ok f) s'
        | .again c' => c' = .compLoop (.ListComp elt [⟨target, iter, ifs, 0⟩] scope pos) 0 it acc env ∧ ∃ m, m < n ∧ I m s') (notedBy (model prog w) A env fun e s' => R (.error e) s') s)
    (n : Nat) (h : I n s) : codeAny (model prog w) A (.compLoop (.ListComp elt [⟨target, iter, ifs, 0⟩] scope pos) 0 it acc env) R s :=
  codeAny_loop rfl I (fun n s hI => (wpAny_noted (turn n s hI) : wpAny _ A ((compTurn (.ListComp elt [⟨target, iter, ifs, 0⟩] scope pos) 0 it acc env).onRaise (fun x => do noteFrame x env; theTreesLotGoes x)) _ _ s)) n h
end
section
variable {W : Wd} {k : Nat} {c : Fx}

def compGL {β : Type} (mt : St → Option Bool) (m2 : St → Option β) : List (Nat × Sg) → Option (List β)
  | [] => some []
  | p :: r => match mt [some (.int (p.1 : Nat)), some (.str p.2)] with
    | some true => match m2 [some (.int (p.1 : Nat)), some (.str p.2)] with
      | some y => match compGL mt m2 r with
        | some ys => some (y :: ys)
        | none => none
      | none => none
    | some false => compGL mt m2 r
    | none => none
def compGM {β : Type} (mi : St → Option Sg) (mt : St → Option Bool) (m2 : St → Option β) (σ : St) : Option (List β) := match mi σ with
  | some x => if escEnd false x then none else if x.length ≤ tLine then compGL mt m2 (escL 0 false x) else none
  | none => none

theorem escL_len : ∀ (x : Sg) (i : Nat) (e : Bool), (escL i e x).length ≤ x.length + 1
  | [], i, e => by unfold escL; split <;> simp
  | c :: r, i, true => by unfold escL; have := escL_len r (i + 1) false; simp; omega
  | c :: r, i, false => by
    unfold escL
    split
    · have := escL_len r (i + 1) true; simp; omega
    · have := escL_len r (i + 1) false; simp; omega

theorem SE_compG {β : Type} {inj2 : β → AV} {T2 : Ty (List β)} {elt iter : Expr} {x y : Str} {px py tp : Pos} {kk : Nat} {ifs : List Expr} {scope : Scope} {pos : Pos} {mi : St → Option Sg} {mt : St → Option Bool} {m2 : St → Option β} {b2 : Bool}
    (T : TopF W) (M : Mk T2 inj2) (hsc : Scal' inj2) (O : c.Ok W) (hi : IG W k c iter mi) (hclos : closureFor scope c.env = pure []) (hcell : ∀ y ∈ scope.names, y.2 ≠ .cell) (hkind : scope.kind = .function) (hnames : ∀ y ∈ scope.names, y.2 = .local → scope.names.lookup y.1 = some .local)
    (hx : scope.names.lookup x = some .local) (hy : scope.names.lookup y = some .local) (hxy : x ≠ y)
    (hT : ∀ Cx, (cfx (compEnvC scope [] Cx c.env) [x, y] []).Ok W → CT W k (cfx (compEnvC scope [] Cx c.env) [x, y] []) ifs mt)
    (hE : ∀ Cx, (cfx (compEnvC scope [] Cx c.env) [x, y] []).Ok W → SE W k (cfx (compEnvC scope [] Cx c.env) [x, y] []) b2 inj2 elt m2) (hs : ∀ x, foldedSetIterable iter c.env x = pure x := by intro _; rfl) :
    SE W k c true T2.inj (.ListComp elt [⟨.Tuple [.Name x px, .Name y py] kk tp, iter, ifs, 0⟩] scope pos) (compGM mi mt m2) := by
  intro A hA σ s V F Q E ys R hm hQ
  unfold compGM at hm
  split at hm
  case h_2 => cases hm
  rename_i xt ex
  split at hm
  case isTrue => cases hm
  rename_i hesc
  split at hm
  case isFalse => cases hm
  rename_i hxl
  have hesc : escEnd false xt = false := by simpa using hesc
  have hA0 : AOk 0 A := ⟨hA.hh, by have := hA.dep; omega, by have := hA.un; omega⟩
  have hlenE := escL_len xt 0 false
  have hC : ∀ Cx, CapOk c (compEnvC scope [] Cx c.env) [x, y] [] [] := fun Cx => ⟨hkind, O.glob, O.blt, fun j l h => by simp at h, rfl, List.nodup_nil, (fun z hz => by
    rcases List.mem_cons.mp hz with rfl | hz
    · exact lookup_relabel_local hx
    · rcases List.mem_cons.mp hz with rfl | hz
      · exact lookup_relabel_local hy
      · cases hz), by simp [hxy]⟩
  rw [eval_ListComp]
  refine wpAny_comprehension_free (use := none) rfl hs hclos hkind hnames (hi A hA σ s V F _ E xt R ex hesc fun C a g s2 kp hCn0 han0 hgn hCa hal hgen hG0 => ?_)
  generalize hps : escL 0 false xt = ps at hm hG0 hlenE
  have kAll : ∀ b, s2.heap.objs.size ≤ b → s.heap.get? b = none := fun b hb => by
    cases e : s.heap.get? b with
    | none => rfl
    | some o => exact absurd (Nat.lt_of_lt_of_le (Heap.lt_size (kp.heap _ _ e)) hb) (Nat.lt_irrefl _)
  refine wpAny_newObj_type (wpAny_newFunctionEnv hcell (by intro y hy; simp at hy) (fun h₁ hns₁ hsb₁ => ?_) hkind)
  dsimp only at hns₁ hsb₁ ⊢
  generalize hH2 : s2.heap.push { cls := .type "list", dict := none, data := .seq ([] : List Value).toArray } = H2 at hns₁ hsb₁ ⊢
  have hz1 : h₁.objs.size = H2.objs.size + 1 := by rw [hsb₁.1, Heap.size_push]
  generalize hD : s2.heap.objs.size = D at *
  generalize hCx : H2.objs.size = Cx at *
  have hCD : Cx = D + 1 := by rw [← hCx, ← hH2, Heap.size_push, hD]
  have hDC : D ≠ Cx := by rw [hCD]; exact Nat.ne_of_lt (Nat.lt_succ_self _)
  have below : ∀ b o, s2.heap.get? b = some o → b ≠ Cx ∧ b ≠ D := fun b o e => by
    have := Heap.lt_size e
    rw [hD] at this
    exact ⟨by rw [hCD]; exact Nat.ne_of_lt (Nat.lt_succ_of_lt this), Nat.ne_of_lt this⟩
  have old : ∀ b o, s2.heap.get? b = some o → h₁.get? b = some o := fun b o e => hsb₁.extBut b o (below b o e).1 (Heap.get?_push_of_some _ (hH2 ▸ Heap.get?_push_of_some _ e))
  have hacc : h₁.PlainList D #[] := ⟨_, hsb₁.extBut _ _ hDC (Heap.get?_push_of_some _ (hH2 ▸ hD ▸ Heap.get?_push_size _ rfl))⟩
  have hDn : s.heap.get? D = none := kAll D (Nat.le_refl _)
  have hCn : s.heap.get? Cx = none := kAll Cx (by rw [hCD]; exact Nat.le_succ _)
  have OC : (cfx (compEnvC scope [] Cx c.env) [x, y] []).Ok W := cfx_ok O (hC Cx) (R.fresh hCn).2.1 fun a ha h => (R.fresh hCn).1 (by rw [← show a = Cx from h]; exact ha)
  have K1 : Kp s { s2 with heap := h₁, toks := s2.toks + ([] : List (Str × Value)).length } := kp.trans (Kp.of old)
  generalize hn0 : h₁.objs.size = n0 at *
  have hDn0 : D < n0 := by rw [hz1, hCD]; exact Nat.lt_succ_of_lt (Nat.lt_succ_self _)
  have hCxn0 : Cx < n0 := by rw [hz1]; exact Nat.lt_succ_self _
  have han0' : a < n0 := Nat.lt_trans hal hDn0
  have hfpn : ∀ b ∈ [C, n0 + 1, n0], s.heap.get? b = none := fun b hb => by
    rcases List.mem_cons.mp hb with rfl | hb
    · exact hCn0
    · rcases List.mem_cons.mp hb with rfl | hb
      · exact kAll _ (Nat.le_of_lt (Nat.lt_succ_of_lt hDn0))
      · rcases List.mem_cons.mp hb with rfl | hb
        · exact kAll _ (Nat.le_of_lt hDn0)
        · cases hb
  have notfp : ∀ b, C < b → b < n0 → b ∉ [C, n0 + 1, n0] := fun b h1 h2 hb => by
    rcases List.mem_cons.mp hb with rfl | hb
    · exact Nat.lt_irrefl _ h1
    · rcases List.mem_cons.mp hb with rfl | hb
      · exact Nat.lt_irrefl _ (Nat.lt_of_le_of_lt (Nat.le_succ _) h2)
      · rcases List.mem_cons.mp hb with rfl | hb
        · exact Nat.lt_irrefl _ h2
        · cases hb
  have haf := notfp a hCa han0'
  have hDf := notfp D (Nat.lt_trans hCa hal) hDn0
  have hCxf := notfp Cx (by rw [hCD]; exact Nat.lt_succ_of_lt (Nat.lt_trans hCa hal)) hCxn0
  have hprot : ∀ b ∈ a :: [C, n0 + 1, n0], b ≠ Cx ∧ b ≠ D := fun b hb => by
    rcases List.mem_cons.mp hb with rfl | hb
    · exact ⟨Nat.ne_of_lt (by rw [hCD]; exact Nat.lt_succ_of_lt hal), Nat.ne_of_lt hal⟩
    · exact ⟨fun h => hCxf (h ▸ hb), fun h => hDf (h ▸ hb)⟩
  have loop : ∀ s₃ : Shared, s₃ = { s2 with heap := h₁, toks := s2.toks + ([] : List (Str × Value)).length } →
      codeAny (model W.prog W.w) A (.compLoop (.ListComp elt [⟨.Tuple [.Name x px, .Name y py] kk tp, iter, ifs, 0⟩] scope pos) 0 (.ref a) (.ref D) (compEnvC scope [] Cx c.env)) (compPost (model W.prog W.w) A E none Q (.ref D) Cx) s₃ := by
    rintro s₃ rfl
    refine loop_by_turn (fun n s' => ∃ (j : Nat) (m : Str → Option Value) (vs : List Value) (ws zs : List β), n = ps.length - j ∧ j ≤ ps.length ∧ Kp s s' ∧ GenAt W A a g C n0 ps j s' ∧ (j = 0 → s'.heap.objs.size = n0) ∧ s'.heap.Ns Cx m ∧ s'.heap.PlainList D vs.toArray ∧ ValsAre inj2 vs ws ∧ ws.length ≤ j ∧ compGL mt m2 (ps.drop j) = some zs ∧ ys = ws ++ zs) ?_ ps.length
      ⟨0, _, [], [], ys, rfl, Nat.zero_le _, K1, hG0 n0 _ old rfl, fun _ => hn0, hns₁, hacc, .nil, Nat.le_refl _, hm, rfl⟩
    rintro n s' ⟨j, m, vs, ws, zs, rfl, hj, K, GA, hsz, hn, hacc, hv, hwj, hzs, hys⟩
    have RK := R.kp K
    refine comp_turn ?_
    by_cases hlt : j < ps.length
    · refine GenAt.item hA0 T GA RK.top RK.gens hsz haf hlt fun t o s1 ht hto GA1 S1 => ?_
      obtain ⟨u1, u2, mm, rfl⟩ := hto
      have Kstep : Kp s s1 := ⟨fun b o e => S1.heap b o (fun hb => by rw [hfpn b hb] at e; cases e) (K.heap b o e), ⟨S1.os.trans K.os.os, fun i z e => S1.gk i z (fun h => by subst h; rw [hgn] at e; cases e) (K.os.gk i z e)⟩, fun h => S1.bare (K.gens h)⟩
      rw [List.drop_eq_getElem_cons hlt] at hzs
      have hgen1 : s1.heap.IsGen a g := by obtain ⟨_, _, _, h, _⟩ := GA1; exact h
      refine letGo_gen hgen1 ?_
      refine wpAny_assign_Tuple hA.hh ⟨_, ht, rfl, _, rfl⟩ rfl rfl fun h2 hx2 => ?_
      replace hx2 : Heap.ExtBut s1.heap.objs.size s1.heap h2 := hx2
      have up2 : ∀ b o, s1.heap.get? b = some o → h2.get? b = some o := fun b o e => hx2 b o (Nat.ne_of_lt (Heap.lt_size e)) e
      have hn2 : h2.Ns Cx m := hn.at' fun o e => up2 _ o (S1.heap _ o hCxf e)
      have hacc2 : h2.PlainList D vs.toArray := hacc.at fun o e => up2 _ o (S1.heap _ o hDf e)
      show wpAny _ _ (do holding [_] (assign (.Name x px) _ _); do holding [] (assign (.Name y py) _ _); pure ()) _ _ _
      refine wpAny_bind (wpAny_holding (wpAny_assign_Name (wpAny_storeName_local (lookup_relabel_local hx) hn2 (fun h3 hn3 hs3 => ?_) (by simp [compEnvC, relabel, hkind]))))
      replace hs3 : Heap.SameBut Cx h2 h3 := hs3
      refine wpAny_bind (wpAny_holding (wpAny_assign_Name (wpAny_storeName_local (lookup_relabel_local hy) hn3 (fun h4 hn4 hs4 => wpAny_pure ?_) (by simp [compEnvC, relabel, hkind]))))
      replace hs4 : Heap.SameBut Cx h3 h4 := hs4
      have up4 : ∀ b o, b ≠ Cx → s1.heap.get? b = some o → h4.get? b = some o := fun b o hb e => hs4.extBut b o hb (hs3.extBut b o hb (up2 b o e))
      have hacc4 : h4.PlainList D vs.toArray := (hacc2.extBut hs3.extBut hDC).extBut hs4.extBut hDC
      have nCx : ∀ b o, s.heap.get? b = some o → b ≠ Cx := fun b o e h => by rw [h, hCn] at e; cases e
      have K4 : ∀ {t4 : Nat}, Kp s { s1 with heap := h4, toks := t4 } := ⟨fun b o e => up4 b o (nCx b o e) (Kstep.heap b o e), Kstep.os.hp, Kstep.gens⟩
      have R4 := R.kp (K4 (t4 := s1.toks + 1 + 1))
      have RC := cap_rel (hC Cx) R4 hn4 (fun i h => (R.fresh hCn).2.2 i h) (ovs := [.int ((ps[j].1 : Nat) : Int) u1, .str (txt ps[j].2) u2]) (oavs := [.int ((ps[j].1 : Nat) : Int), .str ps[j].2]) rfl (fun i z e => by
          cases i with
          | zero => simp at e; subst e; simp [hxy]
          | succ i => cases i with
            | zero => simp at e; subst e; simp
            | succ i => simp at e) (fun i av e => by
          cases i with
          | zero => simp at e; subst e; exact .int _ _
          | succ i => cases i with
            | zero => simp at e; subst e; exact .str _ _
            | succ i => simp at e)
      have hst : capSt [.int ((ps[j].1 : Nat) : Int), .str ps[j].2] [] σ = [some (.int ((ps[j].1 : Nat) : Int)), some (.str ps[j].2)] := rfl
      rw [hst] at RC
      unfold compGL at hzs
      cases hmt : mt [some (.int ((ps[j].1 : Nat) : Int)), some (.str ps[j].2)] with
      | none => rw [hmt] at hzs; cases hzs
      | some b =>
        refine hT Cx OC A hA _ _ _ _ _ _ b RC hmt fun s5 k5 => ?_
        have K5 := K4.trans k5
        have hn5 := hn4.keeps k5.heap
        have hacc5 := hacc4.at fun o e => k5.heap D o e
        have GA5 : GenAt W A a g C n0 ps (j + 1) s5 := GA1.frame (Nat.succ_le_succ (Nat.zero_le _)) (fun b hb o e => k5.heap b o (up4 b o (hprot b hb).1 e)) fun z e => k5.os.gk g z e
        cases b with
        | false =>
          rw [hmt] at hzs
          simp only [Bool.false_eq_true, if_false]
          exact ⟨trivial, ps.length - (j + 1), by omega, j + 1, _, vs, ws, zs, rfl, hlt, K5, GA5, fun h => by omega, hn5, hacc5, hv, Nat.le_succ_of_le hwj, hzs, hys⟩
        | true =>
          rw [hmt] at hzs
          simp only [if_true]
          cases hm2 : m2 [some (.int ((ps[j].1 : Nat) : Int)), some (.str ps[j].2)] with
          | none => simp only [hm2] at hzs; cases hzs
          | some yv =>
            simp only [hm2] at hzs
            split at hzs
            case h_2 => cases hzs
            rename_i zs' hz'
            cases hzs
            refine hE Cx OC A hA _ _ _ _ _ _ yv (RC.kp k5) hm2 fun u s6 F6 k6 r6 _ => ?_
            have K6 := K5.trans k6
            have hlen := hv.len
            refine wpAny_list_append_plain (hsz := by simp only [List.size_toArray]; have := tLine_le; unfold tLine at *; omega) (hacc5.at fun o e => k6.heap D o e) fun h7 hl7 hs7 => ?_
            refine ⟨trivial, ps.length - (j + 1), by omega, j + 1, _, vs ++ [u], ws ++ [yv], zs', rfl, hlt, ⟨fun b o e => hs7.extBut b o (fun h => by rw [h, hDn] at e; cases e) (K6.heap b o e), K6.os.hp, K6.gens⟩, GA5.frame (Nat.succ_le_succ (Nat.zero_le _)) (fun b hb o e => hs7.extBut b o (hprot b hb).2 (k6.heap b o e)) (fun z e => k6.os.gk g z e), fun h => by omega, (hn5.keeps k6.heap).sameBut hs7 (Ne.symm hDC), by simpa using hl7, hv.snoc (hsc _ _ _ _ _ r6), by simp; omega, hz', by rw [hys, List.append_assoc]; rfl⟩
    · have hjn : j = ps.length := by omega
      subst hjn
      rw [List.drop_length] at hzs
      cases hzs
      refine GenAt.done hA0 T GA RK.top RK.gens hsz (fun b hb => (R.fresh (hfpn b hb)).2.1) rfl fun s1 S1 => ?_
      rw [List.append_nil] at hys
      subst hys
      refine ⟨m, hn.at' fun o e => S1.heap _ o hCxf e, fun h3 hs3 => ?_⟩
      replace hs3 : Heap.SameBut Cx s1.heap h3 := hs3
      have Kstep : Kp s s1 := ⟨fun b o e => S1.heap b o (fun hb => by rw [hfpn b hb] at e; cases e) (K.heap b o e), ⟨S1.os.trans K.os.os, fun i z e => S1.gk i z (fun h => by subst h; rw [hgn] at e; cases e) (K.os.gk i z e)⟩, fun h => S1.bare (K.gens h)⟩
      refine hQ (.ref D) _ [D] ⟨fun b o e => hs3.extBut b o (fun h => by rw [h, hCn] at e; cases e) (Kstep.heap b o e), Kstep.os.hp, Kstep.gens⟩ (M.is (((hacc.at fun o e => S1.heap _ o hDf e)).extBut hs3.extBut hDC) hv) fun _ z hz => ?_
      rcases List.mem_cons.mp hz with rfl | hz
      · exact hDn
      · cases hz
  exact codeAny_compStart_list (loop _ rfl) (wpAny_pyIter_gen (hgen.keeps old) (loop _ rfl))
end
end Mine

namespace Mine
section
variable {W : Wd} {k : Nat} {c : Fx}

theorem capOk1 {env : Env} {x : Str} {i1 : Nat} {y1 : Str} {b1 : Addr} (hk : env.scope.kind = .function) (hg : env.globals = mainGlobals) (hb : env.builtins = builtinsNs) (hx : env.kindOf x = some .local)
    (h1 : c.loc[i1]? = some (.cell y1 b1)) (k1 : env.kindOf y1 = some .cell) (l1 : env.cells.lookup y1 = some b1) : CapOk c env [x] [i1] [.cell y1 b1] where
  kind := hk
  glob := hg
  blt := hb
  same := fun j l h => by
    cases j with
    | zero => simp at h; subst h; exact ⟨i1, y1, b1, rfl, rfl, h1, .inl k1, l1⟩
    | succ j => simp at h
  len := rfl
  nd := by simp
  ownK := fun z hz => by rcases List.mem_cons.mp hz with rfl | h; exact hx; cases h
  ond := by simp
theorem capOk3 {env : Env} {x : Str} {i1 i2 i3 : Nat} {y1 y2 y3 : Str} {b1 b2 b3 : Addr} (hk : env.scope.kind = .function) (hg : env.globals = mainGlobals) (hb : env.builtins = builtinsNs) (hx : env.kindOf x = some .local) (hnd : [i1, i2, i3].Nodup)
    (h1 : c.loc[i1]? = some (.cell y1 b1)) (k1 : env.kindOf y1 = some .cell) (l1 : env.cells.lookup y1 = some b1)
    (h2 : c.loc[i2]? = some (.cell y2 b2)) (k2 : env.kindOf y2 = some .cell) (l2 : env.cells.lookup y2 = some b2)
    (h3 : c.loc[i3]? = some (.cell y3 b3)) (k3 : env.kindOf y3 = some .cell) (l3 : env.cells.lookup y3 = some b3) : CapOk c env [x] [i1, i2, i3] [.cell y1 b1, .cell y2 b2, .cell y3 b3] where
  kind := hk
  glob := hg
  blt := hb
  same := fun j l h => by
    rcases j with _ | _ | _ | j
    · simp at h; subst h; exact ⟨i1, y1, b1, rfl, rfl, h1, .inl k1, l1⟩
    · simp at h; subst h; exact ⟨i2, y2, b2, rfl, rfl, h2, .inl k2, l2⟩
    · simp at h; subst h; exact ⟨i3, y3, b3, rfl, rfl, h3, .inl k3, l3⟩
    · simp at h
  len := rfl
  nd := hnd
  ownK := fun z hz => by rcases List.mem_cons.mp hz with rfl | h; exact hx; cases h
  ond := by simp

def slotArg2 (m0 : St → Option AV) (i : Nat) (σ : St) : Option (List AV) := match m0 σ with
  | some a => match look tAny i σ with
    | some av => some [a, av]
    | none => none
  | none => none

/-- a plain argument, then a slot -/
theorem C2 {γ α : Type} (Tγ : Ty γ) {inj : α → AV} {x y : Str} {f : Addr} {e : Expr} {b : Bool} {m0 : St → Option α} {g : List AV → Option AV} {p q pos : Pos} (T : TopF W) (O : c.Ok W) (a : FnAt W x f) (hx : c.env.kindOf x = some .globalImplicit)
    (hf : FnP W k f [] g) (h0 : SE W k c b inj e m0) (hsc : ∀ a, (inj a).scal = true) (i : Nat) {l : Loc} (hl : c.loc[i]? = some l) (hy : l.name = y) (hd : (x == ("__debug__" : Str)) = false := by decide)
    (hdy : (y == ("__debug__" : Str)) = false := by decide) (hcd : (y == ("__classdict__" : Str)) = false := by decide)
    (he : eval (.Call (.Name x p) [e, .Name y q] [] pos) c.env = (do callWith pos (← eval (.Name x p) c.env) [] (backTo pos (starEach [e, .Name y q] c.env)) (backToKw pos (keywordEach [] c.env))) := by rfl)
    (hs0 : ∀ rest, starEach (e :: rest) c.env = (false, eval e c.env) :: starEach rest c.env := by intro _; rfl)
    (hs : ∀ rest, starEach (.Name y q :: rest) c.env = (false, eval (.Name y q) c.env) :: starEach rest c.env := by intro _; rfl) :
    SE W k c true Tγ.inj (.Call (.Name x p) [e, .Name y q] [] pos) (callM Tγ g (slotArg2 (scM inj m0) i)) := by
  obtain ⟨hg, o, fd, ho, hdat⟩ := a
  intro A hA σ s V F Q E r R hm hQ
  obtain ⟨l0, e1, e2⟩ := callM_some hm
  unfold slotArg2 scM at e1
  cases e3 : m0 σ with
  | none => simp only [e3, Option.map_none] at e1; cases e1
  | some a0 =>
    simp only [e3, Option.map_some] at e1
    split at e1
    case h_2 => cases e1
    rename_i av e4
    cases e1
    refine Call_ (he := he) (wp_fn T O R hg hx (hd := hd) ?_)
    refine callWith_def (he := hs0 _) hdat (args_cons (he := hs0 _) (h0 A hA σ s V F _ E a0 R e3 fun v0 s0 F0 k0 r0 _ => args_cons (he := hs _) (wpAny_mono (load_slot O hl hy (R.kp k0) (look_some e4) hdy hcd) (fun v s' hv => args_nil ⟨?_, ?_⟩) fun _ _ x => x)))
    · obtain ⟨rfl, rfl⟩ := hv
      exact (R.kp k0).top _ _ ho
    · obtain ⟨rfl, rfl⟩ := hv
      have hF0 := r0.scal (hsc a0)
      subst hF0
      refine hf A hA s' _ [[], F i] _ Q E _ (R.kp k0).top (R.kp k0).gens (.cons r0 (.cons ((R.kp k0).rep i av (look_some e4)) .nil)) (by simp) (fun F' hF a ha => ?_) e2 fun v s'' F' k2 r hfr => hQ v s'' F' (k0.trans k2) r fun _ y hy => fresh_of k0 (hfr y hy)
      rcases List.mem_cons.mp hF with rfl | hF
      · cases ha
      · rcases List.mem_cons.mp hF with rfl | hF
        · exact (R.off i a ha).2
        · cases hF
end
end Mine

namespace Mine
def N_bl : List Str := ["a", "x", "lo", "hi", "key", "mid"]
def m_bl : St → Option (Fl × St) :=
  (andThen (ifF (op2 ltI (look tInt 2) (cI 0)) stop done)
    (andThen (ifF (op2 isNF (look tAny 3) cN) (setF 3 AV.int (op1 lenF (look tIl 0))) done)
    (andThen (ifF (op2 isNF (look tAny 4) cN) (whileF (op2 ltI (look tInt 2) (look tInt 3)) (andThen (setF 5 AV.int (op2 divF (op2 addI (look tInt 2) (look tInt 3)) (cI 2)))
    (ifF (op2 ltI (op2 idxL (look tIl 0) (look tInt 5)) (look tInt 1)) (setF 2 AV.int (op2 addI (look tInt 5) (cI 1))) (setF 3 AV.int (look tInt 5)))) 40) stop)
    (retF AV.int (look tInt 2)))))
theorem s_bl (W : Wd) (k : Nat) (q : Str) (dv kv doc pm : Value) (an : Option Addr) (cd ct : Value) (f L : Addr) (T : TopF W) (G : Nm W) (O : (fx (mkfd (stAt 5) q dv kv doc pm an cd ct) f L N_bl).Ok W) : SS W k (fx (mkfd (stAt 5) q dv kv doc pm an cd ct) f L N_bl) [2, 3, 5] (bodyOf (stAt 5)) m_bl :=
  (SS_cons (S1_ifF (ST_cmp (SE_var tInt O 2 rfl rfl) SE_int op_ltI) SS_never SS_nil)
      (SS_cons (S1_ifF (ST_cmp (SE_var tAny O 3 rfl rfl) SE_none op_isNone) (SS_one (S1_assign O (SE_call1 T O (by rfl) G.len (by rfl) (SE_var tIl O 0 rfl rfl) op_lenL) 3 rfl rfl (by decide) (nf O 3 rfl))) SS_nil)
      (SS_cons (S1_ifF (ST_cmp (SE_var tAny O 4 rfl rfl) SE_none op_isNone) (SS_one (S1_while 40 (ST_cmp (SE_var tInt O 2 rfl rfl) (SE_var tInt O 3 rfl rfl) op_ltI) (SS_cons (S1_assign O (SE_bin (SE_bin (SE_var tInt O 2 rfl rfl) (SE_var tInt O 3 rfl rfl) op_addI) SE_int op_divI) 5 rfl rfl (by decide) (nf O 5 rfl))
      (SS_one (S1_ifF (ST_cmp (SE_itemI (SE_var tIl O 0 rfl rfl) (SE_var tInt O 5 rfl rfl)) (SE_var tInt O 1 rfl rfl) op_ltI) (SS_one (S1_assign O (SE_bin (SE_var tInt O 5 rfl rfl) SE_int op_addI) 2 rfl rfl (by decide) (nf O 2 rfl))) (SS_one (S1_assign O (SE.strong scal_int (SE_var tInt O 5 rfl rfl)) 3 rfl rfl (by decide) (nf O 3 rfl)))))))) SS_never)
      (SS_one (S1_return (SE.strong scal_int (SE_var tInt O 2 rfl rfl)))))))
def N_br : List Str := ["a", "x", "lo", "hi", "key", "mid"]
def m_br : St → Option (Fl × St) :=
  (andThen (ifF (op2 ltI (look tInt 2) (cI 0)) stop done)
    (andThen (ifF (op2 isNF (look tAny 3) cN) (setF 3 AV.int (op1 lenF (look tIl 0))) done)
    (andThen (ifF (op2 isNF (look tAny 4) cN) (whileF (op2 ltI (look tInt 2) (look tInt 3)) (andThen (setF 5 AV.int (op2 divF (op2 addI (look tInt 2) (look tInt 3)) (cI 2)))
    (ifF (op2 ltI (look tInt 1) (op2 idxL (look tIl 0) (look tInt 5))) (setF 3 AV.int (look tInt 5)) (setF 2 AV.int (op2 addI (look tInt 5) (cI 1))))) 40) stop)
    (retF AV.int (look tInt 2)))))
theorem s_br (W : Wd) (k : Nat) (q : Str) (dv kv doc pm : Value) (an : Option Addr) (cd ct : Value) (f L : Addr) (T : TopF W) (G : Nm W) (O : (fx (mkfd (stAt 3) q dv kv doc pm an cd ct) f L N_br).Ok W) : SS W k (fx (mkfd (stAt 3) q dv kv doc pm an cd ct) f L N_br) [2, 3, 5] (bodyOf (stAt 3)) m_br :=
  (SS_cons (S1_ifF (ST_cmp (SE_var tInt O 2 rfl rfl) SE_int op_ltI) SS_never SS_nil)
      (SS_cons (S1_ifF (ST_cmp (SE_var tAny O 3 rfl rfl) SE_none op_isNone) (SS_one (S1_assign O (SE_call1 T O (by rfl) G.len (by rfl) (SE_var tIl O 0 rfl rfl) op_lenL) 3 rfl rfl (by decide) (nf O 3 rfl))) SS_nil)
      (SS_cons (S1_ifF (ST_cmp (SE_var tAny O 4 rfl rfl) SE_none op_isNone) (SS_one (S1_while 40 (ST_cmp (SE_var tInt O 2 rfl rfl) (SE_var tInt O 3 rfl rfl) op_ltI) (SS_cons (S1_assign O (SE_bin (SE_bin (SE_var tInt O 2 rfl rfl) (SE_var tInt O 3 rfl rfl) op_addI) SE_int op_divI) 5 rfl rfl (by decide) (nf O 5 rfl))
      (SS_one (S1_ifF (ST_cmp (SE_var tInt O 1 rfl rfl) (SE_itemI (SE_var tIl O 0 rfl rfl) (SE_var tInt O 5 rfl rfl)) op_ltI) (SS_one (S1_assign O (SE.strong scal_int (SE_var tInt O 5 rfl rfl)) 3 rfl rfl (by decide) (nf O 3 rfl))) (SS_one (S1_assign O (SE_bin (SE_var tInt O 5 rfl rfl) SE_int op_addI) 2 rfl rfl (by decide) (nf O 2 rfl)))))))) SS_never)
      (SS_one (S1_return (SE.strong scal_int (SE_var tInt O 2 rfl rfl)))))))
def gBL4 (avs : List AV) : Option AV := if avs.length = 4 then runF m_bl [2, 3, 5] N_bl.length (avs ++ [AV.none]) else none
def gBL2 (avs : List AV) : Option AV := if avs.length = 2 then runF m_bl [2, 3, 5] N_bl.length (avs ++ [AV.int 0, AV.none, AV.none]) else none
def gBR2 (avs : List AV) : Option AV := if avs.length = 2 then runF m_br [2, 3, 5] N_br.length (avs ++ [AV.int 0, AV.none, AV.none]) else none
def N_in : List Str := ["a", "x", "lo", "hi", "key"]
def m_in : St → Option (Fl × St) :=
  (andThen (ifF (op2 isNF (look tAny 4) cN) (setF 2 AV.int (callM tInt gBL4 (slotArg 0 [(scM AV.int (look tInt 1)), (scM AV.int (look tInt 2)), (scM (fun _ : Unit => AV.none) (look tNone 3))]))) stop)
    done)
def n_in : St → Option (Fl × St) :=
  (insF 0 (look tInt 2) (look tInt 1))
theorem s_in (W : Wd) (k : Nat) (q : Str) (dv kv doc pm : Value) (an : Option Addr) (cd ct : Value) (f L : Addr) (T : TopF W) (G : Nm W) {f1 : Addr} (a1 : FnAt W "bisect_left" f1) (h1 : FnP W k f1 [] gBL4) (O : (fx (mkfd (stAt 4) q dv kv doc pm an cd ct) f L N_in).Ok W) : SSP W k (fx (mkfd (stAt 4) q dv kv doc pm an cd ct) f L N_in) [2] 0 (bodyOf (stAt 4)) m_in n_in :=
  (SSP_cons (S1_ifF (ST_cmp (SE_var tAny O 4 rfl rfl) SE_none op_isNone) (SS_one (S1_assign O (CL tInt T O a1 (by rfl) h1 0 rfl rfl (.cons (SE_var tInt O 1 rfl rfl) (fun _ => rfl) (by intro _; rfl) (.cons (SE_var tInt O 2 rfl rfl) (fun _ => rfl) (by intro _; rfl) (.cons (SE_var tNone O 3 rfl rfl) (fun _ => rfl) (by intro _; rfl) .nil)))) 2 rfl rfl (by decide) (nf O 2 rfl))) SS_never)
      (SSP_last (SP_insert O (SE_var tInt O 2 rfl rfl) (SE_var tInt O 1 rfl rfl) 0 rfl rfl (by rfl))))
def gIN (avs : List AV) : Option AV := if avs.length = 2 then runW m_in n_in [2] N_in.length (avs ++ [AV.int 0, AV.none, AV.none]) else none
def N_lv : List Str := ["bare", "levels", "height", "sign"]
def m_lv : St → Option (Fl × St) :=
  (andThen (setF 1 AV.il (listI []))
    (andThen (setF 2 AV.int (cI 0))
    (andThen (forM 3 AV.str (textM (look tStr 0)) (ifF (op2 eqS (look tStr 3) (cS [40])) (andThen (appF tIl 1 (look tInt 2))
    (augF tInt 2 addI (cI 1))) (augF tInt 2 subI (cI 1))))
    (retSF 1))))
theorem s_lv (W : Wd) (k : Nat) (q : Str) (dv kv doc pm : Value) (an : Option Addr) (cd ct : Value) (f L : Addr) (T : TopF W) (G : Nm W) (O : (fx (mkfd (stAt 18) q dv kv doc pm an cd ct) f L N_lv).Ok W) : SS W k (fx (mkfd (stAt 18) q dv kv doc pm an cd ct) f L N_lv) [1, 2, 3] (bodyOf (stAt 18)) m_lv :=
  (SS_cons (S1_assign O (SE_listI .nil) 1 rfl rfl (by decide) (nf O 1 rfl))
      (SS_cons (S1_assign O SE_int 2 rfl rfl (by decide) (nf O 2 rfl))
      (SS_cons (S1_weak (Wr' := [1, 2, 3]) (S1_for O 3 rfl rfl (by decide) (nf O 3 rfl) (IT_text (SE_var tStr O 0 rfl rfl)) (SS_one (S1_ifF (ST_cmp (SE_var tStr O 3 rfl rfl) (SE_str (l := [40]) (by rfl)) op_eqS) (SS_cons (SP.s1 (SP_append lst_il scal'_int O (SE_var tInt O 2 rfl rfl) 1 rfl rfl (by rfl)) (by decide))
      (SS_one (S1_aug (T := tInt) O SE_int op_iaddI 2 rfl rfl (by decide) (nf O 2 rfl)))) (SS_one (S1_aug (T := tInt) O SE_int op_isubI 2 rfl rfl (by decide) (nf O 2 rfl)))))) (by decide))
      (SS_one (S1_returnS O 1 rfl rfl)))))
def gLV (avs : List AV) : Option AV := if avs.length = 1 then runF m_lv [1, 2, 3] N_lv.length avs else none
def N_hm : List Str := ["bare", "ways", "levels", "begin", "level", "end", "at", "sign"]
def m_hm : St → Option (Fl × St) :=
  (andThen (setF 2 AV.il (op2 mulLF (listI [(cI 0)]) (op2 idxL (look tIl 1) (cI 0))))
    (andThen (setF 3 AV.int (op2 idxL (look tIl 1) (cI 0)))
    (andThen (forM 4 AV.int (op2 rangeM (cI 1) (op1 lenF (look tIl 1))) (andThen (setF 5 AV.int (op2 addI (op2 addI (look tInt 3) (op2 idxL (look tIl 1) (op2 subI (look tInt 4) (cI 1)))) (op2 idxL (look tIl 1) (look tInt 4))))
    (andThen (setF 6 AV.int (cI 0))
    (andThen (forM 7 AV.str (textM (op3 sliceT (look tStr 0) (look tInt 3) (look tInt 5))) (ifF (op2 eqS (look tStr 7) (cS [41])) (augF tInt 6 addI (op2 addI (op2 idxF (op2 dropL (look tIl 2) (look tInt 6)) (op2 subI (look tInt 4) (cI 1))) (cI 1))) (andThen (insF 2 (look tInt 6) (look tInt 4))
    (augF tInt 6 addI (cI 1)))))
    (setF 3 AV.int (look tInt 5))))))
    (retSF 2))))
theorem s_hm (W : Wd) (k : Nat) (q : Str) (dv kv doc pm : Value) (an : Option Addr) (cd ct : Value) (f L : Addr) (T : TopF W) (G : Nm W) (O : (fx (mkfd (stAt 19) q dv kv doc pm an cd ct) f L N_hm).Ok W) : SS W k (fx (mkfd (stAt 19) q dv kv doc pm an cd ct) f L N_hm) [2, 3, 4, 5, 6, 7] (bodyOf (stAt 19)) m_hm :=
  (SS_cons (S1_assign O (SE_bin (SE_listI (.cons SE_int (by intro _; rfl) .nil)) (SE_itemI (SE_var tIl O 1 rfl rfl) SE_int) op_mulL) 2 rfl rfl (by decide) (nf O 2 rfl))
      (SS_cons (S1_assign O (SE_itemI (SE_var tIl O 1 rfl rfl) SE_int) 3 rfl rfl (by decide) (nf O 3 rfl))
      (SS_cons (S1_weak (Wr' := [2, 3, 4, 5, 6, 7]) (S1_for O 4 rfl rfl (by decide) (nf O 4 rfl) (IT_range2 T O G.range (by rfl) SE_int (SE_call1 T O (by rfl) G.len (by rfl) (SE_var tIl O 1 rfl rfl) op_lenL)) (SS_cons (S1_assign O (SE_bin (SE_bin (SE_var tInt O 3 rfl rfl) (SE_itemI (SE_var tIl O 1 rfl rfl) (SE_bin (SE_var tInt O 4 rfl rfl) SE_int op_subI)) op_addI) (SE_itemI (SE_var tIl O 1 rfl rfl) (SE_var tInt O 4 rfl rfl)) op_addI) 5 rfl rfl (by decide) (nf O 5 rfl))
      (SS_cons (S1_assign O SE_int 6 rfl rfl (by decide) (nf O 6 rfl))
      (SS_cons (S1_weak (Wr' := [2, 6, 7]) (S1_for O 7 rfl rfl (by decide) (nf O 7 rfl) (IT_text (SE_sliceT (SE_var tStr O 0 rfl rfl) (SE_var tInt O 3 rfl rfl) (SE_var tInt O 5 rfl rfl))) (SS_one (S1_ifF (ST_cmp (SE_var tStr O 7 rfl rfl) (SE_str (l := [41]) (by rfl)) op_eqS) (SS_one (S1_aug (T := tInt) O (SE_bin (SE_meth1 (SE_dropL (SE_var tIl O 2 rfl rfl) (SE_var tInt O 6 rfl rfl)) (SE_bin (SE_var tInt O 4 rfl rfl) SE_int op_subI) (gm_list PySem.F.slot_list_index rfl) op_index) SE_int op_addI) op_iaddI 6 rfl rfl (by decide) (nf O 6 rfl))) (SS_cons (SP.s1 (SP_insert O (SE_var tInt O 6 rfl rfl) (SE_var tInt O 4 rfl rfl) 2 rfl rfl (by rfl)) (by decide))
      (SS_one (S1_aug (T := tInt) O SE_int op_iaddI 6 rfl rfl (by decide) (nf O 6 rfl))))))) (by decide))
      (SS_one (S1_assign O (SE.strong scal_int (SE_var tInt O 5 rfl rfl)) 3 rfl rfl (by decide) (nf O 3 rfl))))))) (by decide))
      (SS_one (S1_returnS O 2 rfl rfl)))))
def gHM (avs : List AV) : Option AV := if avs.length = 2 then runF m_hm [2, 3, 4, 5, 6, 7] N_hm.length avs else none
def N_st : List Str := ["addr", "start", "open_pos", "result", "pos", "ch"]
def m_st : St → Option (Fl × St) :=
  (andThen (ifF (op2 notInF (cS [34]) (look tStr 0)) (retF AV.str (look tStr 0)) done)
    (andThen (setF 1 AV.int (cI 0))
    (andThen (setF 2 (fun _ : Unit => AV.none) cN)
    (andThen (setF 3 AV.sl (listS []))
    (andThen (forGM 4 5 (look tStr 0) (ifF (op2 eqS (look tStr 5) (cS [34])) (ifF (op2 isNF (look tAny 2) cN) (setF 2 AV.int (look tInt 4)) (andThen (ifF (op2 neI (look tInt 1) (look tInt 2)) (appF tSl 3 (op3 sliceT (look tStr 0) (look tInt 1) (look tInt 2))) done)
    (andThen (setF 1 AV.int (op2 addI (look tInt 4) (cI 1)))
    (setF 2 (fun _ : Unit => AV.none) cN)))) done))
    (andThen (ifF (op2 ltI (look tInt 1) (op1 lenF (look tStr 0))) (appF tSl 3 (op2 sliceFromT (look tStr 0) (look tInt 1))) done)
    (retF AV.str (op2 joinF (cS []) (look tSl 3)))))))))
theorem s_st (W : Wd) (k : Nat) (q : Str) (dv kv doc pm : Value) (an : Option Addr) (cd ct : Value) (f L : Addr) (T : TopF W) (G : Nm W) {f7 : Addr} {o7 : Obj} {q7 : Str} {doc7 pm7 : Value} {an7 : Option Addr} {cd7 ct7 : Value} (X7 : Gs1 W f7 o7 q7 doc7 pm7 an7 cd7 ct7) (g7 : W.mg "_iter_escaped_chars" = some (.ref f7)) (O : (fx (mkfd (stAt 8) q dv kv doc pm an cd ct) f L N_st).Ok W) : SS W (k + 2) (fx (mkfd (stAt 8) q dv kv doc pm an cd ct) f L N_st) [1, 2, 3, 4, 5] (bodyOf (stAt 8)) m_st :=
  (SS_cons (S1_ifF (ST_cmp (SE_str (l := [34]) (by rfl)) (SE_var tStr O 0 rfl rfl) op_notInT) (SS_one (S1_return (SE.strong scal_str (SE_var tStr O 0 rfl rfl)))) SS_nil)
      (SS_cons (S1_assign O SE_int 1 rfl rfl (by decide) (nf O 1 rfl))
      (SS_cons (S1_assign O SE_none 2 rfl rfl (by decide) (nf O 2 rfl))
      (SS_cons (S1_assign O (SE_listS .nil) 3 rfl rfl (by decide) (nf O 3 rfl))
      (SS_cons (S1_weak (Wr' := [1, 2, 3, 4, 5]) (S1_forG T O 4 5 rfl rfl rfl rfl (by decide) (by decide) (nf O 4 rfl) (nf O 5 rfl) (IG_call T G O X7 g7 (by rfl) (SE_var tStr O 0 rfl rfl)) (SS_one (S1_ifF (ST_cmp (SE_var tStr O 5 rfl rfl) (SE_str (l := [34]) (by rfl)) op_eqS) (SS_one (S1_ifF (ST_cmp (SE_var tAny O 2 rfl rfl) SE_none op_isNone) (SS_one (S1_assign O (SE.strong scal_int (SE_var tInt O 4 rfl rfl)) 2 rfl rfl (by decide) (nf O 2 rfl))) (SS_cons (S1_ifF (ST_cmp (SE_var tInt O 1 rfl rfl) (SE_var tInt O 2 rfl rfl) op_neI) (SS_one (SP.s1 (SP_append lst_sl scal'_str O (SE_sliceT (SE_var tStr O 0 rfl rfl) (SE_var tInt O 1 rfl rfl) (SE_var tInt O 2 rfl rfl)) 3 rfl rfl (by rfl)) (by decide))) SS_nil)
      (SS_cons (S1_assign O (SE_bin (SE_var tInt O 4 rfl rfl) SE_int op_addI) 1 rfl rfl (by decide) (nf O 1 rfl))
      (SS_one (S1_assign O SE_none 2 rfl rfl (by decide) (nf O 2 rfl))))))) SS_nil))) (by decide))
      (SS_cons (S1_ifF (ST_cmp (SE_var tInt O 1 rfl rfl) (SE_call1 T O (by rfl) G.len (by rfl) (SE_var tStr O 0 rfl rfl) op_lenT) op_ltI) (SS_one (SP.s1 (SP_append lst_sl scal'_str O (SE_sliceFromT (SE_var tStr O 0 rfl rfl) (SE_var tInt O 1 rfl rfl)) 3 rfl rfl (by rfl)) (by decide))) SS_nil)
      (SS_one (S1_return (SE_meth1 (SE_str (l := []) (by rfl)) (SE_var tSl O 3 rfl rfl) (gm_str PySem.F.slot_str_join rfl) op_join)))))))))
def gST (avs : List AV) : Option AV := if avs.length = 1 then runF m_st [1, 2, 3, 4, 5] N_st.length avs else none
def N_ck : List Str := ["addr", "opens", "pos", "ch"]
def m_ck : St → Option (Fl × St) :=
  (andThen (setF 0 AV.str (callM tStr gST (mAll [(scM AV.str (look tStr 0))])))
    (andThen (setF 1 AV.int (cI 0))
    (andThen (forGM 2 3 (look tStr 0) (ifF (op2 eqS (look tStr 3) (cS [40])) (augF tInt 1 addI (cI 1)) (ifF (op2 eqS (look tStr 3) (cS [41])) (andThen (augF tInt 1 subI (cI 1))
    (ifF (op2 ltI (look tInt 1) (cI 0)) (retF AV.bool (cB false)) done)) done)))
    (retF AV.bool (op2 eqI (look tInt 1) (cI 0))))))
theorem s_ck (W : Wd) (k : Nat) (q : Str) (dv kv doc pm : Value) (an : Option Addr) (cd ct : Value) (f L : Addr) (T : TopF W) (G : Nm W) {f7 : Addr} {o7 : Obj} {q7 : Str} {doc7 pm7 : Value} {an7 : Option Addr} {cd7 ct7 : Value} (X7 : Gs1 W f7 o7 q7 doc7 pm7 an7 cd7 ct7) (g7 : W.mg "_iter_escaped_chars" = some (.ref f7)) {f8 : Addr} (a8 : FnAt W "_strip_quoted_realnames" f8) (h8 : FnP W (k + 2) f8 [] gST) (O : (fx (mkfd (stAt 9) q dv kv doc pm an cd ct) f L N_ck).Ok W) : SS W (k + 2) (fx (mkfd (stAt 9) q dv kv doc pm an cd ct) f L N_ck) [0, 1, 2, 3] (bodyOf (stAt 9)) m_ck :=
  (SS_cons (S1_assign O (CS tStr T O a8 (by rfl) h8 (.cons (SE_var tStr O 0 rfl rfl) (fun _ => rfl) (by intro _; rfl) .nil)) 0 rfl rfl (by decide) (nf O 0 rfl))
      (SS_cons (S1_assign O SE_int 1 rfl rfl (by decide) (nf O 1 rfl))
      (SS_cons (S1_weak (Wr' := [1, 2, 3]) (S1_forG T O 2 3 rfl rfl rfl rfl (by decide) (by decide) (nf O 2 rfl) (nf O 3 rfl) (IG_call T G O X7 g7 (by rfl) (SE_var tStr O 0 rfl rfl)) (SS_one (S1_ifF (ST_cmp (SE_var tStr O 3 rfl rfl) (SE_str (l := [40]) (by rfl)) op_eqS) (SS_one (S1_aug (T := tInt) O SE_int op_iaddI 1 rfl rfl (by decide) (nf O 1 rfl))) (SS_one (S1_ifF (ST_cmp (SE_var tStr O 3 rfl rfl) (SE_str (l := [41]) (by rfl)) op_eqS) (SS_cons (S1_aug (T := tInt) O SE_int op_isubI 1 rfl rfl (by decide) (nf O 1 rfl))
      (SS_one (S1_ifF (ST_cmp (SE_var tInt O 1 rfl rfl) SE_int op_ltI) (SS_one (S1_return SE_bool)) SS_nil))) SS_nil))))) (by decide))
      (SS_one (S1_return (SE_cmp (SE_var tInt O 1 rfl rfl) SE_int op_eqI))))))
def gCK (avs : List AV) : Option AV := if avs.length = 1 then runF m_ck [0, 1, 2, 3] N_ck.length avs else none
end Mine

namespace Mine
def N_ba : List Str := ["text"]
def m_ba : St → Option (Fl × St) := retF AV.str (op2 joinF (cS []) (compGM (callM tStr gST (mAll [scM AV.str (look tStr 0)])) (op1 (inTupF [[40], [41]]) (look tStr 1)) (look tStr 1)))
theorem s_ba (W : Wd) (k : Nat) (q : Str) (dv kv doc pm : Value) (an : Option Addr) (cd ct : Value) (f L : Addr) (T : TopF W) (G : Nm W) {f7 : Addr} {o7 : Obj} {q7 : Str} {doc7 pm7 : Value} {an7 : Option Addr} {cd7 ct7 : Value} (X7 : Gs1 W f7 o7 q7 doc7 pm7 an7 cd7 ct7) (g7 : W.mg "_iter_escaped_chars" = some (.ref f7))
    {f8 : Addr} (a8 : FnAt W "_strip_quoted_realnames" f8) (h8 : FnP W (k + 2) f8 [] gST) (O : (fx (mkfd (stAt 17) q dv kv doc pm an cd ct) f L N_ba).Ok W) : SS W (k + 2) (fx (mkfd (stAt 17) q dv kv doc pm an cd ct) f L N_ba) [] (bodyOf (stAt 17)) m_ba :=
  SS_one (S1_return (SE_meth1 (SE_str (l := []) (by rfl)) (SE_compG T mk_sl scal'_str O (IG_call T G O X7 g7 (by rfl) (CS tStr T O a8 (by rfl) h8 (.cons (SE_var tStr O 0 rfl rfl) (fun _ => rfl) (by intro _; rfl) .nil))) (by rfl) (by decide) rfl (by decide) (by rfl) (by rfl) (by decide)
    (fun Cx OC => CT_one (ST_inTup (ys := [[40], [41]]) (SE_var tStr OC 1 rfl rfl) (.cons (SE_str (l := [40]) (by rfl)) (by intro _; rfl) (.cons (SE_str (l := [41]) (by rfl)) (by intro _; rfl) .nil)) (by decide)))
    (fun Cx OC => SE_var tStr OC 1 rfl rfl)) (gm_str PySem.F.slot_str_join rfl) op_join))
def gBA (avs : List AV) : Option AV := if avs.length = 1 then runF m_ba [] N_ba.length avs else none
end Mine

namespace Mine
def lawFx (L a : Addr) (cd : Value) : Fx := ⟨envOfC "law" (scopeOf (stAt 20)) L a cd, [.ns "script", .ns "draws", .cell "turn" (L + 1), .cell "dress" (L + 2), .cell "levels" (L + 3), .ns "x", .cell "row" (L + 4), .ns "height", .ns "level", .ns "text", .ns "lap", .cell "table" (L + 5), .ns "k", .ns "piece", .cell "bare" (L + 6), .ns "due", .ns "shelf", .ns "meetings", .ns "ups", .ns "downs", .cell "stops" (L + 7), .ns "hop", .ns "ways"]⟩
def lower1 (n : Nat) : Nat := if 65 ≤ n ∧ n ≤ 90 then n + 32 else n
def lower (x : Sg) : Sg := x.map lower1
def letters : List Sg := [[97], [98], [99], [100], [101], [102], [65], [66], [67], [68], [69], [70]]
def values : List Sg := [[40], [40, 92, 41], [40, 34, 40, 34], [40, 92, 34], [41], [92, 41, 41], [34, 40, 34, 41], [92, 34, 41]]
def getF (ps : List (Sg × Sg)) (x : Sg) : Option (List Sg) := if letters.contains x && decide (ps.length ≤ 100) && ps.all (fun p => letters.contains p.1) then some ((ps.filter fun p => lower p.1 == lower x).map (·.2)) else none
def addM (i : Nat) (m1 m2 : St → Option Sg) (σ : St) : Option (Fl × St) := match look tHdr i σ with
  | some ps => match m1 σ with
    | some n => match m2 σ with
      | some v => if letters.contains n && values.contains v && decide (ps.length ≤ 100) then some (.next, σ.set i (some (.hdr (ps ++ [(n, v)])))) else none
      | none => none
    | none => none
  | none => none
structure HdOk (W : Wd) (k : Nat) : Prop where
  new : ∀ (c : Fx) (O : c.Ok W) (p pos : Pos), c.env.kindOf "Headers" = some .globalImplicit → SE W k c true tHdr.inj (.Call (.Name "Headers" p) [] [] pos) (fun _ => some [])
  get : ∀ (c : Fx) (O : c.Ok W) (i : Nat) {l : Loc} {p ap pos : Pos} {e : Expr} {m : St → Option Sg} {b : Bool} {pl : Sem Bool}, c.loc[i]? = some l → l.name = "table" → SE W k c b AV.str e m → (∀ rest, starEach (e :: rest) c.env = (false, eval e c.env) :: starEach rest c.env) →
    eval (.Call (.Attribute (.Name "table" p) "get_all" ap) [e] [] pos) c.env = (do
      let ov ← eval (.Name "table" p) c.env
      standAt ap.atName
      let (f, first) ← holding [ov] (getMethod ov "get_all" pl)
      callWith pos f first (backTo pos (starEach [e] c.env)) []) →
    SE W k c true AV.sl (.Call (.Attribute (.Name "table" p) "get_all" ap) [e] [] pos) (op2 getF (look tHdr i) m)
  add : ∀ (c : Fx) (O : c.Ok W) (i : Nat) {l : Loc} {p ap pos pos2 : Pos} {e1 e2 : Expr} {m1 m2 : St → Option Sg} {b1 b2 : Bool} {pl : Sem Bool}, c.loc[i]? = some l → l.name = "table" → interactive c.env = false → SE W k c b1 AV.str e1 m1 → SE W k c b2 AV.str e2 m2 →
    (∀ rest, starEach (e1 :: rest) c.env = (false, eval e1 c.env) :: starEach rest c.env) → (∀ rest, starEach (e2 :: rest) c.env = (false, eval e2 c.env) :: starEach rest c.env) →
    swapsWith (.Call (.Attribute (.Name "table" p) "add_header" ap) [e1, e2] [] pos2) none pos.line c.env = pure false →
    eval (.Call (.Attribute (.Name "table" p) "add_header" ap) [e1, e2] [] pos2) c.env = (do
      let ov ← eval (.Name "table" p) c.env
      standAt ap.atName
      let (f, first) ← holding [ov] (getMethod ov "add_header" pl)
      callWith pos2 f first (backTo pos2 (starEach [e1, e2] c.env)) []) →
    SP W k c i (.Expr (.Call (.Attribute (.Name "table" p) "add_header" ap) [e1, e2] [] pos2) pos) (addM i m1 m2)
def m_law : St → Option (Fl × St) :=
  (andThen (setF 6 AV.str (cS []))
    (andThen (setF 7 AV.int (cI 0))
    (andThen (forM 8 AV.int (listM tIl 4) (andThen (augF tStr 6 catF (op2 catF (op2 mulF (cS [41]) (op2 subI (look tInt 7) (look tInt 8))) (cS [40])))
    (setF 7 AV.int (op2 addI (look tInt 8) (cI 1)))))
    (andThen (augF tStr 6 catF (op2 mulF (cS [41]) (look tInt 7)))
    (andThen (setF 9 AV.str (op2 joinF (cS []) (compM AV.int [2, 3, 6] (range1M (cI 10)) (fun _ => some true) (op2 catF (op2 idxT (look tStr 3) (look tInt 0)) (op2 idxL (look tSl 2) (op2 modF (op2 addI (look tInt 1) (look tInt 0)) (cI 7)))))))
    (andThen (ifF (orM (op2 isNotBF (callM tBool gCK (mAll [(scM AV.str (look tStr 9))])) (cB true)) (op2 neS (callM tStr gBA (mAll [(scM AV.str (look tStr 9))])) (look tStr 6))) (retF AV.bool (cB false)) done)
    (andThen (forM 10 AV.int (range1M (cI 2)) (andThen (setF 11 tHdr.inj (fun _ => some []))
    (andThen (forM 12 AV.int (range1M (cI 5)) (andThen (setF 13 AV.str (op2 idxL (look tSl 3) (op2 modF (op2 addI (op2 addI (look tInt 2) (look tInt 10)) (look tInt 12)) (cI 7))))
    (andThen (addM 11 (op2 idxT (cS [97, 66, 99, 68, 101, 70]) (op2 idxL (look tIl 4) (look tInt 12))) (op2 catF (cS [40]) (look tStr 13)))
    (addM 11 (op2 idxT (cS [65, 98, 67, 100, 69, 102]) (op2 addI (op2 idxL (look tIl 4) (look tInt 12)) (cI 1))) (op2 catF (look tStr 13) (cS [41]))))))
    (andThen (setF 9 AV.str (op2 joinF (cS []) (compM AV.str [11] (textM (cS [97, 98, 99, 68, 69, 70])) (fun _ => some true) (op2 joinF (cS []) (op2 getF (look tHdr 1) (look tStr 0))))))
    (andThen (ifF (op2 isNotBF (callM tBool gCK (mAll [(scM AV.str (look tStr 9))])) (cB true)) (retF AV.bool (cB false)) done)
    (andThen (setF 14 AV.str (callM tStr gBA (mAll [(scM AV.str (look tStr 9))])))
    (andThen (setF 15 AV.il (listI []))
    (andThen (forM 8 AV.int (range1M (cI 5)) (forM 12 AV.int (range1M (cI 5)) (ifF (op2 eqI (op2 idxL (look tIl 4) (look tInt 12)) (look tInt 8)) (appF tIl 15 (op2 addI (op2 countF (op2 takeL (look tIl 4) (look tInt 12)) (look tInt 8)) (op2 countF (op2 dropL (look tIl 4) (op2 addI (look tInt 12) (cI 1))) (op2 subI (look tInt 8) (cI 1))))) done)))
    (andThen (ifF (op2 neLF (callM tIl gLV (mAll [(scM AV.str (look tStr 14))])) (look tIl 15)) (retF AV.bool (cB false)) done)
    (andThen (setF 16 AV.il (listI []))
    (andThen (setF 17 AV.int (cI 0))
    (andThen (forM 8 AV.int (listM tIl 4) (andThen (augF tInt 17 addI (op2 subI (callM tInt gBR2 (slotArg 16 [(scM AV.int (op2 addI (look tInt 8) (cI 1)))])) (callM tInt gBL2 (slotArg 16 [(scM AV.int (look tInt 8))]))))
    (callWF 16 gIN [(scM AV.int (look tInt 8))])))
    (andThen (ifF (op2 neI (op1 sumF (look tIl 15)) (look tInt 17)) (retF AV.bool (cB false)) done)
    (andThen (setF 18 tIl.inj (compM AV.int [14] (range1M (cI 10)) (op2 eqS (op2 idxT (look tStr 1) (look tInt 0)) (cS [40])) (look tInt 0)))
    (andThen (setF 19 tIl.inj (compM AV.int [14] (range1M (cI 10)) (op2 eqS (op2 idxT (look tStr 1) (look tInt 0)) (cS [41])) (look tInt 0)))
    (andThen (setF 20 AV.il (listI [(cI 0)]))
    (andThen (forM 21 AV.int (range1M (cI 5)) (ifF (op2 ltI (op2 idxL (look tIl 20) (cI (-1))) (cI 5)) (appF tIl 20 (callM tInt gBL2 (slotArg 18 [(scM AV.int (op2 idxL (look tIl 19) (op2 idxL (look tIl 20) (cI (-1)))))]))) done))
    (andThen (setF 22 tIl.inj (compM AV.int [20] (range1M (op2 subI (op1 lenF (look tIl 20)) (cI 1))) (fun _ => some true) (op2 subI (op2 idxL (look tIl 1) (op2 addI (look tInt 0) (cI 1))) (op2 idxL (look tIl 1) (look tInt 0)))))
    (andThen (ifF (op2 neLF (look tIl 22) (compM AV.int [4] (range1M (op2 addI (op1 maxF (look tIl 4)) (cI 1))) (fun _ => some true) (op2 countF (look tIl 1) (look tInt 0)))) (retF AV.bool (cB false)) done)
    (andThen (ifF (op2 neLF (callM tIl gHM (slotArg2 (scM AV.str (look tStr 14)) 22)) (look tIl 4)) (retF AV.bool (cB false)) done)
    (moveF 4 15)))))))))))))))))))))
    (retF AV.bool (cB true)))))))))
theorem s_law (W : Wd) (k : Nat) (L a : Addr) (cd : Value) (T : TopF W) (G : Nm W) (HD : HdOk W k) {faCK : Addr} (aCK : FnAt W "_check_parenthesis" faCK) (hCK : FnP W k faCK [] gCK) {faBA : Addr} (aBA : FnAt W "_law_bare" faBA) (hBA : FnP W k faBA [] gBA) {faLV : Addr} (aLV : FnAt W "_law_levels" faLV) (hLV : FnP W k faLV [] gLV) {faHM : Addr} (aHM : FnAt W "_law_home" faHM) (hHM : FnP W k faHM [] gHM) {faBR : Addr} (aBR : FnAt W "bisect_right" faBR) (hBR : FnP W k faBR [] gBR2) {faBL : Addr} (aBL : FnAt W "bisect_left" faBL) (hBL : FnP W k faBL [] gBL2) {faIN : Addr} (aIN : FnAt W "insort_left" faIN) (hIN : FnW W k faIN [] gIN) (O : (lawFx L a cd).Ok W) : SS W k (lawFx L a cd) [1, 2, 3, 4, 5, 6, 7, 8, 9, 10, 11, 12, 13, 14, 15, 16, 17, 18, 19, 20, 21, 22] ((bodyOf (stAt 20)).drop 5) m_law :=
  (SS_cons (S1_assign O (SE_str (l := []) (by rfl)) 6 rfl rfl (by decide) (nfc O 6 rfl (by rfl)))
      (SS_cons (S1_assign O SE_int 7 rfl rfl (by decide) (nf O 7 rfl))
      (SS_cons (S1_weak (Wr' := [6, 7, 8]) (S1_for O 8 rfl rfl (by decide) (nf O 8 rfl) (IT_list O il_at 4 rfl rfl (by decide) (by rfl) (by rfl)) (SS_cons (S1_aug (T := tStr) O (SE_bin (SE_bin (SE_str (l := [41]) (by rfl)) (SE_bin (SE_var tInt O 7 rfl rfl) (SE_var tInt O 8 rfl rfl) op_subI) op_mulS) (SE_str (l := [40]) (by rfl)) op_addS) op_iaddS 6 rfl rfl (by decide) (nfc O 6 rfl (by rfl)))
      (SS_one (S1_assign O (SE_bin (SE_var tInt O 8 rfl rfl) SE_int op_addI) 7 rfl rfl (by decide) (nf O 7 rfl))))) (by decide))
      (SS_cons (S1_aug (T := tStr) O (SE_bin (SE_str (l := [41]) (by rfl)) (SE_var tInt O 7 rfl rfl) op_mulS) op_iaddS 6 rfl rfl (by decide) (nfc O 6 rfl (by rfl)))
      (SS_cons (S1_assign O (SE_meth1 (SE_str (l := []) (by rfl)) (SE_comp (caps := [2, 3, 6]) (locs := [.cell "turn" (L + 1), .cell "dress" (L + 2), .cell "row" (L + 4)]) mk_sl scal'_str O (IT_range1 T O G.range (by rfl) SE_int) (by rfl) (by decide) rfl (by decide) (by rfl) (fun Cx => capOk3 rfl (by rfl) (by rfl) (by rfl) (by decide) rfl (by rfl) (by rfl) rfl (by rfl) (by rfl) rfl (by rfl) (by rfl)) (fun Cx OC => CT_nil) (fun Cx OC => (SE_bin (SE_itemT (SE_var tStr OC 3 rfl rfl (by rfl) (by rfl)) (SE_var tInt OC 0 rfl rfl)) (SE_itemS (SE_var tSl OC 2 rfl rfl (by rfl) (by rfl)) (SE_bin (SE_bin (SE_var tInt OC 1 rfl rfl (by rfl) (by rfl)) (SE_var tInt OC 0 rfl rfl) op_addI) SE_int op_modI)) op_addS))) (gm_str PySem.F.slot_str_join rfl) op_join) 9 rfl rfl (by decide) (nf O 9 rfl))
      (SS_cons (S1_ifF (ST_or (ST_cmp (CS tBool T O aCK (by rfl) hCK (.cons (SE_var tStr O 9 rfl rfl) (fun _ => rfl) (by intro _; rfl) .nil)) SE_bool op_isNotB) (ST_cmp (CS tStr T O aBA (by rfl) hBA (.cons (SE_var tStr O 9 rfl rfl) (fun _ => rfl) (by intro _; rfl) .nil)) (SE_var tStr O 6 rfl rfl (by rfl) (by rfl)) op_neS)) (SS_one (S1_return SE_bool)) SS_nil)
      (SS_cons (S1_weak (Wr' := [4, 8, 9, 10, 11, 12, 13, 14, 15, 16, 17, 18, 19, 20, 21, 22]) (S1_for O 10 rfl rfl (by decide) (nf O 10 rfl) (IT_range1 T O G.range (by rfl) SE_int) (SS_cons (S1_assign O (HD.new _ O _ _ (by rfl)) 11 rfl rfl (by decide) (nfc O 11 rfl (by rfl)))
      (SS_cons (S1_weak (Wr' := [11, 12, 13]) (S1_for O 12 rfl rfl (by decide) (nf O 12 rfl) (IT_range1 T O G.range (by rfl) SE_int) (SS_cons (S1_assign O (SE_itemS (SE_var tSl O 3 rfl rfl (by rfl) (by rfl)) (SE_bin (SE_bin (SE_bin (SE_var tInt O 2 rfl rfl (by rfl) (by rfl)) (SE_var tInt O 10 rfl rfl) op_addI) (SE_var tInt O 12 rfl rfl) op_addI) SE_int op_modI)) 13 rfl rfl (by decide) (nf O 13 rfl))
      (SS_cons (SP.s1 (HD.add _ O 11 rfl rfl (by rfl) (SE_itemT (SE_str (l := [97, 66, 99, 68, 101, 70]) (by rfl)) (SE_itemI (SE_var tIl O 4 rfl rfl (by rfl) (by rfl)) (SE_var tInt O 12 rfl rfl))) (SE_bin (SE_str (l := [40]) (by rfl)) (SE_var tStr O 13 rfl rfl) op_addS) (by intro _; rfl) (by intro _; rfl) (by rfl) (by rfl)) (by decide))
      (SS_one (SP.s1 (HD.add _ O 11 rfl rfl (by rfl) (SE_itemT (SE_str (l := [65, 98, 67, 100, 69, 102]) (by rfl)) (SE_bin (SE_itemI (SE_var tIl O 4 rfl rfl (by rfl) (by rfl)) (SE_var tInt O 12 rfl rfl)) SE_int op_addI)) (SE_bin (SE_var tStr O 13 rfl rfl) (SE_str (l := [41]) (by rfl)) op_addS) (by intro _; rfl) (by intro _; rfl) (by rfl) (by rfl)) (by decide)))))) (by decide))
      (SS_cons (S1_assign O (SE_meth1 (SE_str (l := []) (by rfl)) (SE_comp (caps := [11]) (locs := [.cell "table" (L + 5)]) mk_sl scal'_str O (IT_text (SE_str (l := [97, 98, 99, 68, 69, 70]) (by rfl))) (by rfl) (by decide) rfl (by decide) (by rfl) (fun Cx => capOk1 rfl (by rfl) (by rfl) (by rfl) rfl (by rfl) (by rfl)) (fun Cx OC => CT_nil) (fun Cx OC => (SE_meth1 (SE_str (l := []) (by rfl)) (HD.get _ OC 1 rfl rfl (SE_var tStr OC 0 rfl rfl) (by intro _; rfl) (by rfl)) (gm_str PySem.F.slot_str_join rfl) op_join))) (gm_str PySem.F.slot_str_join rfl) op_join) 9 rfl rfl (by decide) (nf O 9 rfl))
      (SS_cons (S1_ifF (ST_cmp (CS tBool T O aCK (by rfl) hCK (.cons (SE_var tStr O 9 rfl rfl) (fun _ => rfl) (by intro _; rfl) .nil)) SE_bool op_isNotB) (SS_one (S1_return SE_bool)) SS_nil)
      (SS_cons (S1_assign O (CS tStr T O aBA (by rfl) hBA (.cons (SE_var tStr O 9 rfl rfl) (fun _ => rfl) (by intro _; rfl) .nil)) 14 rfl rfl (by decide) (nfc O 14 rfl (by rfl)))
      (SS_cons (S1_assign O (SE_listI .nil) 15 rfl rfl (by decide) (nf O 15 rfl))
      (SS_cons (S1_weak (Wr' := [8, 12, 15]) (S1_for O 8 rfl rfl (by decide) (nf O 8 rfl) (IT_range1 T O G.range (by rfl) SE_int) (SS_one (S1_weak (Wr' := [12, 15]) (S1_for O 12 rfl rfl (by decide) (nf O 12 rfl) (IT_range1 T O G.range (by rfl) SE_int) (SS_one (S1_ifF (ST_cmp (SE_itemI (SE_var tIl O 4 rfl rfl (by rfl) (by rfl)) (SE_var tInt O 12 rfl rfl)) (SE_var tInt O 8 rfl rfl) op_eqI) (SS_one (SP.s1 (SP_append lst_il scal'_int O (SE_bin (SE_meth1 (SE_takeL (SE_var tIl O 4 rfl rfl (by rfl) (by rfl)) (SE_var tInt O 12 rfl rfl)) (SE_var tInt O 8 rfl rfl) (gm_list PySem.F.slot_list_count rfl) op_count) (SE_meth1 (SE_dropL (SE_var tIl O 4 rfl rfl (by rfl) (by rfl)) (SE_bin (SE_var tInt O 12 rfl rfl) SE_int op_addI)) (SE_bin (SE_var tInt O 8 rfl rfl) SE_int op_subI) (gm_list PySem.F.slot_list_count rfl) op_count) op_addI) 15 rfl rfl (by rfl)) (by decide))) SS_nil))) (by decide)))) (by decide))
      (SS_cons (S1_ifF (ST_cmp (CS tIl T O aLV (by rfl) hLV (.cons (SE_var tStr O 14 rfl rfl (by rfl) (by rfl)) (fun _ => rfl) (by intro _; rfl) .nil)) (SE_var tIl O 15 rfl rfl) op_neL) (SS_one (S1_return SE_bool)) SS_nil)
      (SS_cons (S1_assign O (SE_listI .nil) 16 rfl rfl (by decide) (nf O 16 rfl))
      (SS_cons (S1_assign O SE_int 17 rfl rfl (by decide) (nf O 17 rfl))
      (SS_cons (S1_weak (Wr' := [8, 16, 17]) (S1_for O 8 rfl rfl (by decide) (nf O 8 rfl) (IT_list O il_at 4 rfl rfl (by decide) (by rfl) (by rfl)) (SS_cons (S1_aug (T := tInt) O (SE_bin (CL tInt T O aBR (by rfl) hBR 16 rfl rfl (.cons (SE_bin (SE_var tInt O 8 rfl rfl) SE_int op_addI) (fun _ => rfl) (by intro _; rfl) .nil)) (CL tInt T O aBL (by rfl) hBL 16 rfl rfl (.cons (SE_var tInt O 8 rfl rfl) (fun _ => rfl) (by intro _; rfl) .nil)) op_subI) op_iaddI 17 rfl rfl (by decide) (nf O 17 rfl))
      (SS_one (SP.s1 (CW T O aIN (by rfl) hIN 16 rfl rfl (.cons (SE_var tInt O 8 rfl rfl) (fun _ => rfl) (by intro _; rfl) .nil)) (by decide))))) (by decide))
      (SS_cons (S1_ifF (ST_cmp (SE_call1 T O (by rfl) G.sum (by rfl) (SE_var tIl O 15 rfl rfl) op_sum) (SE_var tInt O 17 rfl rfl) op_neI) (SS_one (S1_return SE_bool)) SS_nil)
      (SS_cons (S1_comp (caps := [14]) (locs := [.cell "bare" (L + 6)]) mk_il scal'_int O (IT_range1 T O G.range (by rfl) SE_int) (by rfl) (by decide) rfl (by decide) (by rfl) (fun Cx => capOk1 rfl (by rfl) (by rfl) (by rfl) rfl (by rfl) (by rfl)) (fun Cx OC => CT_one (ST_cmp (SE_itemT (SE_var tStr OC 1 rfl rfl (by rfl) (by rfl)) (SE_var tInt OC 0 rfl rfl)) (SE_str (l := [40]) (by rfl)) op_eqS)) (fun Cx OC => (SE_var tInt OC 0 rfl rfl)) 18 rfl rfl (by decide) (nf O 18 rfl) (by rfl))
      (SS_cons (S1_comp (caps := [14]) (locs := [.cell "bare" (L + 6)]) mk_il scal'_int O (IT_range1 T O G.range (by rfl) SE_int) (by rfl) (by decide) rfl (by decide) (by rfl) (fun Cx => capOk1 rfl (by rfl) (by rfl) (by rfl) rfl (by rfl) (by rfl)) (fun Cx OC => CT_one (ST_cmp (SE_itemT (SE_var tStr OC 1 rfl rfl (by rfl) (by rfl)) (SE_var tInt OC 0 rfl rfl)) (SE_str (l := [41]) (by rfl)) op_eqS)) (fun Cx OC => (SE_var tInt OC 0 rfl rfl)) 19 rfl rfl (by decide) (nf O 19 rfl) (by rfl))
      (SS_cons (S1_assign O (SE_listI (.cons SE_int (by intro _; rfl) .nil)) 20 rfl rfl (by decide) (nfc O 20 rfl (by rfl)))
      (SS_cons (S1_weak (Wr' := [20, 21]) (S1_for O 21 rfl rfl (by decide) (nf O 21 rfl) (IT_range1 T O G.range (by rfl) SE_int) (SS_one (S1_ifF (ST_cmp (SE_itemI (SE_var tIl O 20 rfl rfl (by rfl) (by rfl)) SE_neg) SE_int op_ltI) (SS_one (SP.s1 (SP_append lst_il scal'_int O (CL tInt T O aBL (by rfl) hBL 18 rfl rfl (.cons (SE_itemI (SE_var tIl O 19 rfl rfl) (SE_itemI (SE_var tIl O 20 rfl rfl (by rfl) (by rfl)) SE_neg)) (fun _ => rfl) (by intro _; rfl) .nil)) 20 rfl rfl (by rfl) (by rfl) (by rfl)) (by decide))) SS_nil))) (by decide))
      (SS_cons (S1_comp (caps := [20]) (locs := [.cell "stops" (L + 7)]) mk_il scal'_int O (IT_range1 T O G.range (by rfl) (SE_bin (SE_call1 T O (by rfl) G.len (by rfl) (SE_var tIl O 20 rfl rfl (by rfl) (by rfl)) op_lenL) SE_int op_subI)) (by rfl) (by decide) rfl (by decide) (by rfl) (fun Cx => capOk1 rfl (by rfl) (by rfl) (by rfl) rfl (by rfl) (by rfl)) (fun Cx OC => CT_nil) (fun Cx OC => (SE_bin (SE_itemI (SE_var tIl OC 1 rfl rfl (by rfl) (by rfl)) (SE_bin (SE_var tInt OC 0 rfl rfl) SE_int op_addI)) (SE_itemI (SE_var tIl OC 1 rfl rfl (by rfl) (by rfl)) (SE_var tInt OC 0 rfl rfl)) op_subI)) 22 rfl rfl (by decide) (nf O 22 rfl) (by rfl))
      (SS_cons (S1_ifF (ST_cmp (SE_var tIl O 22 rfl rfl) (SE_comp (caps := [4]) (locs := [.cell "levels" (L + 3)]) mk_il scal'_int O (IT_range1 T O G.range (by rfl) (SE_bin (SE_call1 T O (by rfl) G.max (by rfl) (SE_var tIl O 4 rfl rfl (by rfl) (by rfl)) op_max) SE_int op_addI)) (by rfl) (by decide) rfl (by decide) (by rfl) (fun Cx => capOk1 rfl (by rfl) (by rfl) (by rfl) rfl (by rfl) (by rfl)) (fun Cx OC => CT_nil) (fun Cx OC => (SE_meth1 (SE_var tIl OC 1 rfl rfl (by rfl) (by rfl)) (SE_var tInt OC 0 rfl rfl) (gm_list PySem.F.slot_list_count rfl) op_count))) op_neL) (SS_one (S1_return SE_bool)) SS_nil)
      (SS_cons (S1_ifF (ST_cmp (C2 tIl T O aHM (by rfl) hHM (SE_var tStr O 14 rfl rfl (by rfl) (by rfl)) (fun _ => rfl) 22 rfl rfl) (SE_var tIl O 4 rfl rfl (by rfl) (by rfl)) op_neL) (SS_one (S1_return SE_bool)) SS_nil)
      (SS_one (S1_move O 4 15 rfl rfl rfl rfl (by decide) (by decide) (by decide) (nfc O 4 rfl (by rfl)))))))))))))))))))))))) (by decide))
      (SS_one (S1_return SE_bool)))))))))
end Mine

namespace Mine
open PySem.Builtin PySem.Builtin.Re

theorem plain_pat : PlainAttrs "re.Pattern" := ⟨⟨"object.__getattribute__", by rw [typeLookup_type, builtinLookup_eq_fast]; kernel_rfl, by decide +kernel⟩, by rw [typeLookup_type, builtinLookup_eq_fast]; kernel_rfl⟩
theorem slot_search : Slot "re.Pattern" "search" "re.Pattern.search" :=
  .of (owner := "re.Pattern") (n := "search") (by rw [typeLookup_type, builtinLookup_eq_fast]; kernel_rfl) (by decide +kernel) (by decide +kernel) (by decide +kernel)
    (by first | exact .inl (by decide +kernel) | exact .inr (by decide +kernel)) (by rw [isSubtype_type]; kernel_rfl)
theorem entry_search : entryFor table "re.Pattern.search" = some Builtin.«re.Pattern.search» := entryFor_of_tree (by kernel_rfl)
theorem args_search (a b : Value) : argsOk "re.Pattern.search" ⟨[a, b], []⟩ := by unfold argsOk; kernel_rfl

/-- turns of the engine, to its end -/
def driveN : Nat → Sre.M → Option Sre.M
  | 0, _ => none
  | n + 1, m => if (m.runFor reTurnSteps).outcome.isSome then some (m.runFor reTurnSteps) else driveN n (m.runFor reTurnSteps)

section
variable {M : Model} {A : Around} {E : Value → Shared → Prop} {s : Shared}
theorem drive_ok : ∀ (n t : Nat) (m m' : Sre.M) {Q : Sre.M → Shared → Prop}, driveN n m = some m' → n ≤ t → Q m' s → wpAny M A (reDrive t m) Q E s := by
  intro n
  induction n with
  | zero => intro t m m' Q h; cases h
  | succ n ih =>
    intro t m m' Q h ht hQ
    cases t with
    | zero => omega
    | succ t =>
      unfold driveN at h
      unfold reDrive
      dsimp only
      split at h
      · rename_i h1
        cases h
        rw [if_pos h1]
        exact wpAny_pure hQ
      · rename_i h1
        rw [if_neg h1]
        exact wpAny_bind (wpAny_rule (ih t _ m' h (by omega) hQ))

theorem forRules {f : Nat → PUnit → Sem (ForInStep PUnit)} (hf : ∀ x (Q : ForInStep PUnit → Shared → Prop), Q (.yield ⟨⟩) s → wpAny M A (f x ⟨⟩) Q E s) : ∀ (l : List Nat) (Q : PUnit → Shared → Prop), Q ⟨⟩ s → wpAny M A (forIn l ⟨⟩ f) Q E s
  | [], Q, h => wpAny_pure h
  | x :: r, Q, h => by
    rw [List.forIn_cons]
    exact wpAny_bind (hf x _ (forRules hf r Q h))

def failed (m : Option Sre.M) : Bool := match m with
  | some m => (match m.outcome with | some .failed => true | _ => false)
  | none => false

theorem run_failed {m : Sre.M} {n : Nat} {Q : Option Sre.M → Shared → Prop} (h : failed (driveN n m) = true) (hn : n ≤ 2 ^ 64) (hQ : Q none s) : wpAny M A (reRunToEnd m) Q E s := by
  unfold failed at h
  split at h
  case h_2 => cases h
  rename_i m' e
  unfold reRunToEnd
  refine wpAny_bind (drive_ok n _ m m' e hn ?_)
  refine wpAny_bind (forRules (fun x Q hQ => ?_) _ _ ?_)
  · split
    · exact wpAny_bind (wpAny_rule (wpAny_pure hQ))
    · exact wpAny_pure hQ
  · split at h
    · rename_i e2
      rw [e2]
      exact wpAny_pure hQ
    · cases h
end
end Mine

namespace Mine
open PySem.Builtin PySem.Builtin.Re

theorem named_one (v : Value) : reNamed "re.Pattern.search" "search" ["string", "pos", "endpos"] 1 [v] [] = pure [some v, none, none] := by kernel_rfl

structure PatAt (h : Heap) (p : Addr) (codes : List Nat) : Prop where
  ex : ∃ f0 t1 t2 cp ob items n, h.get? p = some { cls := .type "re.Pattern", data := .fields #[f0, .int 32 t1, .int 0 t2, .none, .none, .ref cp, .int 0 0] } ∧ h.get? cp = some ob ∧ ob.data = .seq items n ∧ (items.map reRawOf).map (·.toNat) = codes.toArray
theorem PatAt.keeps {h h' : Heap} {p : Addr} {codes : List Nat} (x : PatAt h p codes) (hk : ∀ b o, h.get? b = some o → h'.get? b = some o) : PatAt h' p codes := by
  obtain ⟨f0, t1, t2, cp, ob, items, n, h1, h2, h3, h4⟩ := x.ex
  exact ⟨f0, t1, t2, cp, ob, items, n, hk _ _ h1, hk _ _ h2, h3, h4⟩

section
variable {prog : Program} {w : World} {A : Around} {E : Value → Shared → Prop} {s : Shared}
theorem search_none {p : Addr} {codes : List Nat} {l : Sg} {t : Tok} {N : Nat} {Q : Value → Shared → Prop} (X : PatAt s.heap p codes) (hf : failed (driveN N (Sre.forSearch codes.toArray l.toArray 0 0 l.length false)) = true) (hN : N ≤ 2 ^ 64) (hz : l.length ≤ 1000) (hQ : Q .none s) :
    wpAny (model prog w) A (call (.builtin "re.Pattern.search") [.ref p, .str (txt l) t]) Q E s := by
  obtain ⟨f0, t1, t2, cp, ob, items, n, h1, h2, h3, h4⟩ := X.ex
  refine wpAny_call_entry slot_search ⟨_, h1, rfl⟩ entry_search ?_ (args_search _ _)
  unfold Builtin.«re.Pattern.search» reTarget
  dsimp only
  rw [named_one]
  refine wpAny_bind (wpAny_bind (wpAny_pure ?_))
  refine wpAny_bind (wpAny_pure (wpAny_bind (wpAny_pure ?_)))
  refine wpAny_bind (wpAny_fieldsOf h1 rfl ?_)
  refine wpAny_bind (wpAny_of_eq (a := ((txt l).cps, 0)) rfl ?_)
  rw [if_neg (by simp), if_neg (by simp [reRawNat])]
  refine wpAny_bind (wpAny_of_eq (a := ⟨⟩) rfl ?_)
  show wpAny _ _ (reRawItems (.ref cp) >>= _) _ _ _
  unfold reRawItems
  refine wpAny_bind (wpAny_bind (wpAny_seqItems h2 h3 (wpAny_pure (wpAny_pure ?_))))
  dsimp only [Option.getD_some]
  rw [h4]
  unfold reAnswer
  dsimp only
  have e1 : min (2 ^ 63 - 1 : Int).toNat (txt l).cps.size = l.length := by
    have : (txt l).cps.size = l.length := by simp [txt]
    rw [this]
    have : (2 ^ 63 - 1 : Int).toNat = 9223372036854775807 := by decide
    rw [this]
    omega
  rw [e1]
  refine wpAny_bind (run_failed (by exact hf) hN ?_)
  exact wpAny_pure ⟨_, rfl, hQ⟩
end
end Mine

namespace Mine
section
variable {W : Wd} {k : Nat} {c : Fx}

def tPat : Ty Addr := ⟨.pat, fun | .pat i => some i | _ => none, fun av a h => by cases av <;> simp at h; subst h; rfl⟩

theorem is_str_str {M : Model} {A : Around} {E : Value → Shared → Prop} {s : Shared} {Q : Value → Shared → Prop} (h : Q (.bool true) s) : wpAny M A (compareOp .Is (.type "str") (.type "str")) Q E s :=
  wpAny_of_eq (a := .bool true) (by rfl) h

theorem ST_isStr {b1 : Bool} {e : Expr} {m : St → Option Sg} {p q pos cpos : Pos} (T : TopF W) (O : c.Ok W) (hg : W.mg "type" = none) (hg' : W.mg "str" = none) (hx : c.env.kindOf "type" = some .globalImplicit) (hx' : c.env.kindOf "str" = some .globalImplicit) (h : SE W k c b1 AV.str e m)
    (hb : behindInMarks .Is (.Name "str" q) = false := by with_unfolding_all rfl)
    (he : eval (.Call (.Name "type" p) [e] [] pos) c.env = (do callWith pos (← eval (.Name "type" p) c.env) [] (backTo pos (starEach [e] c.env)) (backToKw pos (keywordEach [] c.env))) := by rfl)
    (hs : ∀ rest, starEach (e :: rest) c.env = (false, eval e c.env) :: starEach rest c.env := by intro _; rfl) :
    ST W k c (.Compare (.Call (.Name "type" p) [e] [] pos) [.Is] [.Name "str" q] cpos) (op1 (fun _ => some true) m) := by
  intro A hA σ s V F Q E b R hm hQ
  obtain ⟨x, e1, e2⟩ := op1_some hm
  cases e2
  refine wpAny_isTrue_Compare1 (hm := hb) ?_
  refine Call_ (he := he) (wp_builtin (v := .type "type") T O R (by rfl) hg hx ?_)
  refine callWith_type1 (he := hs _) (args_cons (he := hs _) (h A hA σ s V F _ E x R e1 fun v1 s1 F1 k1 r1 _ => args_nil ?_))
  cases r1 with | str _ t1 =>
  refine call_type_of (typeIs_str _ _ _) (by decide) ?_
  refine wp_builtin (v := .type "str") T O (R.kp k1) (by rfl) hg' hx' ?_
  exact is_str_str (wpAny_truthy_bool (hQ _ k1))

/-- one of two patterns by a test -/
def pickM (t : St → Option Bool) (p1 p2 : Addr) (σ : St) : Option Addr := match t σ with
  | some b => some (if b then p1 else p2)
  | none => none
theorem SE_pick {test : Expr} {g1 g2 : Str} {q1 q2 pos : Pos} {t : St → Option Bool} {p1 p2 : Addr} (T : TopF W) (O : c.Ok W) (ht : ST W k c test t) (h1 : W.mg g1 = some (.ref p1)) (h2 : W.mg g2 = some (.ref p2)) (k1 : c.env.kindOf g1 = some .globalImplicit) (k2 : c.env.kindOf g2 = some .globalImplicit)
    (d1 : (g1 == ("__debug__" : Str)) = false := by decide) (d2 : (g2 == ("__debug__" : Str)) = false := by decide) :
    SE W k c true tPat.inj (.IfExp test (.Name g1 q1) (.Name g2 q2) pos) (pickM t p1 p2) := by
  intro A hA σ s V F Q E a R hm hQ
  unfold pickM at hm
  split at hm
  case h_2 => cases hm
  rename_i b e
  cases hm
  refine IfExp_ (ht A hA σ s V F _ E b R e fun s1 kp => ?_)
  cases b with
  | true =>
    simp only [if_true]
    exact wp_fn T O (R.kp kp) h1 k1 (hQ _ s1 [] kp (.pat _) fun _ _ hx => nomatch hx) d1
  | false =>
    simp only [Bool.false_eq_true, if_false]
    exact wp_fn T O (R.kp kp) h2 k2 (hQ _ s1 [] kp (.pat _) fun _ _ hx => nomatch hx) d2

/-- the texts in which a pattern finds nothing -/
def okTexts (codes : List Nat) (l : Sg) : Prop := ∃ N, N ≤ 2 ^ 64 ∧ l.length ≤ 1000 ∧ failed (driveN N (Sre.forSearch codes.toArray l.toArray 0 0 l.length false)) = true

def searchM (ps : Addr → Option (List Sg)) (i : Nat) (m : St → Option Sg) (σ : St) : Option Bool := match look tPat i σ with
  | some p => match m σ with
    | some x => match ps p with
      | some l => if l.contains x then some false else none
      | none => none
    | none => none
  | none => none
/-- regex.search(value), by its truth -/
theorem ST_search {x : Str} {p ap pos : Pos} {pl : Sem Bool} {b1 : Bool} {e : Expr} {m : St → Option Sg} {ps : Addr → Option (List Sg)} (O : c.Ok W) (i : Nat) {l : Loc} (hl : c.loc[i]? = some l) (hx : l.name = x)
    (hps : ∀ p l, ps p = some l → ∃ codes, PatAt W.G p codes ∧ ∀ y ∈ l, okTexts codes y) (h : SE W k c b1 AV.str e m) (hd : (x == ("__debug__" : Str)) = false := by decide) (hcd : (x == ("__classdict__" : Str)) = false := by decide)
    (ht : ∀ whole, isTrue (.Call (.Attribute (.Name x p) "search" ap) [e] [] pos) c.env whole = (do let v ← whole; standAt pos; holding [v] (truthy v)) := by intro _; rfl)
    (he : eval (.Call (.Attribute (.Name x p) "search" ap) [e] [] pos) c.env = (do
      let ov ← eval (.Name x p) c.env
      standAt ap.atName
      let (f, first) ← holding [ov] (getMethod ov "search" pl)
      callWith pos f first (backTo pos (starEach [e] c.env)) []) := by rfl)
    (hs : ∀ rest, starEach (e :: rest) c.env = (false, eval e c.env) :: starEach rest c.env := by intro _; rfl) :
    ST W k c (.Call (.Attribute (.Name x p) "search" ap) [e] [] pos) (searchM ps i m) := by
  intro A hA σ s V F Q E b R hm hQ
  unfold searchM at hm
  split at hm
  case h_2 => cases hm
  rename_i pa e1
  split at hm
  case h_2 => cases hm
  rename_i y e2
  split at hm
  case h_2 => cases hm
  rename_i ls e3
  split at hm
  case isFalse => cases hm
  rename_i hy
  cases hm
  obtain ⟨codes, PA, hok⟩ := hps pa ls e3
  obtain ⟨N, hN, hz, hf⟩ := hok y (by simpa using hy)
  have hav := look_some e1
  have hr := R.rep i _ hav
  have hVi : V i = .ref pa := by
    have hF := hr.scal rfl
    rw [hF] at hr
    generalize V i = v at hr
    cases hr; rfl
  rw [ht]
  refine wpAny_bind (MethodCall_ (he := he) (wpAny_mono (load_slot O hl hx R hav hd hcd) (fun v s' hv => ?_) fun _ _ x => x))
  obtain ⟨rfl, rfl⟩ := hv
  rw [hVi]
  have PA' := PA.keeps R.top
  obtain ⟨f0, t1, t2, cp, ob, items, n, h1, _⟩ := PA'.ex
  refine getMethod_builtin (v := .ref pa) ⟨_, h1, rfl⟩ plain_pat slot_search rfl (fun a e => by cases e; exact ⟨_, h1, rfl⟩) ?_
  refine callWith_method1 (he := hs _) (args_cons (he := hs _) (h A hA σ s' V F _ E y R e2 fun v1 s1 F1 k1 r1 _ => args_nil ?_))
  cases r1 with | str _ t =>
  refine search_none (PA.keeps (R.kp k1).top) hf hN hz ?_
  exact wpAny_bind (wpAny_standAt (wpAny_holding (wpAny_of_eq (a := false) (by rfl) (hQ _ k1))))
end
end Mine

namespace Mine

def clsAt (n : Nat) : Stmt := match (bodyOf (stAt 15)).drop n with
  | st :: _ => st
  | [] => .Pass ⟨0, 0, 0, 0⟩

/-- what is known of the class -/
structure HdC (W : Wd) (K : Frag) : Prop where
  X : K.In W.G
  ga : findIn K (.ref W.C) "__getattribute__" = some (some (.builtin "object.__getattribute__"))
  gt : findIn K (.ref W.C) "__getattr__" = some none
  dict : hasDictIn K W.C = true
  own : findIn K (.ref W.C) "_headers" = some none

def MethAt (W : Wd) (K : Frag) (name : Str) (f : Addr) : Prop := findIn K (.ref W.C) name = some (some (.ref f)) ∧ typeIn K (.ref f) = some (.type "function") ∧ ∃ o fd, W.G.get? f = some o ∧ o.data = .func fd

section
variable {W : Wd} {k : Nat} {c : Fx} {K : Frag}

theorem hdr_parts {h : Heap} {F : List Addr} {v : Value} {ps : List (Sg × Sg)} (r : Rep W.C h F v (.hdr ps)) : ∃ x dx l hsh tk n vs as, v = .ref x ∧ F = x :: dx :: l :: as ∧ h.get? x = some (instObj W.C dx) ∧ h.get? dx = some (dictOf [⟨hsh, .str "_headers" tk, .ref l⟩] n) ∧ h.PlainList l vs.toArray ∧ TupsAre h vs as ps := by
  cases r with | hdr h1 h2 h3 h4 => exact ⟨_, _, _, _, _, _, _, _, rfl, rfl, h1, h2, h3, h4⟩

theorem hdr_inst {h : Heap} {x dx l : Addr} {hsh : Int} {tk : Tok} {n : Nat} (h1 : h.get? x = some (instObj W.C dx)) (h2 : h.get? dx = some (dictOf [⟨hsh, .str "_headers" tk, .ref l⟩] n)) : InstAt h x (instObj W.C dx) W.C (some (dictOf [⟨hsh, .str "_headers" tk, .ref l⟩] n)) :=
  ⟨h1, rfl, rfl, h2⟩

theorem hdr_method (H : HdC W K) {name : Str} {f : Addr} (MA : MethAt W K name f) (hn : ("_headers" == name) = false) {A : Around} {s : Shared} {F : List Addr} {v : Value} {ps : List (Sg × Sg)} {pl : Sem Bool} {Q : Value × List Value → Shared → Prop} {E : Value → Shared → Prop}
    (top : ∀ b o, W.G.get? b = some o → s.heap.get? b = some o) (r : Rep W.C s.heap F v (.hdr ps)) (h : Q (.ref f, [v]) s) : wpAny (model W.prog W.w) A (getMethod v name pl) Q E s := by
  obtain ⟨x, dx, l, hsh, tk, n, vs, as, rfl, _, h1, h2, _⟩ := hdr_parts r
  obtain ⟨m1, m2, _⟩ := MA
  refine method_fn (fun a o e => top a o (H.X a o e)) (hdr_inst h1 h2) H.ga H.gt m1 m2 ?_ h
  show ((lookIn name (dictOf [⟨hsh, .str "_headers" tk, .ref l⟩] n)).map (·.isSome)) = some false
  rw [lookIn_dict]
  have e : ([⟨hsh, .str "_headers" tk, .ref l⟩] : List DictEntry).find? (·.key.isStr name) = none := by
    rw [List.find?_cons, show (DictEntry.key ⟨hsh, .str "_headers" tk, .ref l⟩).isStr name = false from hn, List.find?_nil]
  unfold getL
  rw [e]
  rfl

theorem hdr_attr (H : HdC W K) {A : Around} {s : Shared} {F : List Addr} {v : Value} {ps : List (Sg × Sg)} {expr : Bool} {Q : Value → Shared → Prop} {E : Value → Shared → Prop}
    (top : ∀ b o, W.G.get? b = some o → s.heap.get? b = some o) (r : Rep W.C s.heap F v (.hdr ps)) (h : ∀ x dx l vs as, v = .ref x → F = x :: dx :: l :: as → s.heap.PlainList l vs.toArray → TupsAre s.heap vs as ps → Q (.ref l) { s with toks := s.toks + 1 }) : wpAny (model W.prog W.w) A (getAttr v "_headers" expr) Q E s := by
  obtain ⟨x, dx, l, hsh, tk, n, vs, as, rfl, hF, h1, h2, h3, h4⟩ := hdr_parts r
  refine get_value (v := .ref l) (fun a o e => top a o (H.X a o e)) (hdr_inst h1 h2) H.ga (findObj_own H.dict H.own rfl ?_) rfl (h x dx l vs as rfl hF h3 h4)
  show lookIn _ (dictOf [⟨hsh, .str "_headers" tk, .ref l⟩] n) = _
  rw [lookIn_dict]
  rfl
end
end Mine

namespace Mine
section
variable {W : Wd} {k : Nat} {c : Fx} {K : Frag}

theorem SE_conv {B : Bool} {fC : Addr} {g : List AV → Option AV} {b1 : Bool} {e : Expr} {m : St → Option Sg} {p ap pos kp kpos : Pos} {kk : Nat} {pl : Sem Bool} (H : HdC W K) (MA : MethAt W K "_convert_string_type" fC) (O : c.Ok W) (i : Nat) {l : Loc} (hl : c.loc[i]? = some l) (hx : l.name = "self")
    (h : SE W k c b1 AV.str e m) (hf : FnP W k fC [("name", .bool B)] g) (hg : ∀ as r, g as = some r → ∃ ps rest, as = .hdr ps :: rest)
    (he : eval (.Call (.Attribute (.Name "self" p) "_convert_string_type" ap) [e] [⟨some "name", .Constant (.bool B) kk kp, kpos⟩] pos) c.env = (do
      let ov ← eval (.Name "self" p) c.env
      standAt ap.atName
      let (f, first) ← holding [ov] (getMethod ov "_convert_string_type" pl)
      callWith pos f first (backTo pos (starEach [e] c.env)) (backToKw pos (keywordEach [⟨some "name", .Constant (.bool B) kk kp, kpos⟩] c.env))) := by rfl)
    (hs : ∀ rest, starEach (e :: rest) c.env = (false, eval e c.env) :: starEach rest c.env := by intro _; rfl)
    (hall : (backToKw pos (keywordEach [⟨some "name", .Constant (.bool B) kk kp, kpos⟩] c.env)).all (·.1.isSome) = true := by rfl)
    (hz : ∀ v : Value, ((backToKw pos (keywordEach [⟨some "name", .Constant (.bool B) kk kp, kpos⟩] c.env)).filterMap (·.1)).zip [v] = [(("name" : Str), v)] := by intro _; rfl) :
    SE W k c true AV.str (.Call (.Attribute (.Name "self" p) "_convert_string_type" ap) [e] [⟨some "name", .Constant (.bool B) kk kp, kpos⟩] pos) (callM tStr g (slotArg i [scM AV.str m])) := by
  intro A hA σ s V F Q E a R hm hQ
  obtain ⟨l0, e1, e2⟩ := callM_some hm
  obtain ⟨av, as, e3, e4, rfl⟩ := slotArg_some e1
  obtain ⟨ps, rest, h0⟩ := hg _ _ e2
  cases h0
  have hav : σ[i]? = some (some (.hdr ps)) := look_some e3
  cases hmx : m σ with
  | none => simp only [mAll, scM, hmx, Option.map_none] at e4; cases e4
  | some x =>
    simp only [mAll, scM, hmx, Option.map_some] at e4
    cases e4
    have MA' := MA
    obtain ⟨_, _, o, fd, ho, hdat⟩ := MA'
    rw [he]
    refine wpAny_bind (wpAny_mono (load_slot O hl hx R hav) (fun v s' hv => ?_) fun _ _ x => x)
    obtain ⟨rfl, rfl⟩ := hv
    refine wpAny_bind (wpAny_standAt (wpAny_bind (wpAny_holding (hdr_method H MA (by decide) R.top (R.rep i _ hav) ?_))))
    refine callWith_function_kw (o := o) (fd := fd) (evalArgs_kw2 (he := hs _) hall (args_cons (he := hs _) (h A hA σ s' V F _ E x R hmx fun v1 s1 F1 k1 r1 _ => args_nil (kwAll_cons (Constant_bool (kwAll_nil ?_))))))
    rw [hz]
    have hF1 := r1.scal rfl
    subst hF1
    refine ⟨⟨(R.kp k1).top _ _ ho, hdat⟩, ?_⟩
    refine hf A hA s1 [V i, v1] [F i, []] _ Q E _ (R.kp k1).top (R.kp k1).gens (.cons ((R.kp k1).rep i _ hav) (.cons r1 .nil)) (by simp) (fun F' hF a ha => ?_) e2 fun v s'' F' k2 r hfr => hQ v s'' F' (k1.trans k2) r fun _ y hy => fresh_of k1 (hfr y hy)
    rcases List.mem_cons.mp hF with rfl | hF
    · exact (R.off i a ha).2
    · rcases List.mem_cons.mp hF with rfl | hF
      · cases ha
      · cases hF

def N_cv : List Str := ["self", "value", "name", "regex"]
def psOf (p1 p2 p : Addr) : Option (List Sg) := if p = p1 then some letters else if p = p2 then some values else none
def m_cv (p1 p2 : Addr) : St → Option (Fl × St) :=
  (andThen (ifF (op1 (fun _ => some true) (look tStr 1)) (andThen (setF 3 tPat.inj (pickM (look tBool 2) p1 p2)) (andThen (ifF (searchM (psOf p1 p2) 3 (look tStr 1)) stop done) (retF AV.str (look tStr 1)))) done) stop)
theorem SS_cons_never {Wr : List Nat} {st : Stmt} {rest : List Stmt} {m1 : St → Option (Fl × St)} (h1 : S1 W k c Wr st m1) : SS W k c Wr (st :: rest) (andThen m1 stop) := SS_cons h1 SS_never
theorem s_cv (q : Str) (dv kv doc pm : Value) (an : Option Addr) (cd ct : Value) (f L : Addr) (T : TopF W) (G : Nm W) (hstr : W.mg "str" = none) {p1 p2 : Addr} (h1 : W.mg "_name_disallowed_re" = some (.ref p1)) (h2 : W.mg "_value_disallowed_re" = some (.ref p2))
    (hps : ∀ p l, psOf p1 p2 p = some l → ∃ codes, PatAt W.G p codes ∧ ∀ y ∈ l, okTexts codes y) (O : (fx (mkfd (clsAt 1) q dv kv doc pm an cd ct) f L N_cv).Ok W) :
    SS W k (fx (mkfd (clsAt 1) q dv kv doc pm an cd ct) f L N_cv) [3] (bodyOf (clsAt 1)) (m_cv p1 p2) :=
  SS_cons_never (S1_ifF (ST_isStr T O G.type hstr (by rfl) (by rfl) (SE_var tStr O 1 rfl rfl))
    (SS_cons (S1_assign O (SE_pick T O (ST_plain (SE_var tBool O 2 rfl rfl)) h1 h2 (by rfl) (by rfl)) 3 rfl rfl (by decide) (nf O 3 rfl))
    (SS_cons (S1_ifF (ST_search O 3 rfl rfl hps (SE_var tStr O 1 rfl rfl)) SS_never SS_nil)
    (SS_one (S1_return (SE.strong scal_str (SE_var tStr O 1 rfl rfl)))))) SS_nil)
end
end Mine

namespace Mine

def codesOf : Stmt → List Nat
  | .Assign _ (.Call _ (_ :: _ :: .List es _ :: _) _ _) _ => es.map fun | .Constant (.int i) _ _ => i.toNat | _ => 0
  | _ => []
def code1 : List Nat := codesOf (stAt 12)
def code2 : List Nat := codesOf (stAt 13)
def okAll (codes : List Nat) (ls : List Sg) : Bool := ls.all fun y => failed (driveN 60 (Sre.forSearch codes.toArray y.toArray 0 0 y.length false)) && decide (y.length ≤ 1000)
theorem ok1 : okAll code1 letters = true := by decide +kernel
theorem ok2 : okAll code2 values = true := by decide +kernel
theorem okAll_is {codes : List Nat} {ls : List Sg} (h : okAll codes ls = true) : ∀ y ∈ ls, okTexts codes y := fun y hy => by
  have := List.all_eq_true.mp h y hy
  rw [Bool.and_eq_true, decide_eq_true_eq] at this
  exact ⟨60, by omega, this.2, this.1⟩

def gN : List AV → Option AV
  | [.hdr _, .str x] => if letters.contains x then some (.str x) else none
  | _ => none
def gV : List AV → Option AV
  | [.hdr _, .str x] => if values.contains x then some (.str x) else none
  | _ => none

theorem FnP.of_le {W : Wd} {k : Nat} {f : Addr} {kws : List (Str × Value)} {g g' : List AV → Option AV} (h : FnP W k f kws g) (hg : ∀ as r, g' as = some r → g as = some r) : FnP W k f kws g' :=
  fun A hA s vs Fs avs Q E r top gens reps pw off e hQ => h A hA s vs Fs avs Q E r top gens reps pw off (hg _ _ e) hQ

theorem conv_fn {W : Wd} {k : Nat} {f : Addr} {o : Obj} {q : Str} {dv kv doc pm : Value} {an : Option Addr} {cd ct : Value} (T : TopF W) (G : Nm W) (hstr : W.mg "str" = none) {p1 p2 : Addr} (hp : p1 ≠ p2) (h1 : W.mg "_name_disallowed_re" = some (.ref p1)) (h2 : W.mg "_value_disallowed_re" = some (.ref p2))
    (P1 : PatAt W.G p1 code1) (P2 : PatAt W.G p2 code2) (X : Fs1 W f o (mkfd (clsAt 1) q .none kv doc pm an cd ct) (bodyOf (clsAt 1))) :
    FnP W (k + 1) f [("name", .bool true)] gN ∧ FnP W (k + 1) f [("name", .bool false)] gV := by
  have hps : ∀ p l, psOf p1 p2 p = some l → ∃ codes, PatAt W.G p codes ∧ ∀ y ∈ l, okTexts codes y := fun p l h => by
    unfold psOf at h
    split at h
    · rename_i e; cases h; subst e; exact ⟨code1, P1, okAll_is ok1⟩
    · split at h
      · rename_i e; cases h; subst e; exact ⟨code2, P2, okAll_is ok2⟩
      · cases h
  have key : ∀ b : Bool, FnP W (k + 1) f [("name", .bool b)] (fun avs => if avs.length = 2 then runF (m_cv p1 p2) [3] N_cv.length (avs ++ [.bool b]) else none) := fun b =>
    FnP_of (ex := [.bool b]) (exa := [.bool b]) T X (by decide) (show ∀ x ∈ N_cv, (scopeOf (clsAt 1)).names.lookup x = some .local by decide) (fun h => .cons (.bool b) .nil) 2 (fun s vs _ hv => by
      match vs, hv with
      | [a, v], _ => exact BindsTo.of_eq rfl)
      fun L hL => s_cv q .none kv doc pm an cd ct f L T G hstr h1 h2 hps (fx_ok X hL (by decide) (show ∀ x ∈ N_cv, (scopeOf (clsAt 1)).names.lookup x = some .local by decide))
  refine ⟨(key true).of_le fun as r h => ?_, (key false).of_le fun as r h => ?_⟩
  · unfold gN at h
    split at h
    case h_2 => cases h
    rename_i ps x
    split at h
    case isFalse => cases h
    rename_i hx
    cases h
    have e1 : psOf p1 p2 p1 = some letters := by simp [psOf]
    show outOf [3] (m_cv p1 p2 [some (.hdr ps), some (.str x), some (.bool true), none]) = some (.str x)
    simp only [m_cv, andThen, ifF, op1, look, tStr, tBool, setF, pickM, searchM, tPat, retF, outOf, done, stop, List.getElem?_cons_succ, List.getElem?_cons_zero, List.set_cons_succ, List.set_cons_zero, if_true, e1, hx]
  · unfold gV at h
    split at h
    case h_2 => cases h
    rename_i ps x
    split at h
    case isFalse => cases h
    rename_i hx
    cases h
    have e1 : psOf p1 p2 p2 = some values := by simp [psOf, Ne.symm hp]
    show outOf [3] (m_cv p1 p2 [some (.hdr ps), some (.str x), some (.bool false), none]) = some (.str x)
    simp only [m_cv, andThen, ifF, op1, look, tStr, tBool, setF, pickM, searchM, tPat, retF, outOf, done, stop, List.getElem?_cons_succ, List.getElem?_cons_zero, List.set_cons_succ, List.set_cons_zero, Bool.false_eq_true, if_false, if_true, e1, hx]
end Mine

namespace Mine
section
variable {W : Wd} {k : Nat} {c : Fx} {K : Frag}

/-- the else branch alone -/
theorem SE_else {α : Type} {inj : α → AV} {b : Bool} {test body orelse : Expr} {pos : Pos} {t : St → Option Bool} {m : St → Option α} (ht : ST W k c test t) (h : SE W k c b inj orelse m) :
    SE W k c b inj (.IfExp test body orelse pos) (fun σ => match t σ with | some false => m σ | _ => none) := by
  intro A hA σ s V F Q E a R hm hQ
  dsimp only at hm
  split at hm
  case h_2 => cases hm
  rename_i e
  refine IfExp_ (ht A hA σ s V F _ E false R e fun s1 kp => ?_)
  simp only [Bool.false_eq_true, if_false]
  exact h A hA σ s1 V F Q E a (R.kp kp) hm fun v s' F' k2 r hf => hQ v s' F' (kp.trans k2) r fun hb y hy => fresh_of kp (hf hb y hy)

theorem ST_isList {b1 : Bool} {e : Expr} {m : St → Option (List Int)} {p q pos cpos : Pos} (T : TopF W) (O : c.Ok W) (hg : W.mg "type" = none) (hg' : W.mg "list" = none) (hx : c.env.kindOf "type" = some .globalImplicit) (hx' : c.env.kindOf "list" = some .globalImplicit) (h : SE W k c b1 AV.il e m)
    (hb : behindInMarks .IsNot (.Name "list" q) = false := by with_unfolding_all rfl)
    (he : eval (.Call (.Name "type" p) [e] [] pos) c.env = (do callWith pos (← eval (.Name "type" p) c.env) [] (backTo pos (starEach [e] c.env)) (backToKw pos (keywordEach [] c.env))) := by rfl)
    (hs : ∀ rest, starEach (e :: rest) c.env = (false, eval e c.env) :: starEach rest c.env := by intro _; rfl) :
    ST W k c (.Compare (.Call (.Name "type" p) [e] [] pos) [.IsNot] [.Name "list" q] cpos) (op1 (fun _ => some false) m) := by
  intro A hA σ s V F Q E b R hm hQ
  obtain ⟨x, e1, e2⟩ := op1_some hm
  cases e2
  refine wpAny_isTrue_Compare1 (hm := hb) ?_
  refine Call_ (he := he) (wp_builtin (v := .type "type") T O R (by rfl) hg hx ?_)
  refine callWith_type1 (he := hs _) (args_cons (he := hs _) (h A hA σ s V F _ E x R e1 fun v1 s1 F1 k1 r1 _ => args_nil ?_))
  cases r1 with | il l1 i1 =>
  refine call_type_of (Tx := "list") l1.isList.typeIs (by decide) ?_
  refine wp_builtin (v := .type "list") T O (R.kp k1) (by rfl) hg' hx' ?_
  exact isnot_type_same (wpAny_truthy_bool (hQ _ k1))

def N_ini : List Str := ["self", "headers", "k", "v"]
def m_ini : St → Option (Fl × St) := andThen (setF 1 AV.il (fun σ => match op2 isNNF (look tAny 1) cN σ with | some false => listI [] σ | _ => none)) (ifF (op1 (fun _ => some false) (look tIl 1)) stop done)
theorem s_ini {q : Str} {dv kv doc pm : Value} {an : Option Addr} {cd ct : Value} {f L : Addr} (T : TopF W) (G : Nm W) (hl : W.mg "list" = none) (O : (fx (mkfd (clsAt 0) q dv kv doc pm an cd ct) f L N_ini).Ok W) :
    SS W k (fx (mkfd (clsAt 0) q dv kv doc pm an cd ct) f L N_ini) [1] ((bodyOf (clsAt 0)).take 2) m_ini :=
  SS_cons (S1_assign O (SE_else (ST_cmp (SE_var tAny O 1 rfl rfl) SE_none op_isNotNone) (SE_listI .nil)) 1 rfl rfl (by decide) (nf O 1 rfl))
    (SS_one (S1_ifF (ST_isList T O G.type hl (by rfl) (by rfl) (SE_var tIl O 1 rfl rfl)) SS_never SS_nil))
end
end Mine

namespace Mine
section
variable {W : Wd} {k : Nat} {c : Fx} {K : Frag}

theorem hd_new {fI : Addr} {o : Obj} {q : Str} {dv kv doc pm : Value} {an : Option Addr} {cd ct : Value} (T : TopF W) (G : Nm W) (hlist : W.mg "list" = none) (H : HdC W K) (hK : W.mg "Headers" = some (.ref W.C)) (hm : makesIn K W.C = true) (hi : findIn K (.ref W.C) "__init__" = some (some (.ref fI)))
    (hf : typeIn K (.ref fI) = some (.type "function")) (hsa : findIn K (.ref W.C) "__setattr__" = some (some (.builtin "object.__setattr__"))) (hpo : plainOver K W.C = true) (htk : takerIn K W.C "_headers" = some none)
    (hkeep : keepIn K (.ref W.C) = true)
    (X : Fs1 W fI o (mkfd (clsAt 0) q dv kv doc pm an cd ct) (bodyOf (clsAt 0))) (hbind : ∀ (s : Shared) (x : Addr), (∀ b o, W.G.get? b = some o → s.heap.get? b = some o) → BindsTo s (mkfd (clsAt 0) q dv kv doc pm an cd ct) ⟨[.ref x], []⟩ [("self", .ref x), ("headers", .none)])
    (O : c.Ok W) (p pos : Pos) (hkind : c.env.kindOf "Headers" = some .globalImplicit) : SE W (k + 2) c true tHdr.inj (.Call (.Name "Headers" p) [] [] pos) (fun _ => some []) := by
  intro A hA σ s V F Q E ps R hm' hQ
  cases hm'
  refine Call_Name0 (wp_fn T O R hK hkind ?_)
  refine callWith_of (P := K.In) rfl (fun h X => keeps_K hkeep h X) (PyProof.Rows.evalArgs_none ⟨fun a o e => R.top a o (H.X a o e), ?_⟩)
  have XK : K.In s.heap := fun a o e => R.top a o (H.X a o e)
  obtain ⟨hp, g, d, t, os⟩ := s
  refine wpAny_call (make_core (rest := []) (kw := []) (makes_of XK hm) (looks_findIn XK hi) (fun self => bind_fn XK self hf) (.inl rfl) ?_)
  -- the frame of __init__
  generalize hH : (hp.push emptyDict).push (instObj W.C hp.objs.size) = H1
  have hz1 : H1.objs.size = hp.objs.size + 2 := by rw [← hH, Heap.size_push, Heap.size_push]
  have up1 : ∀ b o, hp.get? b = some o → H1.get? b = some o := fun b o e => by rw [← hH]; exact Heap.get?_push_of_some _ (Heap.get?_push_of_some _ e)
  have hdx : H1.get? hp.objs.size = some emptyDict := by rw [← hH]; exact Heap.get?_push_of_some _ (Heap.get?_push_size _ rfl)
  have hx : H1.get? (hp.objs.size + 1) = some (instObj W.C hp.objs.size) := by
    rw [← hH]
    have := Heap.get?_push_size (hp.push emptyDict) (o := instObj W.C hp.objs.size) rfl
    rwa [Heap.size_push] at this
  have top1 : ∀ b o, W.G.get? b = some o → H1.get? b = some o := fun b o e => up1 b o (R.top b o e)
  have hA' : AOk (k + 1) (A.under (.builtin "type.__call__" ⟨[.ref W.C], []⟩)) := ⟨hA.hh, by have := hA.dep; rw [depth_under_kw]; omega, by have := hA.un; show A.units + 1 + 100 * (k + 1 + 1) < _; omega⟩
  refine codeAny_call_def (binds := [("self", .ref (hp.objs.size + 1)), ("headers", .none)]) hA'.room (top1 _ _ X.ho) X.hdata (T.nolimit.keeps top1) (X.hcd.keeps top1) X.hbody (hbind ⟨H1, g, d, t, os⟩ _ top1) X.cell (fun p hp => ?_) (fun h0 hns hk0 => ?_) X.co X.gen X.kind
  · have hall : ∀ x ∈ N_ini, (scopeOf (clsAt 0)).names.lookup x = some .local := by decide
    rcases List.mem_cons.mp hp with rfl | hp
    · exact hall "self" (by decide)
    · rcases List.mem_cons.mp hp with rfl | hp
      · exact hall "headers" (by decide)
      · cases hp
  have hL : W.G.get? H1.objs.size = none := by
    cases e : W.G.get? H1.objs.size with
    | none => rfl
    | some o => exact absurd (Heap.lt_size (top1 _ _ e)) (Nat.lt_irrefl _)
  have O' := fx_ok (names := N_ini) X hL (by decide) (show ∀ x ∈ N_ini, (scopeOf (clsAt 0)).names.lookup x = some .local by decide)
  have R0 := Rel_init (W := W) (fd := mkfd (clsAt 0) q dv kv doc pm an cd ct) (f := fI) (names := N_ini) (s := ⟨H1, g, d, t, os⟩) (h0 := h0) (tk := t + 2) (vs := [.ref (hp.objs.size + 1), .none]) (Fs := [[], []]) (avs := [.pat (hp.objs.size + 1), .none]) top1 R.gens hns hk0 (.cons (.pat _) (.cons .none .nil)) (by simp) (by simp) (by decide) (by show 2 ≤ 4; decide)
  have hA'' : AOk k ((A.under (.builtin "type.__call__" ⟨[.ref W.C], []⟩)).deeper (callEnv (mkfd (clsAt 0) q dv kv doc pm an cd ct) H1.objs.size fI)) := ⟨hA'.hh, by have := hA'.dep; show _ + 1 + k < _; omega, by have := hA'.un; show _ + 3 + _ < _; omega⟩
  refine wpAny_execs_cons ((S1_assign (Wr := [1]) O' (SE_else (ST_cmp (SE_var tAny O' 1 rfl rfl) SE_none op_isNotNone) (SE_listI .nil)) 1 rfl rfl (by decide) (nf O' 1 rfl)) _ hA'' _ _ _ _ _ _ .next _ R0 rfl fun fl s1 V1 F1 X1 => ?_)
  have hfl : fl = .next := X1.flow
  subst hfl
  refine wpAny_execs_cons ((S1_ifF (Wr := [1]) (ST_isList T O' G.type hlist (by rfl) (by rfl) (SE_var tIl O' 1 rfl rfl)) SS_never SS_nil) _ hA'' _ _ _ _ _ _ .next _ X1.rel rfl fun fl s2 V2 F2 X2 => ?_)
  have hfl : fl = .next := X2.flow
  subst hfl
  have Y := X1.trans X2
  have hloc : ∀ b o, h0.get? b = some o → b ≠ H1.objs.size → s2.heap.get? b = some o := fun b o e hb => Y.heap b o e (by rw [fx_mine]; intro h; rcases List.mem_cons.mp h with h | h; exact hb h; cases h) fun j hj h => by
    rcases List.mem_cons.mp hj with rfl | hj
    · cases h
    · cases hj
  have r1 : Rep W.C s2.heap (F2 1) (V2 1) (.il []) := Y.rel.rep 1 _ rfl
  have v0 : V2 0 = .ref (hp.objs.size + 1) := (Y.same 0 (by decide)).1
  obtain ⟨m, hn2, hm2⟩ := Y.rel.ns
  have m0 : m "self" = some (.ref (hp.objs.size + 1)) := (hm2 0 "self" _ rfl rfl).trans (by rw [v0])
  have m1 := hm2 1 "headers" _ rfl rfl
  have hgrow := Y.grow 1 (.head _)
  generalize hV1 : V2 1 = v1 at r1 m1
  generalize hF1 : F2 1 = f1 at r1 hgrow
  cases r1 with | @il l vs _ hl hi =>
  cases hi
  have hln : h0.get? l = none := by
    rcases hgrow l (.head _) with ⟨j, hj, h⟩ | h
    · rcases List.mem_cons.mp hj with rfl | hj
      · cases h
      · cases hj
    · exact h
  have hlx : l ≠ hp.objs.size + 1 := fun h => by rw [h, hk0 _ _ hx] at hln; cases hln
  have hldx : l ≠ hp.objs.size := fun h => by rw [h, hk0 _ _ hdx] at hln; cases hln
  have hlp : hp.get? l = none := by
    cases e : hp.get? l with
    | none => rfl
    | some o => rw [hk0 _ _ (up1 _ _ e)] at hln; cases hln
  have hxL : hp.objs.size + 1 ≠ H1.objs.size := by rw [hz1]; exact Nat.ne_of_lt (Nat.lt_succ_self _)
  have hdL : hp.objs.size ≠ H1.objs.size := by rw [hz1]; exact Nat.ne_of_lt (Nat.lt_succ_of_lt (Nat.lt_succ_self _))
  have hlL : l ≠ H1.objs.size := fun h => by
    obtain ⟨ob, _, _, e, _⟩ := hns
    rw [h] at hln
    rw [show (⟨H1, g, d, t, os⟩ : Shared).heap.objs.size = H1.objs.size from rfl] at e
    rw [hln] at e; cases e
  have x2 := hloc _ _ (hk0 _ _ hx) hxL
  have dx2 := hloc _ _ (hk0 _ _ hdx) hdL
  obtain ⟨nl, hlo⟩ := hl
  have Fr2 : Fr hp H1.objs.size s2.heap m := ⟨hn2, fun b o e => hloc b o (hk0 _ _ (up1 _ _ e)) (by rw [hz1]; exact Nat.ne_of_lt (Nat.lt_succ_of_lt (Nat.lt_succ_of_lt (Heap.lt_size e)))), by rw [hz1]; omega⟩
  have hpx : hp.get? (hp.objs.size + 1) = none := freshSize (Nat.le_succ _)
  have hpd : hp.get? hp.objs.size = none := freshSize (Nat.le_refl _)
  have N2 : News hp H1.objs.size s2.heap ([] ++ (hp.objs.size, emptyDict) :: [(hp.objs.size + 1, instObj W.C hp.objs.size), (l, { cls := .type "list", data := .seq [].toArray nl })]) := fun p hp' => by
    rcases List.mem_cons.mp hp' with rfl | hp'
    · exact ⟨dx2, hdL, hpd⟩
    · rcases List.mem_cons.mp hp' with rfl | hp'
      · exact ⟨x2, hxL, hpx⟩
      · rcases List.mem_cons.mp hp' with rfl | hp'
        · exact ⟨hlo, hlL, hlp⟩
        · cases hp'
  have X2' : K.In s2.heap := fun a o e => Y.rel.top a o (H.X a o e)
  refine wpAny_execs_cons (plainObj_wpAny_Assign_Attribute (wpAny_mono (load_slot O' (j := 1) (l' := .ns "headers") rfl rfl Y.rel (av := .il []) rfl) (fun v s3 hv => ?_) fun _ _ e => e))
  obtain ⟨rfl, rfl⟩ := hv
  refine wpAny_mono (load_slot O' (j := 0) (l' := .ns "self") rfl rfl Y.rel (av := .pat (hp.objs.size + 1)) rfl) (fun v s4 hv => ?_) fun _ _ e => e
  obtain ⟨rfl, rfl⟩ := hv
  rw [v0, hV1]
  refine set_plain X2' (⟨x2, rfl, rfl, dx2⟩ : InstAt s4.heap (hp.objs.size + 1) (instObj W.C hp.objs.size) W.C (some emptyDict)) hsa ?_
  refine osa_dict (es := [⟨PyData.keyHash W.w.params "_headers", .str "_headers" (s4.toks + 1), .ref l⟩]) (n := 1) (pre := []) Fr2 N2 X2' ⟨x2, rfl, rfl, dx2⟩ rfl hpo htk H.dict rfl (fun p hp => nomatch hp) (fun p hp' => ?_) (by rw [show emptyDict = dictOf [] 0 from rfl, putName_dict]) rfl (show 1 ≤ 1000 by decide) fun h3 F3 N3 => ?_
  · rcases List.mem_cons.mp hp' with rfl | hp'
    · exact Nat.succ_ne_self _
    · rcases List.mem_cons.mp hp' with rfl | hp'
      · exact hldx
      · cases hp'
  have hl3 : h3.PlainList l #[] := ⟨nl, (N3 _ (.tail _ (.tail _ (.head _)))).1⟩
  refine wpAny_execs_cons (wpAny_If ?_)
  show wpAny _ _ (do let v ← eval (.Constant (.bool true) 0 _) _; standAt _; holding [v] (truthy v)) _ _ _
  refine wpAny_bind (Constant_bool (wpAny_bind (wpAny_standAt (wpAny_holding (wpAny_truthy_bool ?_)))))
  simp only [if_true]
  refine wpAny_execs_cons (wpAny_For (hs := by intro _; rfl) (wpAny_Name (wpAny_loadName_local (m := m) O'.kind (O'.kindL 1 "headers" rfl) F3.ns m1 ?_) (by decide)))
  refine wpAny_pyIter_list hl3.isList ?_
  refine codeAny_forLoop_any (fun _ s' => s' = _) (fun n s' hs' => ?_) 0 rfl
  subst hs'
  refine wpAny_pyNext_list_end (i := 0) hA.hh (isListIter_push _ _) ((hl3.at fun o e => Heap.get?_push_of_some _ e).isList) rfl fun h4 hx4 => ?_
  refine wpAny_execs_nil (wpAny_execs_nil (wpAny_execs_nil ⟨rfl, ?_⟩))
  have hsz4 : ∀ b o, h3.get? b = some o → h4.get? b = some o := fun b o e => hx4 b o (Nat.ne_of_lt (Heap.lt_size e)) (Heap.get?_push_of_some _ e)
  refine hQ (.ref (hp.objs.size + 1)) _ ((hp.objs.size + 1) :: hp.objs.size :: l :: []) ⟨fun b o e => hsz4 b o (F3.keep b o e), ⟨Y.os.os, Y.os.gk⟩, fun _ => Y.rel.gens⟩ (.hdr (hsz4 _ _ (N3 _ (.tail _ (.head _))).1) (hsz4 _ _ (N3 _ (.head _)).1) (hl3.at fun o e => hsz4 _ o e) .nil) fun _ y hy => ?_
  rcases List.mem_cons.mp hy with rfl | hy
  · exact hpx
  · rcases List.mem_cons.mp hy with rfl | hy
    · exact hpd
    · rcases List.mem_cons.mp hy with rfl | hy
      · exact hlp
      · cases hy
end
end Mine

namespace Mine
section
variable {W : Wd} {k : Nat} {c : Fx} {K : Frag}

def lowF (x : Sg) : Option Sg := if letters.contains x then some (lower x) else none
theorem low_all : (letters.all fun x => (Txt.lower (txt x)).cps.toList == lower x && letters.contains (lower x)) = true := by decide +kernel
theorem low_txt {x : Sg} (h : letters.contains x = true) : Txt.lower (txt x) = txt (lower x) := by
  have := List.all_eq_true.mp low_all x (by simpa using h)
  rw [Bool.and_eq_true] at this
  have h1 : (Txt.lower (txt x)).cps.toList = lower x := by simpa using this.1
  have h2 : (Txt.lower (txt x)).cps = (lower x).toArray := by rw [← h1]
  show Txt.lower (txt x) = ⟨(lower x).toArray⟩
  rw [← h2]
theorem low_len {x : Sg} (h : letters.contains x = true) : x.length = 1 := by
  have e : (letters.all fun x => x.length == 1) = true := by decide
  have := List.all_eq_true.mp e x (by simpa using h)
  simpa using this

theorem call_lower {A : Around} {s : Shared} {Q : Value → Shared → Prop} {E : Value → Shared → Prop} {x : Sg} {t : Tok} (h : letters.contains x = true) (hQ : ∀ tk, Q (.str (txt (lower x)) s.toks) { s with toks := tk }) : wpAny (model W.prog W.w) A (call (.builtin "str.lower") [.str (txt x) t]) Q E s := by
  refine SCL.lower (by rw [txt_len, low_len h]; decide) fun _ => ?_
  rw [low_txt h]
  exact hQ _

theorem SE_lower {b : Bool} {e : Expr} {m : St → Option Sg} {ap pos : Pos} {pl : Sem Bool} (h : SE W k c b AV.str e m)
    (he : eval (.Call (.Attribute e "lower" ap) [] [] pos) c.env = (do
      let ov ← eval e c.env
      standAt ap.atName
      let (f, first) ← holding [ov] (getMethod ov "lower" pl)
      callWith pos f first (backTo pos (starEach [] c.env)) []) := by rfl) :
    SE W k c true AV.str (.Call (.Attribute e "lower" ap) [] [] pos) (op1 lowF m) := by
  intro A hA σ s V F Q E g R hm hQ
  obtain ⟨x, e1, e2⟩ := op1_some hm
  unfold lowF at e2
  split at e2
  case isFalse => cases e2
  rename_i hx
  cases e2
  refine MethodCall_ (he := he) (h A hA σ s V F _ E x R e1 fun v s1 F1 k1 r1 _ => ?_)
  cases r1 with | str _ t =>
  refine GM.lower ?_
  refine callWith_method0 (call_lower hx fun tk => ?_)
  exact hQ _ _ [] (k1.trans (Kp.toks s1 tk)) (.str _ _) fun _ _ hy => nomatch hy
end
end Mine

namespace Mine
section
variable {W : Wd} {A : Around} {s : Shared} {E : Value → Shared → Prop} {Q : Value → Shared → Prop}

theorem kv_at {cenv : Env} {x : Str} {m : Str → Option Value} {a : Addr} {p : Sg × Sg} {i : Int} {p1 p2 pos : Pos} {kk : Nat} (hk : cenv.kindOf x = some .local) (hkind : cenv.scope.kind = .function) (hn : s.heap.Ns cenv.locals m) (hm : m x = some (.ref a)) (hT : TupAt s.heap a p) (hi : i = 0 ∨ i = 1)
    (hQ : ∀ t tk, Q (.str (txt (if i = 0 then p.1 else p.2)) t) { s with toks := tk }) (hd : (x == ("__debug__" : Str)) = false := by decide)
    (hs : ∀ o i', subscripted (.Constant (.int i) kk p2) false o i' = operate [o, i'] (getItem o i') := by intro _ _; with_unfolding_all rfl) (ht : ∀ a r, letTemporaryGo (.Name x p1) (.ref a) r = pure () := by intro _ _; with_unfolding_all rfl) :
    wpAny (model W.prog W.w) A (eval (.Subscript (.Name x p1) (.Constant (.int i) kk p2) pos) cenv) Q E s := by
  obtain ⟨t1, t2, n, e⟩ := hT
  refine Subscript_ (wpAny_Name (wpAny_loadName_local hkind hk hn hm ?_) hd)
  refine wpAny_Constant_int ?_
  rcases hi with rfl | rfl
  · refine subscriptTail_builtin (T := "tuple") ⟨_, e, rfl⟩ PySem.F.slot_tuple_getitem.lookup (getItem_tuple (j := 0) (items := #[.str (txt p.1) t1, .str (txt p.2) t2]) ⟨_, e, rfl, n, rfl⟩ (by decide) (by decide) rfl rfl ?_) (hs _ _) (ht _)
    exact hQ _ _
  · refine subscriptTail_builtin (T := "tuple") ⟨_, e, rfl⟩ PySem.F.slot_tuple_getitem.lookup (getItem_tuple (j := 1) (items := #[.str (txt p.1) t1, .str (txt p.2) t2]) ⟨_, e, rfl, n, rfl⟩ (by decide) (by decide) rfl rfl ?_) (hs _ _) (ht _)
    exact hQ _ _
end
end Mine

namespace Mine
section
variable {W : Wd} {k : Nat} {c : Fx} {K : Frag}

/-- a tuple's first text, lowered, is y -/
def keyIs (h : Heap) (y : Str) (v : Value) : Bool := match v with
  | .ref a => match h.get? a with
    | some o => match o.data with
      | .seq its _ => (match its.toList with
        | .str n _ :: _ => Txt.lower n == y
        | _ => false)
      | _ => false
    | none => false
  | _ => false
theorem keyIs_at {h : Heap} {a : Addr} {p : Sg × Sg} {y : Sg} (hT : TupAt h a p) (hp : letters.contains p.1 = true) : keyIs h (txt y) (.ref a) = (lower p.1 == y) := by
  obtain ⟨t, u, n, e⟩ := hT
  unfold keyIs
  simp only [e]
  rw [low_txt hp]
  exact txt_beq _ _

theorem TupsAre.at {h : Heap} {vs : List Value} {as : List Addr} {ps : List (Sg × Sg)} (x : TupsAre h vs as ps) : ∀ (j : Nat) v, vs[j]? = some v → ∃ a p, v = .ref a ∧ ps[j]? = some p ∧ TupAt h a p := by
  induction x with
  | nil => intro j v h; simp at h
  | cons hp _ ih =>
    intro j v h
    cases j with
    | zero => simp at h; subst h; exact ⟨_, _, rfl, by simp, hp⟩
    | succ j => simpa using ih j v (by simpa using h)

def gotIs (h : Heap) (v y : Value) : Prop := ∃ a p t, v = .ref a ∧ TupAt h a p ∧ y = .str (txt p.2) t
theorem tup_uniq {h : Heap} {a : Addr} {p p' : Sg × Sg} (x : TupAt h a p) (y : TupAt h a p') : txt p.2 = txt p'.2 := by
  obtain ⟨t, u, n, e⟩ := x
  obtain ⟨t', u', n', e'⟩ := y
  rw [e] at e'
  have e2 := Obj.mk.inj (Option.some.inj e')
  have e3 := e2.2.2.1
  injection e3 with e4 e5
  have e6 : [Value.str (txt p.1) t, .str (txt p.2) u] = [Value.str (txt p'.1) t', .str (txt p'.2) u'] := by simpa using congrArg Array.toList e4
  injection e6 with _ e7
  injection e7 with e8 _
  injection e8
theorem got_strs {h : Heap} {y : Sg} {vs : List Value} {as : List Addr} {ps : List (Sg × Sg)} (x : TupsAre h vs as ps) (hl : ∀ p ∈ ps, letters.contains p.1 = true) : ∀ {ys : List Value}, Paired (gotIs h) (vs.filter (keyIs h (txt y))) ys → StrsAre ys (((ps.filter fun p => lower p.1 == y).map (·.2)).map txt) := by
  induction x with
  | nil => intro ys h; cases h; exact .nil
  | @cons a p vs as ps hp r ih =>
    intro ys hP
    have hk := keyIs_at (y := y) hp (hl p (.head _))
    rw [List.filter_cons, hk] at hP
    rw [List.filter_cons]
    cases hb : (lower p.1 == y) with
    | false =>
      rw [hb] at hP
      simp only [Bool.false_eq_true, if_false] at hP ⊢
      exact ih (fun q hq => hl q (.tail _ hq)) hP
    | true =>
      rw [hb] at hP
      simp only [if_true] at hP ⊢
      cases hP with
      | cons hF hr =>
        obtain ⟨a', p', t, e1, e2, rfl⟩ := hF
        cases e1
        rw [List.map_cons, List.map_cons, ← tup_uniq e2 hp]
        exact .cons _ _ (ih (fun q hq => hl q (.tail _ hq)) hr)
end
end Mine

namespace Mine
section
variable {W : Wd} {k : Nat} {c : Fx} {K : Frag}

theorem Attr_ {M : Model} {A : Around} {E : Value → Shared → Prop} {s : Shared} {env : Env} {o : Expr} {name : Str} {pos : Pos} {Q : Value → Shared → Prop} (h : wpAny M A (eval o env) (fun ov s₁ => wpAny M A (getAttr ov name true) Q E s₁) E s)
    (he : eval (.Attribute o name pos) env = (do let ov ← eval o env; standAt pos.atName; let r ← holding [ov] (getAttr ov name true); letTemporaryGo o ov r; pure r) := by rfl) (ht : ∀ a b, letTemporaryGo o a b = pure () := by intro _ _; rfl) : wpAny M A (eval (.Attribute o name pos) env) Q E s := by
  rw [he]
  refine wpAny_bind (wpAny_mono h (fun ov s₁ h₁ => wpAny_bind (wpAny_standAt (wpAny_bind (wpAny_holding (wpAny_mono h₁ (fun r s₂ h₂ => ?_) fun _ _ x => x))))) fun _ _ x => x)
  rw [ht]
  exact wpAny_bind (wpAny_pure (wpAny_pure h₂))

theorem TupsAre.len {h : Heap} {vs : List Value} {as : List Addr} {ps : List (Sg × Sg)} (x : TupsAre h vs as ps) : vs.length = ps.length := by
  induction x with
  | nil => rfl
  | cons _ _ ih => simp [ih]

def getC (ps : List (Sg × Sg)) (y : Sg) : Option (List Sg) := if decide (ps.length ≤ 100) && ps.all (fun p => letters.contains p.1) then some ((ps.filter fun p => lower p.1 == y).map (·.2)) else none

theorem SE_getcomp (H : HdC W K) (O : c.Ok W) {b : Addr} {scope : Scope} {cl : List (Str × Addr)} {pos px p1 p2 p3 q1 q2 r1 r2 r3 r4 r5 r6 r7 : Pos} {k1 k2 : Nat} {pl : Sem Bool} (hl0 : c.loc[0]? = some (.ns "self")) (hl1 : c.loc[1]? = some (.cell "name" b))
    (hclos : closureFor scope c.env = pure cl) (hcell : ∀ y ∈ scope.names, y.2 ≠ .cell) (hkind : scope.kind = .function) (hnames : ∀ y ∈ scope.names, y.2 = .local → scope.names.lookup y.1 = some .local) (hx : scope.names.lookup ("kv" : Str) = some .local)
    (hcl : cl.lookup ("name" : Str) = some b) (hkn : ∀ C, (compEnvC scope cl C c.env).kindOf "name" = some .cell)
    (he : ∀ C, eval (.Call (.Attribute (.Subscript (.Name "kv" r1) (.Constant (.int 0) k2 r2) r3) "lower" r4) [] [] r5) (compEnvC scope cl C c.env) = (do
      let ov ← eval (.Subscript (.Name "kv" r1) (.Constant (.int 0) k2 r2) r3) (compEnvC scope cl C c.env)
      standAt r4.atName
      let (f, first) ← holding [ov] (getMethod ov "lower" pl)
      callWith r5 f first (backTo r5 (starEach [] (compEnvC scope cl C c.env))) []) := by intro _; rfl) :
    SE W k c true AV.sl (.ListComp (.Subscript (.Name "kv" p1) (.Constant (.int 1) k1 p2) p3) [⟨.Name "kv" px, .Attribute (.Name "self" q1) "_headers" q2, [.Compare (.Call (.Attribute (.Subscript (.Name "kv" r1) (.Constant (.int 0) k2 r2) r3) "lower" r4) [] [] r5) [.Eq] [.Name "name" r6] r7], 0⟩] scope pos)
      (op2 getC (look tHdr 0) (look tStr 1)) := by
  intro A hA σ s V F Q E ys R hm hQ
  obtain ⟨ps, y, e1, e2, e3⟩ := op2_some hm
  unfold getC at e3
  split at e3
  case isFalse => cases e3
  rename_i hg
  cases e3
  rw [Bool.and_eq_true, decide_eq_true_eq] at hg
  obtain ⟨hlen, hlet⟩ := hg
  have hlet : ∀ p ∈ ps, letters.contains p.1 = true := fun p hp => List.all_eq_true.mp hlet p hp
  have hav0 := look_some e1
  have hav1 := look_some e2
  have r0 := R.rep 0 _ hav0
  have r1 := R.rep 1 _ hav1
  obtain ⟨t1, hV1⟩ := r1.strv
  obtain ⟨oc, hcb, hco⟩ := R.cell 1 _ _ hl1
  have hco := hco _ hav1
  subst hco
  rw [hV1] at hcb
  refine wpAny_ListComp_free (keyIs s.heap (txt y)) (gotIs s.heap) hclos hcell hkind hnames hx (Attr_ (wpAny_mono (load_slot O hl0 rfl R hav0) (fun v s' hv => ?_) fun _ _ x => x))
  obtain ⟨rfl, rfl⟩ := hv
  refine hdr_attr H R.top r0 fun x dx l vs as hV0 hF0 hpl htu => ?_
  have hvl := htu.len
  have hne : l ≠ s'.heap.objs.size := fun h => by obtain ⟨n, e⟩ := hpl; exact Nat.lt_irrefl _ (h ▸ Heap.lt_size e)
  refine wpAny_pyIter_list hpl.isList ?_
  have up : ∀ (o : Obj) b ob, s'.heap.get? b = some ob → (s'.heap.push o).get? b = some ob := fun o b ob e => Heap.get?_push_of_some _ e
  refine ⟨s'.heap.objs.size, _, _, _, _, _, rfl, Walks.list hA.hh s'.heap.objs.size l hne vs.toArray, by simp only [List.size_toArray]; have := tLine_le; unfold tLine at this; omega, ⟨isListIter_push _ _, (hpl.at fun o e => up _ _ o e).isList⟩, ?_, ?_, ?_⟩
  · intro b hb
    have hlt : l < s'.heap.objs.size := by obtain ⟨n, e⟩ := hpl; exact Heap.lt_size e
    show b < (s'.heap.push _).objs.size
    rw [Heap.size_push]
    rcases List.mem_cons.mp hb with rfl | hb
    · exact Nat.lt_succ_self _
    · rcases List.mem_cons.mp hb with rfl | hb
      · exact Nat.lt_succ_of_lt hlt
      · cases hb
  · have ref : ∀ {i : Nat} {v : Value} {s3 : Shared}, vs.toArray[i]? = some v → (∀ b o, b ∉ [s'.heap.objs.size] → (s'.heap.push { cls := .type "list_iterator", data := .fields #[.ref l, .int 0 0] }).get? b = some o → s3.heap.get? b = some o) → ∃ a p, v = .ref a ∧ p ∈ ps ∧ TupAt s'.heap a p ∧ TupAt s3.heap a p ∧ s3.heap.IsCell b (some (.str (txt y) t1)) := by
      intro i v s3 hv hk
      have kk : ∀ b o, s'.heap.get? b = some o → s3.heap.get? b = some o := fun b o e => hk b o (fun h => by
        rcases List.mem_cons.mp h with rfl | h
        · exact Nat.lt_irrefl _ (Heap.lt_size e)
        · cases h) (up _ _ _ e)
      obtain ⟨a, p, e1, e2, e3⟩ := htu.at i v (by simpa using hv)
      refine ⟨a, p, e1, List.mem_of_getElem? e2, e3, ?_, IsCell_keeps hcb kk⟩
      obtain ⟨t, u, n, e⟩ := e3
      exact ⟨t, u, n, kk _ _ e⟩
    refine ⟨fun C i v s3 m3 E' _ hv hn hm hk _ => ?_, fun C i v s3 m3 E' _ hv hpv hn hm hk _ => ?_⟩
    · obtain ⟨a, p, rfl, hp, hT, hT3, hc3⟩ := ref hv hk
      simp only [List.forIn_cons, List.forIn_nil, if_true, bind_assoc]
      refine wpAny_bind (wpAny_isTrue_Compare1 (hm := by with_unfolding_all rfl) (MethodCall_ (he := he C) (kv_at (lookup_relabel_local hx) (by simp [compEnvC, relabel, hkind]) hn hm hT3 (.inl rfl) fun t tk => ?_)))
      refine GM.lower (callWith_method0 (call_lower (hlet p hp) fun tk2 => ?_))
      refine wpAny_Name (wpAny_loadName_cell (by simp [compEnvC, relabel, hkind]) (hkn C) hcl hc3 ?_) (by decide)
      refine eq_str (wpAny_truthy_bool (wpAny_pure ⟨?_, ?_⟩))
      · rw [keyIs_at hT (hlet p hp), txt_beq]; simp
      · exact ⟨_, _, rfl, fun _ _ e => e⟩
    · obtain ⟨a, p, rfl, hp, hT, hT3, hc3⟩ := ref hv hk
      refine kv_at (lookup_relabel_local hx) (by simp [compEnvC, relabel, hkind]) hn hm hT3 (.inr rfl) fun t tk => ⟨⟨a, p, t, rfl, hT, rfl⟩, _, _, rfl, fun _ _ e => e⟩
  · intro D h' tk ys vs' hD hIs hPl hlen' hP hPr hk
    have hvv : vs' = vs := by
      refine List.ext_getElem? fun j => ?_
      by_cases hj : j < vs'.length
      · rw [List.getElem?_eq_getElem hj]
        have := hP j _ (List.getElem?_eq_getElem hj)
        simpa using this.symm
      · have hl2 : vs'.length = vs.length := by simpa using hlen'
        rw [List.getElem?_eq_none (by omega), List.getElem?_eq_none (by omega)]
    subst hvv
    have kk : ∀ b o, s'.heap.get? b = some o → h'.get? b = some o := fun b o e => hk b o (fun h => by
      rcases List.mem_cons.mp h with rfl | h
      · exact Nat.lt_irrefl _ (Heap.lt_size e)
      · cases h) (up _ _ _ e)
    refine hQ (.ref D) _ [D] ⟨kk, .rf, id⟩ (.sl (vs := ys.toList) (by simpa using hPl) (got_strs htu hlet hPr)) fun _ z hz => ?_
    rcases List.mem_cons.mp hz with rfl | hz
    · cases e : s'.heap.get? z with
      | none => rfl
      | some o =>
        have h1 := up { cls := .type "list_iterator", data := .fields #[.ref l, .int 0 0] } _ _ e
        rw [hD] at h1; cases h1
    · cases hz
end
end Mine

namespace Mine
section
variable {W : Wd} {k : Nat} {K : Frag}

def getFx (fd : FuncData) (f L : Addr) : Fx := ⟨callEnvC fd L f, [.ns "self", .cell "name" (L + 1)]⟩
theorem get_ok {q : Str} {kv doc pm : Value} {an : Option Addr} {cd ct : Value} {f L : Addr} (h1 : W.G.get? L = none) (h2 : W.G.get? (L + 1) = none) : (getFx (mkfd (clsAt 7) q .none kv doc pm an cd ct) f L).Ok W where
  kind := rfl
  glob := rfl
  blt := rfl
  new := fun a ha => by
    have : a = L ∨ L + 1 = a := by simpa [Fx.mine, getFx, Loc.addr?, callEnvC, newEnv] using ha
    rcases this with rfl | rfl
    · exact h1
    · exact h2
  apart := fun i j x y b e1 e2 => by
    rcases i with _ | _ | i <;> rcases j with _ | _ | j <;> simp [getFx] at e1 e2 ⊢
  offL := fun i x e => by
    rcases i with _ | _ | i <;> simp [getFx, callEnvC, newEnv] at e
  names := fun i j x e1 e2 => by
    rcases i with _ | _ | i <;> rcases j with _ | _ | j <;> simp [getFx] at e1 e2 ⊢
  kindL := fun i x e => by
    rcases i with _ | _ | i
    · simp [getFx] at e; subst e; rfl
    · simp [getFx] at e
    · simp [getFx] at e
  kindC := fun i x b e => by
    rcases i with _ | _ | i
    · simp [getFx] at e
    · simp [getFx] at e
      obtain ⟨rfl, rfl⟩ := e
      exact ⟨.inl rfl, rfl⟩
    · simp [getFx] at e

def m_get : St → Option (Fl × St) := andThen (setF 1 AV.str (callM tStr gN (slotArg 0 [scM AV.str (op1 lowF (look tStr 1))]))) (retF AV.sl (op2 getC (look tHdr 0) (look tStr 1)))
theorem s_get {q : Str} {kv doc pm : Value} {an : Option Addr} {cd ct : Value} {f L fC : Addr} (H : HdC W K) (MA : MethAt W K "_convert_string_type" fC) (hN : FnP W k fC [("name", .bool true)] gN) (O : (getFx (mkfd (clsAt 7) q .none kv doc pm an cd ct) f L).Ok W) :
    SS W k (getFx (mkfd (clsAt 7) q .none kv doc pm an cd ct) f L) [1] (bodyOf (clsAt 7)) m_get :=
  SS_cons (S1_assign O (SE_conv H MA O 0 rfl rfl (SE_lower (SE_var tStr O 1 rfl rfl (by rfl) (by rfl))) hN (fun as r h => by
      unfold gN at h
      split at h
      · exact ⟨_, _, rfl⟩
      · cases h)) 1 rfl rfl (by decide) (nfc O 1 rfl (by rfl)))
    (SS_one (S1_return (SE_getcomp H O rfl rfl (by rfl) (by decide) rfl (by decide) (by rfl) (by rfl) (fun _ => by rfl))))

def gGet : List AV → Option AV
  | [.hdr ps, .str x] => (getF ps x).map AV.sl
  | _ => none
theorem get_out {ps : List (Sg × Sg)} {x : Sg} {r : AV} (h : gGet [.hdr ps, .str x] = some r) : outOf [1] (m_get [some (.hdr ps), some (.str x)]) = some r := by
  have h : (getF ps x).map AV.sl = some r := h
  unfold getF at h
  split at h
  case isFalse => cases h
  rename_i hc
  rw [Bool.and_eq_true, Bool.and_eq_true] at hc
  obtain ⟨⟨h1, h2⟩, h3⟩ := hc
  cases h
  have hl : letters.contains (lower x) = true := by
    have := List.all_eq_true.mp low_all x (by simpa using h1)
    rw [Bool.and_eq_true] at this
    exact this.2
  simp only [m_get, andThen, setF, callM, slotArg, mAll, scM, op1, lowF, look, tAny, tStr, tHdr, op2, getC, retF, outOf, gN, List.getElem?_cons_succ, List.getElem?_cons_zero, List.set_cons_succ, List.set_cons_zero, h1, if_true, Option.map_some, hl, h2, h3, Bool.and_self]
end
end Mine

namespace Mine
section
variable {W : Wd} {k : Nat} {K : Frag}
theorem m_get_ret {σ σ' : St} {fl : Fl} (h : m_get σ = some (fl, σ')) : ∃ av, fl = .ret av := by
  unfold m_get andThen at h
  split at h
  · unfold retF at h
    split at h
    · cases h; exact ⟨_, rfl⟩
    · cases h
  · rename_i hne
    unfold setF at h hne
    split at h
    · rename_i a e
      exact absurd (by rw [e]) (hne (σ.set 1 (some (AV.str a))))
    · cases h

theorem get_fn {q : Str} {kv doc pm : Value} {an : Option Addr} {cd ct : Value} {f fC : Addr} {o : Obj} (T : TopF W) (H : HdC W K) (MA : MethAt W K "_convert_string_type" fC) (hN : FnP W k fC [("name", .bool true)] gN)
    (ho : W.G.get? f = some o) (hdata : o.data = .func (mkfd (clsAt 7) q .none kv doc pm an cd ct)) (hcd : W.G.CodeRec cd q) : FnP W (k + 1) f [] gGet := by
  intro A hA s vs Fs avs Q E r top gens reps hap hoff hg hQ
  have hg' := hg
  unfold gGet at hg'
  split at hg'
  case h_2 => cases hg'
  rename_i ps x
  cases reps with | @cons F0 v0 _ Fs vs _ r0 reps =>
  cases reps with | @cons F1 v1 _ Fs vs _ r1 reps =>
  cases reps
  have hF1 := r1.scal rfl
  subst hF1
  have hsz : ∀ a, s.heap.objs.size ≤ a → W.G.get? a = none := fun a ha => by
    cases e : W.G.get? a with
    | none => rfl
    | some ob => exact absurd (Nat.lt_of_lt_of_le (Heap.lt_size (top _ _ e)) ha) (Nat.lt_irrefl _)
  have O := get_ok (W := W) (q := q) (kv := kv) (doc := doc) (pm := pm) (an := an) (cd := cd) (ct := ct) (f := f) (L := s.heap.objs.size) (hsz _ (Nat.le_refl _)) (hsz _ (Nat.le_succ _))
  refine wpAny_call (codeAny_call_cells (fd := mkfd (clsAt 7) q .none kv doc pm an cd ct) (body := bodyOf (clsAt 7)) (binds := [("self", v0), ("name", v1)]) hA.room (top _ _ ho) hdata (T.nolimit.keeps top) (hcd.keeps top) rfl rfl rfl (fun p hp => ?_) (fun s1 X => ?_) rfl rfl rfl)
  · rcases List.mem_cons.mp hp with rfl | hp
    · exact .inl rfl
    · rcases List.mem_cons.mp hp with rfl | hp
      · exact .inr ⟨rfl, rfl⟩
      · cases hp
  obtain ⟨h1, tk, rfl, hk⟩ := X.done
  have hns := X.toInCall.ns
  have hcell := X.cell "name" (s.heap.objs.size + 1) rfl
  have R : Rel W (getFx (mkfd (clsAt 7) q .none kv doc pm an cd ct) f s.heap.objs.size) [some (.hdr ps), some (.str x)] { s with heap := h1, toks := tk } (fun i => [v0, v1][i]?.getD .none) (fun i => [F0, []][i]?.getD []) := by
    refine ⟨fun b o e => hk b o (top b o e), ⟨_, hns, fun i y av e1 e2 => ?_⟩, fun i y b e => ?_, fun i av e => ?_, fun i h => ?_, fun i j hij a ha => ?_, fun i a ha => ?_, gens, rfl⟩
    · rcases i with _ | _ | i
      · simp [getFx] at e1; subst e1; rfl
      · simp [getFx] at e1
      · simp [getFx] at e1
    · rcases i with _ | _ | i
      · simp [getFx] at e
      · simp [getFx] at e
        obtain ⟨rfl, rfl⟩ := e
        exact ⟨_, hcell, fun _ _ => rfl⟩
      · simp [getFx] at e
    · rcases i with _ | _ | i
      · simp at e; subst e; exact r0.keeps hk
      · simp at e; subst e; exact r1.keeps hk
      · simp at e
    · rcases i with _ | _ | i
      · exact absurd rfl (h _)
      · rfl
      · rfl
    · rcases i with _ | _ | i <;> rcases j with _ | _ | j <;> simp at hij ha ⊢
    · rcases i with _ | _ | i
      · have ha : a ∈ F0 := ha
        refine ⟨fun hm => ?_, hoff F0 (.head _) a ha⟩
        have hlt : a < s.heap.objs.size := by obtain ⟨ob, e⟩ := r0.has a ha; exact Heap.lt_size e
        have : a = s.heap.objs.size ∨ s.heap.objs.size + 1 = a := by simpa [Fx.mine, getFx, Loc.addr?, callEnvC, newEnv] using hm
        rcases this with h | h
        · exact Nat.lt_irrefl _ (h ▸ hlt)
        · exact Nat.lt_irrefl _ (Nat.lt_trans (Nat.lt_succ_self _) (h ▸ hlt))
      · cases ha
      · simp at ha
  have hA' : AOk k (A.deeper (callEnvC (mkfd (clsAt 7) q .none kv doc pm an cd ct) s.heap.objs.size f)) := ⟨hA.hh, by have := hA.dep; show A.depth + 1 + k < _; omega, by have := hA.un; show A.units + 3 + _ < _; omega⟩
  have hout := get_out hg
  cases hm : m_get [some (.hdr ps), some (.str x)] with
  | none => rw [hm] at hout; cases hout
  | some p =>
    obtain ⟨fl, σ'⟩ := p
    rw [hm] at hout
    refine s_get H MA hN O _ hA' _ _ _ _ _ _ fl σ' R hm fun f' s' V' F' Y => ?_
    have hf := Y.flow
    cases fl with
    | next => obtain ⟨av, h⟩ := m_get_ret hm; cases h
    | rets j => obtain ⟨av, h⟩ := m_get_ret hm; cases h
    | ret av =>
      obtain ⟨v, Fr, e1, e2, e3⟩ := hf
      subst e1
      cases hout
      refine hQ v s' Fr ⟨fun b o e => Y.heap b o (hk b o e) (fun hm => ?_) (fun i hi hb => ?_), ⟨Y.os.os, Y.os.gk⟩, fun _ => Y.rel.gens⟩ e2 fun y hy => ?_
      · have hlt := Heap.lt_size e
        have : b = s.heap.objs.size ∨ s.heap.objs.size + 1 = b := by simpa [Fx.mine, getFx, Loc.addr?, callEnvC, newEnv] using hm
        rcases this with h | h
        · exact Nat.lt_irrefl _ (h ▸ hlt)
        · exact Nat.lt_irrefl _ (Nat.lt_trans (Nat.lt_succ_self _) (h ▸ hlt))
      · rcases List.mem_cons.mp hi with rfl | hi
        · cases hb
        · cases hi
      · cases e : s.heap.get? y with
        | none => rfl
        | some ob => have := e3 y hy; rw [hk y ob e] at this; cases this
end
end Mine

namespace Mine
section
variable {W : Wd} {k : Nat} {K : Frag}
theorem hd_get {fG : Addr} (H : HdC W K) (MA : MethAt W K "get_all" fG) (hf : FnP W k fG [] gGet) (c : Fx) (O : c.Ok W) (i : Nat) {l : Loc} {p ap pos : Pos} {e : Expr} {m : St → Option Sg} {b : Bool} {pl : Sem Bool} (hl : c.loc[i]? = some l) (hx : l.name = "table") (h : SE W k c b AV.str e m)
    (hs : ∀ rest, starEach (e :: rest) c.env = (false, eval e c.env) :: starEach rest c.env)
    (he : eval (.Call (.Attribute (.Name "table" p) "get_all" ap) [e] [] pos) c.env = (do
      let ov ← eval (.Name "table" p) c.env
      standAt ap.atName
      let (f, first) ← holding [ov] (getMethod ov "get_all" pl)
      callWith pos f first (backTo pos (starEach [e] c.env)) [])) :
    SE W k c true AV.sl (.Call (.Attribute (.Name "table" p) "get_all" ap) [e] [] pos) (op2 getF (look tHdr i) m) := by
  intro A hA σ s V F Q E ys R hm hQ
  obtain ⟨ps, x, e1, e2, e3⟩ := op2_some hm
  have hav := look_some e1
  have MA' := MA
  obtain ⟨_, _, o, fd, ho, hdat⟩ := MA'
  refine MethodCall_ (he := he) (wpAny_mono (load_slot O hl hx R hav) (fun v s' hv => ?_) fun _ _ x => x)
  obtain ⟨rfl, rfl⟩ := hv
  refine hdr_method H MA (by decide) R.top (R.rep i _ hav) ?_
  suffices key : wpAny (model W.prog W.w) A (spliced (backTo pos (starEach [e] c.env))) (fun vs s₁ => (s₁.heap.get? fG = some o ∧ o.data = .func fd) ∧ wpAny (model W.prog W.w) A (call (.ref fG) ([V i] ++ vs)) Q E s₁) E s' by
    rw [hs] at key ⊢
    exact Calls.callWith_function (o := o) (fd := fd) (Calls.evalArgs_plain key)
  refine args_cons (he := hs _) (h A hA σ s' V F _ E x R e2 fun v1 s1 F1 k1 r1 _ => args_nil ?_)
  have hF1 := r1.scal rfl
  subst hF1
  refine ⟨⟨(R.kp k1).top _ _ ho, hdat⟩, ?_⟩
  refine hf A hA s1 [V i, v1] [F i, []] [.hdr ps, .str x] Q E (.sl ys) (R.kp k1).top (R.kp k1).gens (.cons ((R.kp k1).rep i _ hav) (.cons r1 .nil)) (by simp) (fun F' hF a ha => ?_) (by show (getF ps x).map AV.sl = _; rw [e3]; rfl) fun v s'' F' k2 r hfr => hQ v s'' F' (k1.trans k2) r fun _ y hy => fresh_of k1 (hfr y hy)
  rcases List.mem_cons.mp hF with rfl | hF
  · exact (R.off i a ha).2
  · rcases List.mem_cons.mp hF with rfl | hF
    · cases ha
    · cases hF
end
end Mine

namespace Mine
section
variable {W : Wd} {k : Nat} {c : Fx}
def tEmp : Ty Unit := ⟨fun _ => .emp, fun | .emp => some () | _ => none, fun av a h => by cases av <;> simp at h; rfl⟩

/-- for k, v in d.items(), where d is an empty dict -/
theorem S1_noItems {Wr : List Nat} {x xk xv : Str} {p pk pv tp ap cpos pos : Pos} {kk : Nat} {body : List Stmt} (O : c.Ok W) (i : Nat) {l : Loc} (hl : c.loc[i]? = some l) (hx : l.name = x) (hline : (ap.endLine == cpos.line) = true)
    (hbase : attributeBase (.Name x p) "items" c.env (eval (.Name x p) c.env) = eval (.Name x p) c.env := by rfl)
    (hd : (x == ("__debug__" : Str)) = false := by decide) (hcd : (x == ("__classdict__" : Str)) = false := by decide)
    (hs : ∀ x', foldedSetIterable (.Call (.Attribute (.Name x p) "items" ap) [] [] cpos) c.env x' = pure x' := by intro _; rfl) :
    S1 W k c Wr (.For (.Tuple [.Name xk pk, .Name xv pv] kk tp) (.Call (.Attribute (.Name x p) "items" ap) [] [] cpos) body [] pos) (fun σ => match look tEmp i σ with | some () => some (.next, σ) | none => none) := by
  intro A hA σ s V F Q E f σ' R hm hQ
  dsimp only at hm
  split at hm
  case h_2 => cases hm
  rename_i e1
  cases hm
  have hav := look_some e1
  have r := R.rep i _ hav
  have hoff := R.off i
  have hQ' : ∀ {s' : Shared}, Kp s s' → Q .next s' := fun kp => hQ _ _ _ _ ((After.refl (R.kp kp)).pre kp R)
  generalize hVi : V i = v at r
  generalize hFi : F i = f1 at r hoff
  cases r with | @emp d e hdm =>
  have hm : s.heap.DictAt (strKind W.prog W.w) d [] 0 := ⟨_, #[], e, ⟨rfl, rfl, rfl⟩, rfl, fun _ h => by simp at h, .nil, List.nodup_nil⟩
  refine wpAny_For (wpAny_Call_items (knd := strKind W.prog W.w) (kvs := []) hdm hm.dictOf hbase hline (fun Q' hq => wpAny_mono (load_slot O hl hx R hav hd hcd) (fun v s' hv => by obtain ⟨rfl, rfl⟩ := hv; rw [hVi]; exact hq) fun _ _ z => z) ?_) hs
  refine wpAny_pyIter_items (knd := strKind W.prog W.w) (d := d) (kvs := []) (ep := 0) ⟨_, Heap.get?_push_size _ rfl, rfl, rfl⟩ (hm.push _) ?_
  refine codeAny_forLoop_any (fun _ s' => s' = _) (fun n s' hs' => ?_) 0 rfl
  subst hs'
  refine wpAny_pyNext_items_end (knd := strKind W.prog W.w) (i := 0) (kvs := []) hA.hh (Heap.get?_push_size _ rfl) ((hm.push _).push _) rfl fun h4 hx4 => ?_
  refine wpAny_execs_nil (hQ' ⟨fun b o e => hx4 b o (Nat.ne_of_lt ?_) (Heap.get?_push_of_some _ (Heap.get?_push_of_some _ e)), .rf, id⟩)
  exact Heap.lt_size (Heap.get?_push_of_some _ e)
end
end Mine

namespace Mine
section
variable {W : Wd} {k : Nat} {c : Fx} {K : Frag}

theorem hdr_attr2 (H : HdC W K) {A : Around} {s : Shared} {F : List Addr} {v : Value} {ps : List (Sg × Sg)} {expr : Bool} {Q : Value → Shared → Prop} {E : Value → Shared → Prop}
    (top : ∀ b o, W.G.get? b = some o → s.heap.get? b = some o) (r : Rep W.C s.heap F v (.hdr ps))
    (h : ∀ x dx l hsh tk n vs as, v = .ref x → F = x :: dx :: l :: as → s.heap.get? x = some (instObj W.C dx) → s.heap.get? dx = some (dictOf [⟨hsh, .str "_headers" tk, .ref l⟩] n) → s.heap.PlainList l vs.toArray → TupsAre s.heap vs as ps → Q (.ref l) { s with toks := s.toks + 1 }) : wpAny (model W.prog W.w) A (getAttr v "_headers" expr) Q E s := by
  obtain ⟨x, dx, l, hsh, tk, n, vs, as, rfl, hF, h1, h2, h3, h4⟩ := hdr_parts r
  refine get_value (v := .ref l) (fun a o e => top a o (H.X a o e)) (hdr_inst h1 h2) H.ga (findObj_own H.dict H.own rfl ?_) rfl (h x dx l hsh tk n vs as rfl hF h1 h2 h3 h4)
  show lookIn _ (dictOf [⟨hsh, .str "_headers" tk, .ref l⟩] n) = _
  rw [lookIn_dict]
  rfl

theorem TupsAre.snoc {h : Heap} {vs : List Value} {as : List Addr} {ps : List (Sg × Sg)} (x : TupsAre h vs as ps) {a : Addr} {p : Sg × Sg} (hp : TupAt h a p) : TupsAre h (vs ++ [.ref a]) (as ++ [a]) (ps ++ [p]) := by
  induction x with
  | nil => exact .cons hp .nil
  | cons h1 _ ih => exact .cons h1 ih

theorem TupsAre.ne {h : Heap} {vs : List Value} {as : List Addr} {ps : List (Sg × Sg)} (x : TupsAre h vs as ps) {l : Addr} {items : Array Value} (hl : h.PlainList l items) : l ∉ as := by
  induction x with
  | nil => intro h; cases h
  | cons h1 _ ih =>
    intro hm
    rcases List.mem_cons.mp hm with rfl | hm
    · obtain ⟨t, u, n, e⟩ := h1
      obtain ⟨n', e'⟩ := hl
      rw [e] at e'
      have := (Obj.mk.inj (Option.some.inj e')).1
      exact absurd this (by decide)
    · exact ih hm

def hAppF (i : Nat) (m1 m2 : St → Option Sg) (σ : St) : Option (Fl × St) := match look tHdr i σ with
  | some ps => match m1 σ with
    | some n => match m2 σ with
      | some v => if ps.length ≤ tLine then some (.next, σ.set i (some (.hdr (ps ++ [(n, v)])))) else none
      | none => none
    | none => none
  | none => none

theorem SP_happ {b1 b2 : Bool} {e1 e2 : Expr} {m1 m2 : St → Option Sg} {p hp ap tp pos pos2 : Pos} {kk : Nat} {pl : Sem Bool} (H : HdC W K) (O : c.Ok W) (h1 : SE W k c b1 AV.str e1 m1) (h2 : SE W k c b2 AV.str e2 m2)
    (i : Nat) {l : Loc} (hl : c.loc[i]? = some l) (hx : l.name = "self") (hint : interactive c.env = false)
    (hs : swapsWith (.Call (.Attribute (.Attribute (.Name "self" p) "_headers" hp) "append" ap) [.Tuple [e1, e2] kk tp] [] pos2) none pos.line c.env = pure false := by rfl)
    (he : eval (.Call (.Attribute (.Attribute (.Name "self" p) "_headers" hp) "append" ap) [.Tuple [e1, e2] kk tp] [] pos2) c.env = (do
      let ov ← eval (.Attribute (.Name "self" p) "_headers" hp) c.env
      standAt ap.atName
      let (f, first) ← holding [ov] (getMethod ov "append" pl)
      callWith pos2 f first (backTo pos2 (starEach [.Tuple [e1, e2] kk tp] c.env)) []) := by rfl)
    (hse : ∀ rest, starEach (.Tuple [e1, e2] kk tp :: rest) c.env = (false, eval (.Tuple [e1, e2] kk tp) c.env) :: starEach rest c.env := by intro _; rfl)
    (hs1 : ∀ rest, starEach (e1 :: rest) c.env = (false, eval e1 c.env) :: starEach rest c.env := by intro _; rfl)
    (hs2 : ∀ rest, starEach (e2 :: rest) c.env = (false, eval e2 c.env) :: starEach rest c.env := by intro _; rfl) :
    SP W k c i (.Expr (.Call (.Attribute (.Attribute (.Name "self" p) "_headers" hp) "append" ap) [.Tuple [e1, e2] kk tp] [] pos2) pos) (hAppF i m1 m2) := by
  intro A hA σ s V F Q E fl σ' R hm hQ
  unfold hAppF at hm
  split at hm
  case h_2 => cases hm
  rename_i ps e3
  split at hm
  case h_2 => cases hm
  rename_i n e4
  split at hm
  case h_2 => cases hm
  rename_i y e5
  split at hm
  case isFalse => cases hm
  rename_i hz
  cases hm
  have hav := look_some e3
  refine wpAny_Expr ?_ hint hs
  refine MethodCall_ (he := he) (Attr_ (wpAny_mono (load_slot O hl hx R hav) (fun v s' hv => ?_) fun _ _ x => x))
  obtain ⟨rfl, rfl⟩ := hv
  refine hdr_attr2 H R.top (R.rep i _ hav) fun x dx l hsh tk nn vs as hV hF hox hodx hpl htu => ?_
  obtain ⟨nl, hlo⟩ := hpl
  have hlen : vs.length = ps.length := htu.len
  refine getMethod_list_of slot_list_append rfl ⟨_, hlo, rfl, nl, rfl⟩ ⟨_, hlo, rfl⟩ ?_
  have R0 := R.kp (Kp.toks s' (s'.toks + 1))
  refine callWith_method1 (he := hse _) (args_cons (he := hse _) (Tuple_ (args_cons (he := hs1 _) (h1 A hA σ _ V F _ E n R0 e4 fun v1 s1 F1 k1 r1 _ => args_cons (he := hs2 _) (h2 A hA σ s1 V F _ E y (R0.kp k1) e5 fun v2 s2 F2 k2 r2 _ => args_nil (wpAny_newObj_type (args_nil ?_) (by show (2 : Nat) ≤ sizeLine; decide)))))))
  have kp : Kp s' s2 := ((Kp.toks s' (s'.toks + 1)).trans k1).trans k2
  cases r1 with | str _ t1 =>
  cases r2 with | str _ t2 =>
  have up : ∀ b o, s'.heap.get? b = some o → (s2.heap.push { cls := .type "tuple", data := .seq #[.str (txt n) t1, .str (txt y) t2] }).get? b = some o := fun b o e => Heap.get?_push_of_some _ (kp.heap b o e)
  refine wpAny_list_append_plain (items := vs.toArray) (hsz := by simp only [List.size_toArray]; have := tLine_le; omega) ⟨nl, up _ _ hlo⟩ fun h' l2 sb => ?_
  have hD : (s2.heap.push { cls := .type "tuple", data := .seq #[.str (txt n) t1, .str (txt y) t2] }).get? s2.heap.objs.size = some { cls := .type "tuple", data := .seq #[.str (txt n) t1, .str (txt y) t2] } := Heap.get?_push_size _ rfl
  have hDl : s2.heap.objs.size ≠ l := fun h => by
    have := Heap.lt_size (kp.heap _ _ hlo)
    exact Nat.lt_irrefl _ (h ▸ this)
  have hxl : x ≠ l := fun h => by
    rw [h, hlo] at hox
    have := (Obj.mk.inj (Option.some.inj hox)).1
    cases this
  have hdl : dx ≠ l := fun h => by
    rw [h, hlo] at hodx
    have := (Obj.mk.inj (Option.some.inj hodx)).1
    exact absurd this (by decide)
  have kk : ∀ b o, s'.heap.get? b = some o → b ≠ l → h'.get? b = some o := fun b o e hb => sb.extBut b o hb (up b o e)
  have hal := htu.ne (l := l) (items := vs.toArray) ⟨nl, hlo⟩
  refine hQ _ _ (After.put (F' := x :: dx :: l :: (as ++ [s2.heap.objs.size])) R hav kp (s2 := { s2 with heap := h' }) (fun b o e hb => sb.extBut b o (fun h => hb (by rw [hF, h]; exact .tail _ (.tail _ (.head _)))) (Heap.get?_push_of_some _ e)) (fun b o e => ?_) .rf (R.kp kp).gens ?_ fun z hz => ?_)
  · by_cases hb : b = l
    · subst hb; obtain ⟨n2, e2⟩ := l2; exact ⟨_, e2⟩
    · exact ⟨o, sb.extBut b o hb (Heap.get?_push_of_some _ e)⟩
  · rw [hV]
    refine .hdr (vs := vs ++ [.ref s2.heap.objs.size]) (kk _ _ hox hxl) (kk _ _ hodx hdl) (by simpa using l2) ((htu.keep fun a ha o e => kk a o e fun h => hal (h ▸ ha)).snoc ⟨t1, t2, 0, sb.extBut _ _ hDl hD⟩)
  · rw [hF]
    rcases List.mem_cons.mp hz with rfl | hz
    · exact .inl (.head _)
    · rcases List.mem_cons.mp hz with rfl | hz
      · exact .inl (.tail _ (.head _))
      · rcases List.mem_cons.mp hz with rfl | hz
        · exact .inl (.tail _ (.tail _ (.head _)))
        · rcases List.mem_append.mp hz with hz | hz
          · exact .inl (.tail _ (.tail _ (.tail _ hz)))
          · rcases List.mem_cons.mp hz with rfl | hz
            · exact .inr (freshSize (Nat.le_refl _))
            · cases hz
end
end Mine

namespace Mine
section
variable {W : Wd} {k : Nat} {c : Fx} {K : Frag}

def dict0 : Obj := { cls := .type "dict", data := .dict #[] }
/-- a def with **names, called without keywords -/
theorem codeAny_call_kw {prog : Program} {w : World} {A : Around} {s : Shared} {R : Result → Shared → Prop} {a : Addr} {o : Obj} {fd : FuncData} {body : List Stmt} {args : Args} {binds : Addr → List (Str × Value)}
    (hroom : A.depth < recursionLimit) (ho : s.heap.get? a = some o) (hdata : o.data = .func fd) (hlim : s.heap.NoLimit) (hcd : s.heap.CodeRec fd.code fd.qualname)
    (hbody : fd.body = .stmts body) (hbind : bindArgs fd args = (alloc dict0 >>= fun d => pure (binds d)))
    (hcell : ∀ x ∈ fd.scope.names, x.2 ≠ .cell) (hloc : ∀ x ∈ binds s.heap.objs.size, fd.scope.names.lookup x.1 = some .local)
    (h : ∀ h₀, h₀.Ns (s.heap.push dict0).objs.size (fun x => (binds s.heap.objs.size).reverse.lookup x) → (∀ b o, (s.heap.push dict0).get? b = some o → h₀.get? b = some o) →
      wpAny (model prog w) (A.deeper (callEnv fd (s.heap.push dict0).objs.size a)) (execs body (callEnv fd (s.heap.push dict0).objs.size a)) (fun f s' => R (.ok (.ret (match f with | .ret v => v | _ => .none))) s')
        (fun e s' => wpAny (model prog w) (A.deeper (callEnv fd (s.heap.push dict0).objs.size a)) (leaving (callEnv fd (s.heap.push dict0).objs.size a) e) (fun _ s'' => R (.error e) s'') (fun e' s'' => R (.error e') s'') s')
        { s with heap := h₀, toks := s.toks + (binds s.heap.objs.size).length })
    (hco : fd.scope.isCoroutine = false := by rfl) (hgen : fd.scope.isGenerator = false := by rfl) (hk : fd.scope.kind = .function := by rfl) :
    codeAny (model prog w) A (.call (.ref a) args) R s := by
  refine codeAny_call_function hroom ho hdata hco hgen hbody hcd ?_
  rw [hbind]
  refine wpAny_bind (wpAny_alloc (wpAny_pure ?_))
  refine wpAny_newFunctionEnv hcell hloc (fun h₀ hns₀ hsb₀ => ?_) hk
  have hk0 : ∀ b o, (s.heap.push dict0).get? b = some o → h₀.get? b = some o := fun b o e => hsb₀.extBut b o (Nat.ne_of_lt (Heap.lt_size e)) (Heap.get?_push_of_some _ e)
  exact ⟨hlim.keeps fun b o e => hk0 b o (Heap.get?_push_of_some _ e), codeAny_func (h h₀ hns₀ hk0)⟩

def noItF (i : Nat) (σ : St) : Option (Fl × St) := match look tEmp i σ with | some () => some (.next, σ) | none => none

def N_ad : List Str := ["self", "_name", "_value", "_params", "parts"]
def m_ad : St → Option (Fl × St) :=
  andThen (setF 4 AV.sl (listS []))
    (andThen (ifF (op2 isNNF (look tAny 2) cN) (andThen (setF 2 AV.str (callM tStr gV (slotArg 0 [scM AV.str (look tStr 2)]))) (appF tSl 4 (look tStr 2))) done)
    (andThen (noItF 3) (fun σ => some (.next, σ))))
def n_ad : St → Option (Fl × St) := hAppF 0 (callM tStr gN (slotArg 0 [scM AV.str (look tStr 1)])) (op2 joinF (cS [59, 32]) (look tSl 4))

theorem gN_hdr : ∀ as r, gN as = some r → ∃ ps rest, as = .hdr ps :: rest := fun as r h => by
  unfold gN at h
  split at h
  · exact ⟨_, _, rfl⟩
  · cases h
theorem gV_hdr : ∀ as r, gV as = some r → ∃ ps rest, as = .hdr ps :: rest := fun as r h => by
  unfold gV at h
  split at h
  · exact ⟨_, _, rfl⟩
  · cases h

theorem s_ad {q : Str} {dv kv doc pm : Value} {an : Option Addr} {cd ct : Value} {f L fC : Addr} (T : TopF W) (G : Nm W) (H : HdC W K) (MA : MethAt W K "_convert_string_type" fC) (hN : FnP W k fC [("name", .bool true)] gN) (hV : FnP W k fC [("name", .bool false)] gV)
    (O : (fx (mkfd (clsAt 16) q dv kv doc pm an cd ct) f L N_ad).Ok W) : SSP W k (fx (mkfd (clsAt 16) q dv kv doc pm an cd ct) f L N_ad) [2, 4] 0 (bodyOf (clsAt 16)) m_ad n_ad :=
  SSP_cons (S1_assign O (SE_listS .nil) 4 rfl rfl (by decide) (nf O 4 rfl))
    (SSP_cons (S1_ifF (ST_cmp (SE_var tAny O 2 rfl rfl) SE_none op_isNotNone)
      (SS_cons (S1_assign O (SE_conv H MA O 0 rfl rfl (SE_var tStr O 2 rfl rfl) hV gV_hdr) 2 rfl rfl (by decide) (nf O 2 rfl))
        (SS_one (SP.s1 (SP_append lst_sl scal'_str O (SE_var tStr O 2 rfl rfl) 4 rfl rfl (by rfl)) (by decide)))) SS_nil)
    (SSP_cons (S1_noItems O 3 rfl rfl (by rfl))
    (SSP_last (SP_happ H O (SE_conv H MA O 0 rfl rfl (SE_var tStr O 1 rfl rfl) hN gN_hdr) (SE_meth1 (SE_str (l := [59, 32]) (by rfl)) (SE_var tSl O 4 rfl rfl) (gm_str PySem.F.slot_str_join rfl) op_join) 0 rfl rfl (by rfl)))))
end
end Mine

namespace Mine
section
variable {W : Wd} {k : Nat} {c : Fx} {K : Frag}

def gAdd : List AV → Option AV
  | [.hdr ps, .str n, .str v] => if letters.contains n && values.contains v && decide (ps.length ≤ 100) then some (.hdr (ps ++ [(n, v)])) else none
  | _ => none

theorem val_len {x : Sg} (h : values.contains x = true) : x.length ≤ tLine := by
  have e : (values.all fun x => decide (x.length ≤ tLine)) = true := by decide
  have := List.all_eq_true.mp e x (by simpa using h)
  simpa using this

theorem ad_out {ps : List (Sg × Sg)} {n v : Sg} (h1 : letters.contains n = true) (h2 : values.contains v = true) (h3 : ps.length ≤ 100) :
    m_ad [some (.hdr ps), some (.str n), some (.str v), some .emp, none] = some (.next, [some (.hdr ps), some (.str n), some (.str v), some .emp, some (.sl [v])]) ∧
    n_ad [some (.hdr ps), some (.str n), some (.str v), some .emp, some (.sl [v])] = some (.next, [some (.hdr (ps ++ [(n, v)])), some (.str n), some (.str v), some .emp, some (.sl [v])]) := by
  have hv := val_len h2
  have h4 : ps.length ≤ tLine := by unfold tLine; omega
  have h5 : ([] : List Sg).length ≤ tLine := by unfold tLine; simp
  have h6 : ([59, 32] : Sg).length ≤ tLine := by unfold tLine; simp
  constructor
  · simp only [m_ad, andThen, setF, listS, mAll, ifF, op2, isNNF, cN, look, tAny, tStr, tHdr, tEmp, tSl, id, isN, callM, slotArg, scM, gV, appF, noItF, done, List.getElem?_cons_succ, List.getElem?_cons_zero, List.set_cons_succ, List.set_cons_zero, Option.map_some, h2, if_true, h5, Bool.not_false, List.nil_append]
  · simp only [n_ad, hAppF, op2, cS, look, tAny, tStr, tHdr, tSl, id, callM, slotArg, mAll, scM, gN, joinF, List.getElem?_cons_succ, List.getElem?_cons_zero, List.set_cons_succ, List.set_cons_zero, Option.map_some, h1, if_true, hv, h4, h6, and_self]

theorem add_fn {q : Str} {kv doc pm : Value} {an : Option Addr} {cd ct : Value} {f fC : Addr} {o : Obj} (T : TopF W) (G : Nm W) (H : HdC W K) (MA : MethAt W K "_convert_string_type" fC) (hN : FnP W k fC [("name", .bool true)] gN) (hV : FnP W k fC [("name", .bool false)] gV)
    (ho : W.G.get? f = some o) (hdata : o.data = .func (mkfd (clsAt 16) q .none kv doc pm an cd ct)) (hcd : W.G.CodeRec cd q) : FnW W (k + 1) f [] gAdd := by
  intro A hA s v0 vs F0 Fs avs Q E r top gens reps hap hoff hg hQ
  have hg' := hg
  unfold gAdd at hg'
  split at hg'
  case h_2 => cases hg'
  rename_i ps n v
  split at hg'
  case isFalse => cases hg'
  rename_i hc
  rw [Bool.and_eq_true, Bool.and_eq_true, decide_eq_true_eq] at hc
  obtain ⟨⟨hc1, hc2⟩, hc3⟩ := hc
  cases hg'
  cases reps with | @cons _ _ _ Fs vs _ r0 reps =>
  cases reps with | @cons F1 v1 _ Fs vs _ r1 reps =>
  cases reps with | @cons F2 v2 _ Fs vs _ r2 reps =>
  cases reps
  have hF1 := r1.scal rfl
  subst hF1
  have hF2 := r2.scal rfl
  subst hF2
  obtain ⟨e1, e2⟩ := ad_out hc1 hc2 hc3
  have hlow : sysModules < s.heap.objs.size := modules_low (T.nolimit.keeps top)
  refine wpAny_call (codeAny_call_kw (fd := mkfd (clsAt 16) q .none kv doc pm an cd ct) (body := bodyOf (clsAt 16)) (binds := fun d => [("self", v0), ("_name", v1), ("_value", v2), ("_params", .ref d)]) hA.room (top _ _ ho) hdata (T.nolimit.keeps top) (hcd.keeps top) rfl rfl (show ∀ x ∈ (scopeOf (clsAt 16)).names, x.2 ≠ .cell by decide) (fun p hp => ?_) (fun h0 hns hk0 => ?_) rfl rfl rfl)
  · have hall : ∀ x ∈ N_ad, (scopeOf (clsAt 16)).names.lookup x = some .local := by decide
    rcases List.mem_cons.mp hp with rfl | hp
    · exact hall "self" (by decide)
    · rcases List.mem_cons.mp hp with rfl | hp
      · exact hall "_name" (by decide)
      · rcases List.mem_cons.mp hp with rfl | hp
        · exact hall "_value" (by decide)
        · rcases List.mem_cons.mp hp with rfl | hp
          · exact hall "_params" (by decide)
          · cases hp
  have up : ∀ b o, s.heap.get? b = some o → (s.heap.push dict0).get? b = some o := fun b o e => Heap.get?_push_of_some _ e
  have hD : (s.heap.push dict0).get? s.heap.objs.size = some dict0 := Heap.get?_push_size _ rfl
  have hfresh : ∀ a, s.heap.objs.size ≤ a → s.heap.get? a = none := fun a ha => freshSize ha
  have hG : ∀ a, s.heap.objs.size ≤ a → W.G.get? a = none := fun a ha => by
    cases e : W.G.get? a with
    | none => rfl
    | some ob => exact absurd (Nat.lt_of_lt_of_le (Heap.lt_size (top _ _ e)) ha) (Nat.lt_irrefl _)
  have hz : (s.heap.push dict0).objs.size = s.heap.objs.size + 1 := Heap.size_push ..
  have hF0lt : ∀ a ∈ F0, a < s.heap.objs.size := fun a ha => by obtain ⟨ob, e⟩ := r0.has a ha; exact Heap.lt_size e
  have O : (fx (mkfd (clsAt 16) q .none kv doc pm an cd ct) f (s.heap.push dict0).objs.size N_ad).Ok W := {
    kind := rfl
    glob := rfl
    blt := rfl
    new := by rw [fx_mine]; intro a ha; rcases List.mem_cons.mp ha with rfl | h; exact hG _ (by rw [hz]; exact Nat.le_succ _); cases h
    apart := fun i j x y b h => by simp [fx] at h
    offL := fun i x h => by simp [fx] at h
    names := fun i j x h1 h2 => by
      have e1 : N_ad[i]? = some x := by simpa [fx] using h1
      have e2 : N_ad[j]? = some x := by simpa [fx] using h2
      exact nodup_inj (by decide) e1 e2
    kindL := fun i x h => by
      have e1 : N_ad[i]? = some x := by simpa [fx] using h
      exact (show ∀ x ∈ N_ad, (scopeOf (clsAt 16)).names.lookup x = some .local by decide) x (List.mem_of_getElem? e1)
    kindC := fun i x b h => by simp [fx] at h }
  have R := Rel_init (W := W) (fd := mkfd (clsAt 16) q .none kv doc pm an cd ct) (f := f) (names := N_ad) (s := { s with heap := s.heap.push dict0 }) (h0 := h0) (tk := s.toks + 4) (vs := [v0, v1, v2, .ref s.heap.objs.size]) (Fs := [F0, [], [], [s.heap.objs.size]]) (avs := [.hdr ps, .str n, .str v, .emp])
    (fun b o e => up b o (top b o e)) gens hns hk0 (.cons (r0.keeps up) (.cons (r1.keeps up) (.cons (r2.keeps up) (.cons (.emp hD (beq_eq_false_iff_ne.mpr (Nat.ne_of_gt hlow))) .nil)))) ?_ ?_ (by decide) (show 4 ≤ 5 by decide)
  rotate_left
  · refine List.pairwise_cons.mpr ⟨fun B hB a ha hb => ?_, by simp⟩
    simp only [List.mem_cons, List.not_mem_nil, or_false] at hB
    rcases hB with rfl | rfl | rfl
    · cases hb
    · cases hb
    · rcases List.mem_cons.mp hb with rfl | hb
      · exact Nat.lt_irrefl _ (hF0lt _ ha)
      · cases hb
  · intro F hF a ha
    simp only [List.mem_cons, List.not_mem_nil, or_false] at hF
    rcases hF with rfl | rfl | rfl | rfl
    · exact hoff F (.head _) a ha
    · cases ha
    · cases ha
    · rcases List.mem_cons.mp ha with rfl | ha
      · exact hG _ (Nat.le_refl _)
      · cases ha
  have hA' : AOk k (A.deeper (callEnv (mkfd (clsAt 16) q .none kv doc pm an cd ct) (s.heap.push dict0).objs.size f)) := ⟨hA.hh, by have := hA.dep; show A.depth + 1 + k < _; omega, by have := hA.un; show A.units + 3 + _ < _; omega⟩
  refine s_ad T G H MA hN hV O _ hA' _ _ _ _ _ _ _ _ R e1 e2 fun s1 V1 F1 s2 F2 Y Z => ?_
  have hFW : ∀ i ∈ [2, 4], ([F0, [], [], [s.heap.objs.size]] : List (List Addr))[i]?.getD [] = [] := fun i hi => by
    rcases List.mem_cons.mp hi with rfl | hi
    · rfl
    · rcases List.mem_cons.mp hi with rfl | hi
      · rfl
      · cases hi
  obtain ⟨y1, y2, _⟩ := Y.same 0 (by decide)
  have y1 : V1 0 = v0 := y1
  have y2 : F1 0 = F0 := y2
  have hmine : ∀ b o, s.heap.get? b = some o → b ∉ (fx (mkfd (clsAt 16) q .none kv doc pm an cd ct) f (s.heap.push dict0).objs.size N_ad).mine := fun b o e h => by
    rw [fx_mine] at h
    rcases List.mem_cons.mp h with rfl | h
    · have := Heap.lt_size e
      rw [hz] at this
      exact absurd this (Nat.not_lt.mpr (Nat.le_succ _))
    · cases h
  have hs1 : ∀ b o, s.heap.get? b = some o → s1.heap.get? b = some o := fun b o e => Y.heap b o (hk0 b o (up b o e)) (hmine b o e) fun i hi hb => by rw [hFW i hi] at hb; cases hb
  have hfr : ∀ a, h0.get? a = none → s.heap.get? a = none := fun a h => by
    cases e : s.heap.get? a with
    | none => rfl
    | some o => rw [hk0 a o (up a o e)] at h; cases h
  refine hQ s2 (F2 0) (fun b o e hb => ?_) (fun b o e => Z.old b o (hs1 b o e)) (Z.os.trans ⟨Y.os.os, Y.os.gk⟩) Z.rel.gens ?_ fun x hx => ?_
  · refine Z.heap b o (hs1 b o e) (hmine b o e) fun i hi hbi => ?_
    rcases List.mem_cons.mp hi with rfl | h
    · rw [y2] at hbi; exact hb hbi
    · cases h
  · have := Z.rel.rep 0 _ rfl
    rw [y1] at this
    exact this
  · rcases Z.grow 0 (.head _) x hx with ⟨j, hj, hx'⟩ | h
    · rcases List.mem_cons.mp hj with rfl | h
      · rw [y2] at hx'; exact .inl hx'
      · cases h
    · exact .inr (hfr x (Y.none_of h))
end
end Mine

namespace Mine
section
variable {W : Wd} {k : Nat} {K : Frag}
theorem addM_some {i : Nat} {m1 m2 : St → Option Sg} {σ σ' : St} {f : Fl} (h : addM i m1 m2 σ = some (f, σ')) : ∃ ps n v, look tHdr i σ = some ps ∧ m1 σ = some n ∧ m2 σ = some v ∧ gAdd [.hdr ps, .str n, .str v] = some (.hdr (ps ++ [(n, v)])) ∧ f = .next ∧ σ' = σ.set i (some (.hdr (ps ++ [(n, v)]))) := by
  unfold addM at h
  split at h
  case h_2 => cases h
  rename_i ps e1
  split at h
  case h_2 => cases h
  rename_i n e2
  split at h
  case h_2 => cases h
  rename_i v e3
  split at h
  case isFalse => cases h
  rename_i hc
  cases h
  exact ⟨ps, n, v, e1, e2, e3, if_pos hc, rfl, rfl⟩

theorem hd_add {fA : Addr} (H : HdC W K) (MA : MethAt W K "add_header" fA) (hf : FnW W k fA [] gAdd) (c : Fx) (O : c.Ok W) (i : Nat) {l : Loc} {p ap pos pos2 : Pos} {e1 e2 : Expr} {m1 m2 : St → Option Sg} {b1 b2 : Bool} {pl : Sem Bool} (hl : c.loc[i]? = some l) (hx : l.name = "table")
    (hint : interactive c.env = false) (h1 : SE W k c b1 AV.str e1 m1) (h2 : SE W k c b2 AV.str e2 m2)
    (hs1 : ∀ rest, starEach (e1 :: rest) c.env = (false, eval e1 c.env) :: starEach rest c.env) (hs2 : ∀ rest, starEach (e2 :: rest) c.env = (false, eval e2 c.env) :: starEach rest c.env)
    (hsw : swapsWith (.Call (.Attribute (.Name "table" p) "add_header" ap) [e1, e2] [] pos2) none pos.line c.env = pure false)
    (he : eval (.Call (.Attribute (.Name "table" p) "add_header" ap) [e1, e2] [] pos2) c.env = (do
      let ov ← eval (.Name "table" p) c.env
      standAt ap.atName
      let (f, first) ← holding [ov] (getMethod ov "add_header" pl)
      callWith pos2 f first (backTo pos2 (starEach [e1, e2] c.env)) [])) :
    SP W k c i (.Expr (.Call (.Attribute (.Name "table" p) "add_header" ap) [e1, e2] [] pos2) pos) (addM i m1 m2) := by
  intro A hA σ s V F Q E fl σ' R hm hQ
  obtain ⟨ps, n, v, g1, g2, g3, g4, rfl, rfl⟩ := addM_some hm
  have hav := look_some g1
  have MA' := MA
  obtain ⟨_, _, o, fd, ho, hdat⟩ := MA'
  refine wpAny_Expr ?_ hint hsw
  refine MethodCall_ (he := he) (wpAny_mono (load_slot O hl hx R hav) (fun v s' hv => ?_) fun _ _ x => x)
  obtain ⟨rfl, rfl⟩ := hv
  refine hdr_method H MA (by decide) R.top (R.rep i _ hav) ?_
  suffices key : wpAny (model W.prog W.w) A (spliced (backTo pos2 (starEach [e1, e2] c.env))) (fun vs s₁ => (s₁.heap.get? fA = some o ∧ o.data = .func fd) ∧ wpAny (model W.prog W.w) A (call (.ref fA) ([V i] ++ vs)) (fun v s'' => match v with | .ref _ => False | _ => Q .next s'') E s₁) E s' by
    rw [hs1] at key ⊢
    exact Calls.callWith_function (o := o) (fd := fd) (Calls.evalArgs_plain key)
  refine args_cons (he := hs1 _) (h1 A hA σ s' V F _ E n R g2 fun v1 s1 F1 k1 r1 _ => args_cons (he := hs2 _) (h2 A hA σ s1 V F _ E v (R.kp k1) g3 fun v2 s2 F2 k2 r2 _ => args_nil ?_))
  have hF1 := r1.scal rfl
  subst hF1
  have hF2 := r2.scal rfl
  subst hF2
  have kp := k1.trans k2
  have R2 := R.kp kp
  refine ⟨⟨R2.top _ _ ho, hdat⟩, ?_⟩
  refine hf A hA s2 (V i) [v1, v2] (F i) [[], []] [.hdr ps, .str n, .str v] _ E _ R2.top R2.gens (.cons (R2.rep i _ hav) (.cons (r1.keeps k2.heap) (.cons r2 .nil))) (by simp) (fun F' hF a ha => ?_) g4 fun s'' F' q1 q2 q3 q4 q5 q6 => hQ s'' _ (After.put R hav kp q1 q2 q3 q4 q5 q6)
  simp only [List.mem_cons, List.not_mem_nil, or_false] at hF
  rcases hF with rfl | rfl | rfl
  · exact (R.off i a ha).2
  · cases ha
  · cases ha
end
end Mine

namespace Mine

theorem AOk.mono {k k' : Nat} (h : k ≤ k') {A : Around} (x : AOk k' A) : AOk k A := ⟨x.hh, by have := x.dep; omega, by have := x.un; omega⟩
theorem FnP.mono {W : Wd} {k k' : Nat} (h : k ≤ k') {f : Addr} {kws : List (Str × Value)} {g : List AV → Option AV} (x : FnP W k f kws g) : FnP W k' f kws g := fun A hA => x A (hA.mono h)
theorem FnW.mono {W : Wd} {k k' : Nat} (h : k ≤ k') {f : Addr} {kws : List (Str × Value)} {g : List AV → Option AV} (x : FnW W k f kws g) : FnW W k' f kws g := fun A hA => x A (hA.mono h)

/-- a def that stands written in K -/
structure FnK (K : Frag) (st : Stmt) (a : Addr) (o : Obj) (q : Str) (dv kv doc pm : Value) (an : Option Addr) (cd ct : Value) : Prop where
  ob : K.lookup a = some o
  da : o.data = .func (mkfd st q dv kv doc pm an cd ct)
  cd : codeIn K cd q = true

section
variable {W : Wd} {K : Frag} {st : Stmt} {a : Addr} {o : Obj} {q : Str} {dv kv doc pm : Value} {an : Option Addr} {cd ct : Value}
theorem FnK.at (X : K.In W.G) (T : TopF W) (h : FnK K st a o q dv kv doc pm an cd ct) {x : Str} (hx : nsIn K mainGlobals x = some (some (.ref a))) : FnAt W x a := ⟨mg_of X T.g hx, o, _, X _ _ h.ob, h.da⟩
theorem FnK.fs (X : K.In W.G) (h : FnK K st a o q dv kv doc pm an cd ct) (hk : (scopeOf st).kind = .function := by rfl) (hc : (scopeOf st).isCoroutine = false := by rfl) (hg : (scopeOf st).isGenerator = false := by rfl) (hn : ∀ x ∈ (scopeOf st).names, x.2 ≠ .cell := by decide) :
    Fs1 W a o (mkfd st q dv kv doc pm an cd ct) (bodyOf st) :=
  ⟨X _ _ h.ob, h.da, codeRec_of X h.cd, rfl, rfl, rfl, rfl, hk, hc, hg, hn⟩
theorem FnK.gs (X : K.In W.G) (h : FnK K (stAt 7) a o q .none .none doc pm an cd ct) : Gs1 W a o q doc pm an cd ct := ⟨X _ _ h.ob, h.da, codeRec_of X h.cd⟩
end

def FnE (K : Frag) (x : Str) (st : Stmt) : Prop := ∃ a o q doc pm an cd ct, nsIn K mainGlobals x = some (some (.ref a)) ∧ FnK K st a o q .none .none doc pm an cd ct
def BsE (K : Frag) (x : Str) (st : Stmt) : Prop := ∃ a o q dv kv doc pm an cd ct t, nsIn K mainGlobals x = some (some (.ref a)) ∧ FnK K st a o q dv kv doc pm an cd ct ∧
  (∀ S v0 v1, peek K S (bindArgs (mkfd st q dv kv doc pm an cd ct) ⟨[v0, v1], []⟩) = some ([("a", v0), ("x", v1), ("lo", .int 0 t), ("hi", .none), ("key", .none)] : List (Str × Value))) ∧
  (∀ S v0 v1 v2 v3, peek K S (bindArgs (mkfd st q dv kv doc pm an cd ct) ⟨[v0, v1, v2, v3], []⟩) = some ([("a", v0), ("x", v1), ("lo", v2), ("hi", v3), ("key", .none)] : List (Str × Value)))
def MtE (K : Frag) (C : Addr) (x : Str) (st : Stmt) : Prop := ∃ a o q kv doc pm an cd ct, findIn K (.ref C) x = some (some (.ref a)) ∧ typeIn K (.ref a) = some (.type "function") ∧ FnK K st a o q .none kv doc pm an cd ct
def PaE (K : Frag) (x : Str) (codes : List Nat) (p : Addr) : Prop := ∃ f0 t1 t2 cp ob items n, nsIn K mainGlobals x = some (some (.ref p)) ∧ K.lookup p = some { cls := .type "re.Pattern", data := .fields #[f0, .int 32 t1, .int 0 t2, .none, .none, .ref cp, .int 0 0] } ∧
  K.lookup cp = some ob ∧ ob.data = .seq items n ∧ (items.map PySem.Builtin.Re.reRawOf).map (·.toNat) = codes.toArray

structure KOk (K : Frag) (C : Addr) : Prop where
  bl : BsE K "bisect_left" (stAt 5)
  br : BsE K "bisect_right" (stAt 3)
  ins : BsE K "insort_left" (stAt 4)
  it : FnE K "_iter_escaped_chars" (stAt 7)
  st : FnE K "_strip_quoted_realnames" (stAt 8)
  ck : FnE K "_check_parenthesis" (stAt 9)
  ba : FnE K "_law_bare" (stAt 17)
  lv : FnE K "_law_levels" (stAt 18)
  hm : FnE K "_law_home" (stAt 19)
  cls : nsIn K mainGlobals "Headers" = some (some (.ref C))
  free : ∀ x ∈ (["len", "range", "sum", "max", "enumerate", "type", "str", "list"] : List Str), nsIn K mainGlobals x = some none
  ini : ∃ a o q dv kv doc pm an cd ct, findIn K (.ref C) "__init__" = some (some (.ref a)) ∧ typeIn K (.ref a) = some (.type "function") ∧ FnK K (clsAt 0) a o q dv kv doc pm an cd ct ∧
    ∀ S v, peek K S (bindArgs (mkfd (clsAt 0) q dv kv doc pm an cd ct) ⟨[v], []⟩) = some ([("self", v), ("headers", .none)] : List (Str × Value))
  cv : MtE K C "_convert_string_type" (clsAt 1)
  get : MtE K C "get_all" (clsAt 7)
  add : MtE K C "add_header" (clsAt 16)
  pats : ∃ p1 p2, PaE K "_name_disallowed_re" code1 p1 ∧ PaE K "_value_disallowed_re" code2 p2 ∧ p1 ≠ p2
  ga : findIn K (.ref C) "__getattribute__" = some (some (.builtin "object.__getattribute__"))
  gt : findIn K (.ref C) "__getattr__" = some none
  dict : hasDictIn K C = true
  own : findIn K (.ref C) "_headers" = some none
  mkC : makesIn K C = true
  sa : findIn K (.ref C) "__setattr__" = some (some (.builtin "object.__setattr__"))
  po : plainOver K C = true
  tk : takerIn K C "_headers" = some none
  keep : keepIn K (.ref C) = true

section
variable {W : Wd} {K : Frag}
theorem KOk.nm (H : KOk K W.C) (X : K.In W.G) (T : TopF W) : Nm W where
  len := mg_none_of X T.g (H.free _ (by decide))
  range := mg_none_of X T.g (H.free _ (by decide))
  sum := mg_none_of X T.g (H.free _ (by decide))
  max := mg_none_of X T.g (H.free _ (by decide))
  enumerate := mg_none_of X T.g (H.free _ (by decide))
  type := mg_none_of X T.g (H.free _ (by decide))
theorem KOk.hdc (H : KOk K W.C) (X : K.In W.G) : HdC W K := ⟨X, H.ga, H.gt, H.dict, H.own⟩

theorem MtE.at {x : Str} {st : Stmt} (X : K.In W.G) {a : Addr} {o : Obj} {q : Str} {kv doc pm : Value} {an : Option Addr} {cd ct : Value} (h1 : findIn K (.ref W.C) x = some (some (.ref a))) (h2 : typeIn K (.ref a) = some (.type "function")) (h3 : FnK K st a o q .none kv doc pm an cd ct) : MethAt W K x a := ⟨h1, h2, o, _, X _ _ h3.ob, h3.da⟩

theorem pat_of {x : Str} {codes : List Nat} {p : Addr} (X : K.In W.G) (T : TopF W) (h : PaE K x codes p) : W.mg x = some (.ref p) ∧ PatAt W.G p codes := by
  obtain ⟨f0, t1, t2, cp, ob, items, n, h1, h2, h3, h4, h5⟩ := h
  exact ⟨mg_of X T.g h1, ⟨f0, t1, t2, cp, ob, items, n, X _ _ h2, X _ _ h3, h4, h5⟩⟩

theorem KOk.bl2 (H : KOk K W.C) (X : K.In W.G) (T : TopF W) : ∃ f, FnAt W "bisect_left" f ∧ FnP W 1 f [] gBL2 ∧ FnP W 1 f [] gBL4 := by
  obtain ⟨a, o, q, dv, kv, doc, pm, an, cd, ct, t, h1, h2, h3, h4⟩ := H.bl
  have G := H.nm X T
  have hk : ∀ x ∈ N_bl, (scopeOf (stAt 5)).names.lookup x = some .local := by decide
  have F := h2.fs X
  refine ⟨a, h2.at X T h1, ?_, ?_⟩
  · exact FnP_of (k := 0) (ex := [.int 0 t, .none, .none]) (exa := [.int 0, .none, .none]) T F (by decide) hk (fun h => .cons (.int _ _) (.cons .none (.cons .none .nil))) 2 (fun s vs top hv => by
      match vs, hv with
      | [v0, v1], _ => exact kp_binds (fun b o e => top _ _ (X _ _ e)) (fun S => h3 S v0 v1))
      fun L hL => s_bl W 0 q dv kv doc pm an cd ct a L T G (fx_ok F hL (by decide) hk)
  · exact FnP_of (k := 0) (ex := [.none]) (exa := [.none]) T F (by decide) hk (fun h => .cons .none .nil) 4 (fun s vs top hv => by
      match vs, hv with
      | [v0, v1, v2, v3], _ => exact kp_binds (fun b o e => top _ _ (X _ _ e)) (fun S => h4 S v0 v1 v2 v3))
      fun L hL => s_bl W 0 q dv kv doc pm an cd ct a L T G (fx_ok F hL (by decide) hk)
theorem KOk.br2 (H : KOk K W.C) (X : K.In W.G) (T : TopF W) : ∃ f, FnAt W "bisect_right" f ∧ FnP W 1 f [] gBR2 := by
  obtain ⟨a, o, q, dv, kv, doc, pm, an, cd, ct, t, h1, h2, h3, h4⟩ := H.br
  have G := H.nm X T
  have hk : ∀ x ∈ N_br, (scopeOf (stAt 3)).names.lookup x = some .local := by decide
  have F := h2.fs X
  refine ⟨a, h2.at X T h1, ?_⟩
  exact FnP_of (k := 0) (ex := [.int 0 t, .none, .none]) (exa := [.int 0, .none, .none]) T F (by decide) hk (fun h => .cons (.int _ _) (.cons .none (.cons .none .nil))) 2 (fun s vs top hv => by
      match vs, hv with
      | [v0, v1], _ => exact kp_binds (fun b o e => top _ _ (X _ _ e)) (fun S => h3 S v0 v1))
      fun L hL => s_br W 0 q dv kv doc pm an cd ct a L T G (fx_ok F hL (by decide) hk)
theorem KOk.in2 (H : KOk K W.C) (X : K.In W.G) (T : TopF W) : ∃ f, FnAt W "insort_left" f ∧ FnW W 2 f [] gIN := by
  obtain ⟨a, o, q, dv, kv, doc, pm, an, cd, ct, t, h1, h2, h3, h4⟩ := H.ins
  obtain ⟨fb, b1, b2, b3⟩ := H.bl2 X T
  have G := H.nm X T
  have hk : ∀ x ∈ N_in, (scopeOf (stAt 4)).names.lookup x = some .local := by decide
  have F := h2.fs X
  refine ⟨a, h2.at X T h1, ?_⟩
  exact FnW_of (k := 1) (ex := [.int 0 t, .none, .none]) (exa := [.int 0, .none, .none]) T F (by decide) hk (fun h => .cons (.int _ _) (.cons .none (.cons .none .nil))) 2 (fun s vs top hv => by
      match vs, hv with
      | [v0, v1], _ => exact kp_binds (fun b o e => top _ _ (X _ _ e)) (fun S => h3 S v0 v1))
      fun L hL => s_in W 1 q dv kv doc pm an cd ct a L T G b1 b3 (fx_ok F hL (by decide) hk)
theorem KOk.lv1 (H : KOk K W.C) (X : K.In W.G) (T : TopF W) : ∃ f, FnAt W "_law_levels" f ∧ FnP W 1 f [] gLV := by
  obtain ⟨a, o, q, doc, pm, an, cd, ct, h1, h2⟩ := H.lv
  have G := H.nm X T
  have hk : ∀ x ∈ N_lv, (scopeOf (stAt 18)).names.lookup x = some .local := by decide
  have F := h2.fs X
  refine ⟨a, h2.at X T h1, (FnP_of (k := 0) (ex := []) (exa := []) T F (by decide) hk (fun h => .nil) 1 (fun s vs top hv => by
      match vs, hv with
      | [v0], _ => exact BindsTo.of_eq rfl)
      fun L hL => s_lv W 0 q .none .none doc pm an cd ct a L T G (fx_ok F hL (by decide) hk)).of_le fun as r h => ?_⟩
  simpa [gLV] using h
theorem KOk.hm1 (H : KOk K W.C) (X : K.In W.G) (T : TopF W) : ∃ f, FnAt W "_law_home" f ∧ FnP W 1 f [] gHM := by
  obtain ⟨a, o, q, doc, pm, an, cd, ct, h1, h2⟩ := H.hm
  have G := H.nm X T
  have hk : ∀ x ∈ N_hm, (scopeOf (stAt 19)).names.lookup x = some .local := by decide
  have F := h2.fs X
  refine ⟨a, h2.at X T h1, (FnP_of (k := 0) (ex := []) (exa := []) T F (by decide) hk (fun h => .nil) 2 (fun s vs top hv => by
      match vs, hv with
      | [v0, v1], _ => exact BindsTo.of_eq rfl)
      fun L hL => s_hm W 0 q .none .none doc pm an cd ct a L T G (fx_ok F hL (by decide) hk)).of_le fun as r h => ?_⟩
  simpa [gHM] using h
theorem KOk.st1 (H : KOk K W.C) (X : K.In W.G) (T : TopF W) : ∃ f, FnAt W "_strip_quoted_realnames" f ∧ FnP W 3 f [] gST := by
  obtain ⟨a, o, q, doc, pm, an, cd, ct, h1, h2⟩ := H.st
  obtain ⟨a7, o7, q7, doc7, pm7, an7, cd7, ct7, h17, h27⟩ := H.it
  have G := H.nm X T
  have hk : ∀ x ∈ N_st, (scopeOf (stAt 8)).names.lookup x = some .local := by decide
  have F := h2.fs X
  refine ⟨a, h2.at X T h1, (FnP_of (k := 2) (ex := []) (exa := []) T F (by decide) hk (fun h => .nil) 1 (fun s vs top hv => by
      match vs, hv with
      | [v0], _ => exact BindsTo.of_eq rfl)
      fun L hL => s_st W 0 q .none .none doc pm an cd ct a L T G (h27.gs X) (mg_of X T.g h17) (fx_ok F hL (by decide) hk)).of_le fun as r h => ?_⟩
  simpa [gST] using h
theorem KOk.ck1 (H : KOk K W.C) (X : K.In W.G) (T : TopF W) : ∃ f, FnAt W "_check_parenthesis" f ∧ FnP W 4 f [] gCK := by
  obtain ⟨a, o, q, doc, pm, an, cd, ct, h1, h2⟩ := H.ck
  obtain ⟨a7, o7, q7, doc7, pm7, an7, cd7, ct7, h17, h27⟩ := H.it
  obtain ⟨f8, a8, h8⟩ := H.st1 X T
  have G := H.nm X T
  have hk : ∀ x ∈ N_ck, (scopeOf (stAt 9)).names.lookup x = some .local := by decide
  have F := h2.fs X
  refine ⟨a, h2.at X T h1, (FnP_of (k := 3) (ex := []) (exa := []) T F (by decide) hk (fun h => .nil) 1 (fun s vs top hv => by
      match vs, hv with
      | [v0], _ => exact BindsTo.of_eq rfl)
      fun L hL => s_ck W 1 q .none .none doc pm an cd ct a L T G (h27.gs X) (mg_of X T.g h17) a8 h8 (fx_ok F hL (by decide) hk)).of_le fun as r h => ?_⟩
  simpa [gCK] using h
theorem KOk.ba1 (H : KOk K W.C) (X : K.In W.G) (T : TopF W) : ∃ f, FnAt W "_law_bare" f ∧ FnP W 4 f [] gBA := by
  obtain ⟨a, o, q, doc, pm, an, cd, ct, h1, h2⟩ := H.ba
  obtain ⟨a7, o7, q7, doc7, pm7, an7, cd7, ct7, h17, h27⟩ := H.it
  obtain ⟨f8, a8, h8⟩ := H.st1 X T
  have G := H.nm X T
  have hk : ∀ x ∈ N_ba, (scopeOf (stAt 17)).names.lookup x = some .local := by decide
  have F := h2.fs X
  refine ⟨a, h2.at X T h1, (FnP_of (k := 3) (ex := []) (exa := []) T F (by decide) hk (fun h => .nil) 1 (fun s vs top hv => by
      match vs, hv with
      | [v0], _ => exact BindsTo.of_eq rfl)
      fun L hL => s_ba W 1 q .none .none doc pm an cd ct a L T G (h27.gs X) (mg_of X T.g h17) a8 h8 (fx_ok F hL (by decide) hk)).of_le fun as r h => ?_⟩
  simpa [gBA] using h

theorem KOk.hd (H : KOk K W.C) (X : K.In W.G) (T : TopF W) : HdOk W 5 := by
  have G := H.nm X T
  have HC := H.hdc X
  have hstr : W.mg "str" = none := mg_none_of X T.g (H.free _ (by decide))
  have hlist : W.mg "list" = none := mg_none_of X T.g (H.free _ (by decide))
  obtain ⟨p1, p2, P1, P2, hp⟩ := H.pats
  obtain ⟨m1, P1⟩ := pat_of X T P1
  obtain ⟨m2, P2⟩ := pat_of X T P2
  obtain ⟨fC, oC, qC, kvC, docC, pmC, anC, cdC, ctC, c1, c2, c3⟩ := H.cv
  have MC := MtE.at X c1 c2 c3
  obtain ⟨cN, cV⟩ := conv_fn (k := 0) (dv := .none) T G hstr hp m1 m2 P1 P2 (c3.fs X)
  obtain ⟨fG, oG, qG, kvG, docG, pmG, anG, cdG, ctG, g1, g2, g3⟩ := H.get
  have MG := MtE.at X g1 g2 g3
  have hG := get_fn T HC MC cN (X _ _ g3.ob) g3.da (codeRec_of X g3.cd)
  obtain ⟨fA, oA, qA, kvA, docA, pmA, anA, cdA, ctA, a1, a2, a3⟩ := H.add
  have MA := MtE.at X a1 a2 a3
  have hA := add_fn T G HC MC cN cV (X _ _ a3.ob) a3.da (codeRec_of X a3.cd)
  obtain ⟨fI, oI, qI, dvI, kvI, docI, pmI, anI, cdI, ctI, i1, i2, i3, i4⟩ := H.ini
  refine ⟨fun c O p pos hk => ?_, fun c O i {l p ap pos e m b pl} => hd_get HC MG (hG.mono (by decide)) c O i, fun c O i {l p ap pos pos2 e1 e2 m1 m2 b1 b2 pl} => hd_add HC MA (hA.mono (by decide)) c O i⟩
  exact hd_new (k := 3) T G hlist HC (mg_of X T.g H.cls) H.mkC i1 i2 H.sa H.po H.tk H.keep (i3.fs X) (fun s x top => kp_binds (fun b o e => top _ _ (X _ _ e)) (fun S => i4 S (.ref x))) O p pos hk
end
end Mine

namespace Mine
section
variable {W : Wd} {k : Nat} {c : Fx}

theorem SS_drop {Wr : List Nat} {sts : List Stmt} {m : St → Option (Fl × St)} (j : Nat) (hj : j ∈ Wr) (h : SS W k c Wr sts m) : SS W k c Wr sts (fun σ => m (σ.set j none)) := by
  intro A hA σ s V F Q E f σ' R hm hQ
  refine h A hA (σ.set j none) s V (upd F j []) Q E f σ' (R.drop j) hm fun fl s' V' F' X => hQ fl s' V' F' ⟨X.rel, fun i hi => ?_, fun b o e hm hF => X.heap b o e hm fun i hi hb => ?_, fun i hi a ha => ?_, X.old, X.os, X.flow⟩
  · have hij : i ≠ j := fun h => hi (h ▸ hj)
    obtain ⟨a1, a2, a3⟩ := X.same i hi
    exact ⟨a1, by rw [a2, upd_ne _ _ hij], by rw [a3, List.getElem?_set_ne (Ne.symm hij)]⟩
  · by_cases hij : i = j
    · subst hij; rw [upd_same] at hb; cases hb
    · rw [upd_ne _ _ hij] at hb; exact hF i hi hb
  · rcases X.grow i hi a ha with ⟨i', hi', e⟩ | h
    · by_cases hij : i' = j
      · subst hij; rw [upd_same] at e; cases e
      · rw [upd_ne _ _ hij] at e; exact .inl ⟨i', hi', e⟩
    · exact .inr h

def isL {α : Type} (l : Addr) (a : α) (l' : Addr) : Option α := if l' = l then some a else none

theorem SE_takeScript {l : Addr} {vs : List Value} {xs : List Int} (hL : W.G.IsList l vs.toArray) (hI : IntsAre vs xs) (hz : xs.length ≤ tLine) {value hi : Expr} {p pos : Pos} {b1 b2 : Bool} {m1 : St → Option Addr} {m2 : St → Option Int} (h1 : SE W k c b1 tPat.inj value m1) (h2 : SE W k c b2 AV.int hi m2)
    (ht : ∀ o r, letTemporaryGo value o r = pure () := by intro _ _; rfl) : SE W k c true AV.il (.Subscript value (.Slice none (some hi) none p) pos) (op2 takeL (op1 (isL l xs) m1) m2) := by
  intro A hA σ s V F Q E g R hm hQ
  obtain ⟨x, a, e1, e2, e4⟩ := op2_some hm
  obtain ⟨l', e0, e1⟩ := op1_some e1
  unfold isL at e1
  split at e1
  case isFalse => cases e1
  rename_i hll
  cases e1
  subst hll
  unfold takeL at e4
  split at e4
  case isFalse => cases e4
  rename_i hb
  cases e4
  refine wpAny_Subscript_list_slice (h1 A hA σ s V F _ E l' R e0 fun v1 s1 F1 k1 r1 _ => wpAny_evalPart_none (evalPart_SE h2 hA (R.kp k1) e2 fun ta s2 k2 => ?_)) ht
  have hv : v1 = .ref l' := by
    have hF := r1.scal rfl
    subst hF
    generalize hw : tPat.inj l' = w at r1
    cases r1 <;> cases hw
    rfl
  subst hv
  have hl := hI.length
  have hL2 : s2.heap.IsList l' vs.toArray := (let ⟨o, e, r⟩ := hL; ⟨o, ((R.kp k1).kp k2).top _ _ e, r⟩)
  refine ⟨l', _, none, some a, rfl, hL2, by simp only [List.size_toArray]; have := tLine_le; omega, .none, .int _ _, ?_⟩
  have hz' := slice_ints_uptoW hI hb.1
  have e : slicePick vs.toArray none (some a) none = ((slicePick vs.toArray none (some a) none).toList).toArray := by simp
  rw [e]
  refine hQ _ _ [s2.heap.objs.size + 1] ((k1.trans k2).trans (Kp.of (t := s2.toks) (two_push _ _))) (.il ⟨0, ?_⟩ hz') fun _ y hy => ?_
  · have := Heap.get?_push_size (s2.heap.push { cls := .type "slice", data := .fields #[.none, .int a ta, .none] }) (o := { cls := .type "list", data := .seq (slicePick vs.toArray none (some a) none).toList.toArray }) rfl
    rw [Heap.size_push] at this; exact this
  · cases hy with
    | head => exact fresh_of (k1.trans k2) (freshSize (Nat.le_succ _))
    | tail _ h => cases h

theorem SE_dropLT {value lo : Expr} {p pos : Pos} {b1 b2 : Bool} {m1 : St → Option (List Int)} {m2 : St → Option Int} (h1 : SE W k c b1 AV.il value m1) (h2 : SE W k c b2 AV.int lo m2) :
    SE W k c true AV.il (.Subscript value (.Slice (some lo) none none p) pos) (op2 dropL m1 m2) := by
  intro A hA σ s V F Q E g R hm hQ
  obtain ⟨x, a, e1, e2, e4⟩ := op2_some hm
  unfold dropL at e4
  split at e4
  case isFalse => cases e4
  rename_i hb
  cases e4
  refine Subscript_ (h1 A hA σ s V F _ E x R e1 fun v1 s1 F1 k1 r1 _ => wpAny_Slice (evalPart_SE h2 hA (R.kp k1) e2 fun ta s2 k2 => wpAny_evalPart_none (wpAny_evalPart_none ?_)))
  have r1' := r1.keeps k2.heap
  cases r1' with | @il al vs _ l1 i1 =>
  have hl := i1.length
  refine kba_turn (value' := .Name "_" ⟨0, 0, 0, 0⟩) (fun _ => rfl) (tail_of_ItemOn (ops := [.ref s2.heap.objs.size, .ref al]) ⟨"list", _, list_getitem_lookup, (l1.isList.push _).typeIs, wpAny_getItem_list_slice (l1.isList.push _) (Heap.IsSliceOf.new ..) (.int _ _) .none .none (by simp) ?_ (by simp only [List.size_toArray]; have := tLine_le; omega)⟩ (by with_unfolding_all rfl) (fun _ => rfl))
  rw [Heap.size_push]
  have hz := slice_ints_fromW i1 hb.1
  have e : slicePick vs.toArray (some a) none none = ((slicePick vs.toArray (some a) none none).toList).toArray := by simp
  rw [e]
  refine hQ _ _ [s2.heap.objs.size + 1] ((k1.trans k2).trans (Kp.of (t := s2.toks) (two_push _ _))) (.il ⟨0, ?_⟩ hz) fun _ y hy => ?_
  · have := Heap.get?_push_size (s2.heap.push { cls := .type "slice", data := .fields #[.int a ta, .none, .none] }) (o := { cls := .type "list", data := .seq (slicePick vs.toArray (some a) none none).toList.toArray }) rfl
    rw [Heap.size_push] at this; exact this
  · cases hy with
    | head => exact fresh_of (k1.trans k2) (freshSize (Nat.le_succ _))
    | tail _ h => cases h

theorem op_sumScript {l : Addr} {vs : List Value} {xs : List Int} (hL : W.G.IsList l vs.toArray) (hI : IntsAre vs xs) : Op1 W k tPat.inj AV.int (fun v => call (.builtin "sum") [v]) (isL l xs.sum) := by
  intro A hA s v1 F1 Q E a g top r1 e hQ
  unfold isL at e
  split at e
  case isFalse => cases e
  rename_i hll
  cases e
  subst hll
  have hv : v1 = .ref a := by
    have hF := r1.scal rfl
    subst hF
    generalize hw : tPat.inj a = w at r1
    cases r1 <;> cases hw
    rfl
  subst hv
  have hL2 : s.heap.IsList a vs.toArray := (let ⟨o, e, r⟩ := hL; ⟨o, top _ _ e, r⟩)
  obtain ⟨ys, hx⟩ := hI.allInts.items
  have hnum : ys.toList.map (·.1) = xs := by
    rw [← nums_intItems, ← hx]; exact hI.numsOf
  have hlen : ys.size = xs.length := by rw [← hnum]; simp
  rw [hx] at hL2
  refine sum_intListG hA.hh hL2 fun h' tk t' hk => ?_
  rw [preSum_eq, hnum, hlen, List.take_length]
  exact hQ _ _ [] (Kp.of hk) (.int _ _) nofr

def drawsM (l : Addr) (xs : List Int) : St → Option (List Int) := op2 catL (op2 takeL (op1 (isL l xs) (look tPat 0)) (cI 4)) (op2 dropL (listI [cI 1, cI 0, cI 1, cI 1]) (op1 lenF (op2 takeL (op1 (isL l xs) (look tPat 0)) (cI 4))))
def turnM (l : Addr) (xs : List Int) : St → Option Int := op2 modF (op1 (isL l xs.sum) (look tPat 0)) (cI 7)
def lvM : St → Option (Fl × St) := appF tIl 4 (op2 modF (look tInt 5) (op2 addI (op2 idxL (look tIl 4) (cI (-1))) (cI 2)))
def m_all (l : Addr) (xs : List Int) : St → Option (Fl × St) :=
  andThen (setF 1 AV.il (drawsM l xs)) (andThen (setF 2 AV.int (turnM l xs))
    (andThen (setF 3 AV.sl (listS [(cS []), (cS [92, 41]), (cS []), (cS [34, 40, 34]), (cS []), (cS [92, 34]), (cS [])]))
    (andThen (setF 4 AV.il (listI [(cI 0)]))
    (andThen (forM 5 AV.int (listM tIl 1) lvM)
    (fun σ => m_law (((σ.set 0 none).set 1 none).set 5 none))))))

theorem s_all {l : Addr} {vs : List Value} {xs : List Int} (hL : W.G.IsList l vs.toArray) (hI : IntsAre vs xs) (hz : xs.length ≤ tLine) (L a : Addr) (cd : Value) (T : TopF W) (G : Nm W) (O : (lawFx L a cd).Ok W)
    (hlaw : SS W k (lawFx L a cd) [1, 2, 3, 4, 5, 6, 7, 8, 9, 10, 11, 12, 13, 14, 15, 16, 17, 18, 19, 20, 21, 22] ((bodyOf (stAt 20)).drop 5) m_law) :
    SS W k (lawFx L a cd) [0, 1, 2, 3, 4, 5, 6, 7, 8, 9, 10, 11, 12, 13, 14, 15, 16, 17, 18, 19, 20, 21, 22] (bodyOf (stAt 20)) (m_all l xs) :=
  SS_cons (S1_assign O (SE_bin (SE_takeScript hL hI hz (SE_var tPat O 0 rfl rfl) SE_int) (SE_dropLT (SE_listI (.cons SE_int (by intro _; rfl) (.cons SE_int (by intro _; rfl) (.cons SE_int (by intro _; rfl) (.cons SE_int (by intro _; rfl) .nil))))) (SE_call1 T O (by rfl) G.len (by rfl) (SE_takeScript hL hI hz (SE_var tPat O 0 rfl rfl) SE_int) op_lenL)) op_addL) 1 rfl rfl (by decide) (nf O 1 rfl))
  (SS_cons (S1_assign O (SE_bin (SE_call1 T O (by rfl) G.sum (by rfl) (SE_var tPat O 0 rfl rfl) (op_sumScript hL hI)) SE_int op_modI) 2 rfl rfl (by decide) (nfc O 2 rfl (by rfl)))
  (SS_cons (S1_assign O (SE_listS (.cons (SE_str (l := []) (by rfl)) (by intro _; rfl) (.cons (SE_str (l := [92, 41]) (by rfl)) (by intro _; rfl) (.cons (SE_str (l := []) (by rfl)) (by intro _; rfl) (.cons (SE_str (l := [34, 40, 34]) (by rfl)) (by intro _; rfl) (.cons (SE_str (l := []) (by rfl)) (by intro _; rfl) (.cons (SE_str (l := [92, 34]) (by rfl)) (by intro _; rfl) (.cons (SE_str (l := []) (by rfl)) (by intro _; rfl) .nil)))))))) 3 rfl rfl (by decide) (nfc O 3 rfl (by rfl)))
  (SS_cons (S1_assign O (SE_listI (.cons SE_int (by intro _; rfl) .nil)) 4 rfl rfl (by decide) (nfc O 4 rfl (by rfl)))
  (SS_cons (S1_weak (Wr' := [4, 5]) (S1_for O 5 rfl rfl (by decide) (nf O 5 rfl) (IT_list O il_at 1 rfl rfl (by decide)) (SS_one (SP.s1 (SP_append lst_il scal'_int O (SE_bin (SE_var tInt O 5 rfl rfl) (SE_bin (SE_itemI (SE_var tIl O 4 rfl rfl (by rfl) (by rfl)) SE_neg) SE_int op_addI) op_modI) 4 rfl rfl (by rfl) (by rfl) (by rfl)) (by decide)))) (by decide))
  (SS_drop 0 (by decide) (SS_drop 1 (by decide) (SS_drop 5 (by decide) (hlaw.weak (by decide)))))))))
end
end Mine

namespace Mine

def lawSpec : List (Str × Option Nat) := [("script", none), ("draws", none), ("turn", some 1), ("dress", some 2), ("levels", some 3), ("x", none), ("row", some 4), ("height", none), ("level", none), ("text", none), ("lap", none), ("table", some 5), ("k", none), ("piece", none), ("bare", some 6), ("due", none), ("shelf", none), ("meetings", none), ("ups", none), ("downs", none), ("stops", some 7), ("hop", none), ("ways", none)]
def mkLoc (L : Addr) (p : Str × Option Nat) : Loc := match p.2 with | some n => .cell p.1 (L + n) | none => .ns p.1
theorem law_loc (L a : Addr) (cd : Value) : (lawFx L a cd).loc = lawSpec.map (mkLoc L) := rfl
theorem mkLoc_ns {L : Addr} {p : Str × Option Nat} {x : Str} (h : mkLoc L p = .ns x) : p = (x, none) := by
  obtain ⟨y, n⟩ := p
  cases n with
  | none => unfold mkLoc at h; simp at h; rw [h]
  | some n => unfold mkLoc at h; simp at h
theorem mkLoc_cell {L b : Addr} {p : Str × Option Nat} {x : Str} (h : mkLoc L p = .cell x b) : ∃ n, p = (x, some n) ∧ b = L + n := by
  obtain ⟨y, n⟩ := p
  cases n with
  | none => unfold mkLoc at h; simp at h
  | some n => unfold mkLoc at h; simp at h; exact ⟨n, by rw [h.1], h.2.symm⟩
theorem law_ns {L a : Addr} {cd : Value} {i : Nat} {x : Str} (h : (lawFx L a cd).loc[i]? = some (.ns x)) : lawSpec[i]? = some (x, none) := by
  rw [law_loc, List.getElem?_map] at h
  cases e : lawSpec[i]? with
  | none => rw [e] at h; cases h
  | some p => rw [e] at h; rw [mkLoc_ns (Option.some.inj h)]
theorem law_cell {L a : Addr} {cd : Value} {i : Nat} {x : Str} {b : Addr} (h : (lawFx L a cd).loc[i]? = some (.cell x b)) : ∃ n, lawSpec[i]? = some (x, some n) ∧ b = L + n := by
  rw [law_loc, List.getElem?_map] at h
  cases e : lawSpec[i]? with
  | none => rw [e] at h; cases h
  | some p =>
    rw [e] at h
    obtain ⟨n, h1, h2⟩ := mkLoc_cell (Option.some.inj h)
    exact ⟨n, by rw [h1], h2⟩
theorem spec_names : (lawSpec.map (·.1)).Nodup := by decide
theorem spec_offs : (lawSpec.filterMap (·.2)).Nodup := by decide
theorem spec_inj {i j : Nat} {x : Str} {p q : Option Nat} (h1 : lawSpec[i]? = some (x, p)) (h2 : lawSpec[j]? = some (x, q)) : i = j :=
  nodup_inj spec_names (by rw [List.getElem?_map, h1]; rfl) (by rw [List.getElem?_map, h2]; rfl)
theorem spec_off : ∀ p ∈ lawSpec, ∀ q ∈ lawSpec, p.2 = q.2 → p.2 ≠ none → p.1 = q.1 := by decide
theorem spec_local : ∀ p ∈ lawSpec, p.2 = none → (scopeOf (stAt 20)).names.lookup p.1 = some .local := by decide
theorem spec_cell : ∀ p ∈ lawSpec, p.2 ≠ none → (scopeOf (stAt 20)).names.lookup p.1 = some .cell := by decide
theorem spec_pos : ∀ p ∈ lawSpec, p.2 ≠ some 0 := by decide
def lawCells (L : Addr) : List (Str × Addr) := cellsFrom (L + 1) (scopeOf (stAt 20)).names []
theorem law_cells (L : Addr) : lawCells L = ([("stops", L + 7), ("bare", L + 6), ("table", L + 5), ("row", L + 4), ("levels", L + 3), ("dress", L + 2), ("turn", L + 1)] : List (Str × Addr)) := rfl
theorem law_look {L : Addr} {x : Str} {n : Nat} (h : (x, some n) ∈ lawSpec) : (lawCells L).lookup x = some (L + n) := by
  rw [law_cells]
  have : (x, n) ∈ ([("turn", 1), ("dress", 2), ("levels", 3), ("row", 4), ("table", 5), ("bare", 6), ("stops", 7)] : List (Str × Nat)) := by
    unfold lawSpec at h
    simp only [List.mem_cons, Prod.mk.injEq, reduceCtorEq, and_false, false_or, List.not_mem_nil, or_false, Option.some.injEq] at h
    simp only [List.mem_cons, Prod.mk.injEq, List.not_mem_nil, or_false]
    exact h
  simp only [List.mem_cons, Prod.mk.injEq, List.not_mem_nil, or_false] at this
  rcases this with ⟨rfl, rfl⟩ | ⟨rfl, rfl⟩ | ⟨rfl, rfl⟩ | ⟨rfl, rfl⟩ | ⟨rfl, rfl⟩ | ⟨rfl, rfl⟩ | ⟨rfl, rfl⟩ <;> rfl

section
variable {W : Wd}
theorem law_mine {L a : Addr} {cd : Value} {b : Addr} (h : b ∈ (lawFx L a cd).mine) : L ≤ b := by
  rcases List.mem_cons.mp h with rfl | h
  · exact Nat.le_refl _
  · obtain ⟨l, hl, e⟩ := List.mem_filterMap.mp h
    cases l with
    | ns x => cases e
    | cell x b' =>
      cases e
      obtain ⟨i, hi⟩ := List.getElem?_of_mem hl
      obtain ⟨n, _, h2⟩ := law_cell hi
      rw [h2]; exact Nat.le_add_right ..
theorem law_ok {L a : Addr} {cd : Value} (hL : ∀ b, L ≤ b → W.G.get? b = none) : (lawFx L a cd).Ok W where
  kind := rfl
  glob := rfl
  blt := rfl
  new := fun b hb => hL b (law_mine hb)
  apart := fun i j x y b h1 h2 => by
    obtain ⟨n, e1, q1⟩ := law_cell h1
    obtain ⟨m, e2, q2⟩ := law_cell h2
    have : n = m := Nat.add_left_cancel (q1.symm.trans q2)
    subst this
    have := spec_off _ (List.mem_of_getElem? e1) _ (List.mem_of_getElem? e2) rfl (by simp)
    have : x = y := this
    subst this
    exact spec_inj e1 e2
  offL := fun i x h => by
    obtain ⟨n, e1, q1⟩ := law_cell h
    have q1 : L = L + n := q1
    have : n = 0 := Nat.add_left_cancel (q1.symm.trans (Nat.add_zero _).symm)
    subst this
    exact spec_pos _ (List.mem_of_getElem? e1) rfl
  names := fun i j x h1 h2 => spec_inj (law_ns h1) (law_ns h2)
  kindL := fun i x h => spec_local _ (List.mem_of_getElem? (law_ns h)) rfl
  kindC := fun i x b h => by
    obtain ⟨n, e1, q1⟩ := law_cell h
    have hm := List.mem_of_getElem? e1
    exact ⟨.inl (spec_cell _ hm (by simp)), by rw [q1]; exact law_look hm⟩

def sig0 (l : Addr) : St := some (.pat l) :: List.replicate 22 none
theorem sig0_at {l : Addr} {i : Nat} {av : AV} (h : (sig0 l)[i]? = some (some av)) : i = 0 ∧ av = .pat l := by
  cases i with
  | zero => simp [sig0] at h; exact ⟨rfl, h.symm⟩
  | succ i =>
    have h : (List.replicate 22 (none : Option AV))[i]? = some (some av) := h
    rw [List.getElem?_replicate] at h
    split at h
    · cases h
    · cases h

theorem fin {K : Frag} (T : TopF W) (X : K.In W.G) (H : KOk K W.C) {s : Shared} (hs : s.heap = W.G) (hg : s.gens = #[]) {fa : Addr} {o : Obj} {doc pm : Value} {an : Option Addr} {cd ct : Value} (ho : W.G.get? fa = some o)
    (hd : o.data = .func (mkfd (stAt 20) "law" .none .none doc pm an cd ct)) (hcd : W.G.CodeRec cd "law") {l : Addr} {vs : List Value} {xs : List Int} (hL : W.G.IsList l vs.toArray) (hI : IntsAre vs xs) (hlen : xs.length ≤ 63) {σ' : St} (hm : m_all l xs (sig0 l) = some (.ret (.bool true), σ'))
    {R : Result → Shared → Prop} (hR : ∀ s' : Shared, (∀ b o, W.G.get? b = some o → s'.heap.get? b = some o) → s'.os = s.os → AllBare s'.gens → R (.ok (.ret (.bool true))) s') : codeAny (model W.prog W.w) callerA (.call (.ref fa) ⟨[.ref l], []⟩) R s := by
  have top : ∀ b o, W.G.get? b = some o → s.heap.get? b = some o := fun b o e => by rw [hs]; exact e
  have hsz : ∀ b, s.heap.objs.size ≤ b → W.G.get? b = none := fun b hb => by rw [← hs]; exact freshSize hb
  have G := H.nm X T
  have HD := H.hd X T
  obtain ⟨fBL, aBL, hBL, _⟩ := H.bl2 X T
  obtain ⟨fBR, aBR, hBR⟩ := H.br2 X T
  obtain ⟨fIN, aIN, hIN⟩ := H.in2 X T
  obtain ⟨fLV, aLV, hLV⟩ := H.lv1 X T
  obtain ⟨fHM, aHM, hHM⟩ := H.hm1 X T
  obtain ⟨fCK, aCK, hCK⟩ := H.ck1 X T
  obtain ⟨fBA, aBA, hBA⟩ := H.ba1 X T
  have O := law_ok (W := W) (L := s.heap.objs.size) (a := fa) (cd := cd) hsz
  have hlaw := s_law W 5 s.heap.objs.size fa cd T G HD aCK (hCK.mono (by decide)) aBA (hBA.mono (by decide)) aLV (hLV.mono (by decide)) aHM (hHM.mono (by decide)) aBR (hBR.mono (by decide)) aBL (hBL.mono (by decide)) aIN (hIN.mono (by decide)) O
  have hall := s_all (k := 5) hL hI (by unfold tLine; omega) s.heap.objs.size fa cd T G O hlaw
  refine codeAny_call_cells (fd := mkfd (stAt 20) "law" .none .none doc pm an cd ct) (body := bodyOf (stAt 20)) (binds := [("script", .ref l)]) (by decide) (top _ _ ho) hd (T.nolimit.keeps top) (hcd.keeps top) rfl rfl rfl (fun p hp => ?_) (fun s1 X1 => ?_) rfl rfl rfl
  · rcases List.mem_cons.mp hp with rfl | hp
    · exact .inl (spec_local ("script", none) (by decide) rfl)
    · cases hp
  obtain ⟨h1, tk, rfl, hk⟩ := X1.done
  have hns := X1.toInCall.ns
  have R0 : Rel W (lawFx s.heap.objs.size fa cd) (sig0 l) { s with heap := h1, toks := tk } (fun _ => .ref l) (fun _ => []) := by
    refine ⟨fun b o e => hk b o (top b o e), ⟨_, hns, fun i x av e1 e2 => ?_⟩, fun i x b e => ?_, fun i av e => ?_, fun i h => rfl, fun i j hij a ha => (nomatch ha), fun i a ha => (nomatch ha), by show AllBare s.gens; rw [hg]; exact AllBare.empty, rfl⟩
    · obtain ⟨rfl, _⟩ := sig0_at e2
      have := law_ns e1
      cases this
      rfl
    · obtain ⟨n, e1, q1⟩ := law_cell e
      refine ⟨_, X1.cell x b (O.kindC i x b e).2, fun av e2 => ?_⟩
      obtain ⟨rfl, _⟩ := sig0_at e2
      cases e1
    · obtain ⟨rfl, rfl⟩ := sig0_at e
      exact .pat _
  have hA : AOk 5 (callerA.deeper (lawFx s.heap.objs.size fa cd).env) := ⟨rfl, by show callerA.depth + 1 + 5 < recursionLimit; decide, by show callerA.units + 3 + 100 * (5 + 1) < cLine; decide⟩
  refine hall _ hA _ _ _ _ _ _ _ σ' R0 hm fun fl s' V' F' Y => ?_
  obtain ⟨v, Fr, e1, e2, _⟩ := Y.flow
  subst e1
  cases e2
  exact hR s' Y.rel.top Y.os.os Y.rel.gens
end
end Mine

namespace Mine
def dressL : List Sg := [[], [92, 41], [], [34, 40, 34], [], [92, 34], []]
def sig (lv : List Int) (t : Int) : St := [none, none, some (.int t), some (.sl dressL), some (.il lv)] ++ List.replicate 18 none
def okLaw (r : Option (Fl × St)) : Bool := match r with
  | some (.ret (.bool true), _) => true
  | _ => false
def nx (l : List Int) : List (List Int) := (List.range ((l.getLastD 0).toNat + 2)).map fun (n : Nat) => l ++ [(n : Int)]
def lvsOf : List (List Int) := ((([[0]].flatMap nx).flatMap nx).flatMap nx).flatMap nx

theorem okLaw_is {r : Option (Fl × St)} (h : okLaw r = true) : ∃ σ', r = some (.ret (.bool true), σ') := by
  unfold okLaw at h
  split at h
  · exact ⟨_, rfl⟩
  · cases h

theorem draws_four (l : Addr) (xs : List Int) (hz : xs.length ≤ 63) : ∃ d0 d1 d2 d3, drawsM l xs (sig0 l) = some [d0, d1, d2, d3] := by
  have hb : (0 : Int) ≤ 4 ∧ xs.length ≤ tLine := ⟨by decide, by unfold tLine; omega⟩
  have h1 : op2 takeL (op1 (isL l xs) (look tPat 0)) (cI 4) (sig0 l) = some (xs.take 4) := by
    have e0 : look tPat 0 (sig0 l) = some l := rfl
    have e1 : op1 (isL l xs) (look tPat 0) (sig0 l) = some xs := by
      simp only [op1, e0, isL, if_true]
    simp only [op2, e1, cI, takeL, if_pos hb]
    rfl
  have hl : (xs.take 4).length ≤ tLine := by rw [List.length_take]; unfold tLine; omega
  have h2 : op1 lenF (op2 takeL (op1 (isL l xs) (look tPat 0)) (cI 4)) (sig0 l) = some ((xs.take 4).length : Int) := by
    simp only [op1, h1, lenF, if_pos hl]
  have h3 : listI [cI 1, cI 0, cI 1, cI 1] (sig0 l) = some [1, 0, 1, 1] := rfl
  have hd : (0 : Int) ≤ ((xs.take 4).length : Int) ∧ ([1, 0, 1, 1] : List Int).length ≤ tLine := ⟨Int.natCast_nonneg _, by decide⟩
  have h4 : op2 dropL (listI [cI 1, cI 0, cI 1, cI 1]) (op1 lenF (op2 takeL (op1 (isL l xs) (look tPat 0)) (cI 4))) (sig0 l) = some (([1, 0, 1, 1] : List Int).drop (xs.take 4).length) := by
    simp only [op2.eq_def (f := dropL), h3, h2, dropL, if_pos hd, Int.toNat_natCast]
  have hc : (xs.take 4).length + (([1, 0, 1, 1] : List Int).drop (xs.take 4).length).length ≤ tLine := by
    rw [List.length_take, List.length_drop]; unfold tLine; simp only [List.length_cons, List.length_nil]; omega
  have h5 : drawsM l xs (sig0 l) = some (xs.take 4 ++ ([1, 0, 1, 1] : List Int).drop (xs.take 4).length) := by
    unfold drawsM
    rw [op2.eq_def (f := catL), h1]
    dsimp only
    rw [h4]
    dsimp only
    unfold catL
    rw [if_pos hc]
  rw [h5]
  match xs with
  | [] => exact ⟨_, _, _, _, rfl⟩
  | [a] => exact ⟨_, _, _, _, rfl⟩
  | [a, b] => exact ⟨_, _, _, _, rfl⟩
  | [a, b, c] => exact ⟨_, _, _, _, rfl⟩
  | a :: b :: c :: d :: r => exact ⟨a, b, c, d, by simp⟩

def σL (l : Addr) (ds : List Int) (t : Int) (ls : List Int) (x : Option AV) : St := [some (.pat l), some (.il ds), some (.int t), some (.sl dressL), some (.il ls), x] ++ List.replicate 17 none

theorem lv_step {l : Addr} {ds : List Int} {t : Int} {ls : List Int} {x : Option AV} {d a : Int} (h1 : idxL ls (-1) = some a) (ha : 0 ≤ a) (hl : ls.length ≤ tLine) :
    lvM ((σL l ds t ls x).set 5 (some (.int d))) = some (.next, σL l ds t (ls ++ [d.fmod (a + 2)]) (some (.int d))) := by
  have e1 : look tIl 4 ((σL l ds t ls x).set 5 (some (.int d))) = some ls := rfl
  have e2 : look tInt 5 ((σL l ds t ls x).set 5 (some (.int d))) = some d := rfl
  have hne : ¬ a + 2 = 0 := by omega
  unfold lvM appF
  simp only [e1, op2, e2, cI, h1, addI, modF, if_neg hne, if_pos hl]
  rfl
theorem fmod_nat (d : Int) {a : Int} (ha : 0 < a) : ∃ n : Nat, d.fmod a = n ∧ (n : Int) < a := by
  have h1 := Int.fmod_nonneg_of_pos d ha
  have h2 := Int.fmod_lt_of_pos d ha
  exact ⟨(d.fmod a).toNat, (Int.toNat_of_nonneg h1).symm, by rw [Int.toNat_of_nonneg h1]; exact h2⟩

theorem nx_mem {l ls : List Int} {a n : Nat} (hl : ls.getLastD 0 = (a : Int)) (hn : n < a + 2) : ls ++ [(n : Int)] ∈ nx ls := by
  unfold nx
  rw [hl, Int.toNat_natCast]
  exact List.mem_map.mpr ⟨n, List.mem_range.mpr hn, rfl⟩

theorem run_ok (plain : ∀ lv ∈ lvsOf, ∀ t ∈ List.range 7, okLaw (m_law (sig lv (t : Nat))) = true) (l : Addr) (xs : List Int) (hz : xs.length ≤ 63) : ∃ σ', m_all l xs (sig0 l) = some (.ret (.bool true), σ') := by
  obtain ⟨d0, d1, d2, d3, hd⟩ := draws_four l xs hz
  obtain ⟨t, ht, ht7⟩ := fmod_nat xs.sum (a := 7) (by decide)
  obtain ⟨n1, e1, b1⟩ := fmod_nat d0 (a := 0 + 2) (by decide)
  obtain ⟨n2, e2, b2⟩ := fmod_nat d1 (a := (n1 : Int) + 2) (by omega)
  obtain ⟨n3, e3, b3⟩ := fmod_nat d2 (a := (n2 : Int) + 2) (by omega)
  obtain ⟨n4, e4, b4⟩ := fmod_nat d3 (a := (n3 : Int) + 2) (by omega)
  have hmem : ([0, (n1 : Int), n2, n3, n4] : List Int) ∈ lvsOf := by
    unfold lvsOf
    refine List.mem_flatMap.mpr ⟨[0, n1, n2, n3], List.mem_flatMap.mpr ⟨[0, n1, n2], List.mem_flatMap.mpr ⟨[0, n1], List.mem_flatMap.mpr ⟨[0], by simp, ?_⟩, ?_⟩, ?_⟩, ?_⟩
    · exact nx_mem (l := []) (ls := [0]) (a := 0) rfl (by omega)
    · exact nx_mem (l := []) (ls := [0, n1]) (a := n1) rfl (by omega)
    · exact nx_mem (l := []) (ls := [0, n1, n2]) (a := n2) rfl (by omega)
    · exact nx_mem (l := []) (ls := [0, n1, n2, n3]) (a := n3) rfl (by omega)
  obtain ⟨σ', hσ⟩ := okLaw_is (plain _ hmem t (List.mem_range.mpr (by omega)))
  refine ⟨σ', ?_⟩
  have s1 : setF 1 AV.il (drawsM l xs) (sig0 l) = some (.next, some (.pat l) :: some (.il [d0, d1, d2, d3]) :: List.replicate 21 none) := by
    unfold setF; rw [hd]; rfl
  have s2 : setF 2 AV.int (turnM l xs) (some (.pat l) :: some (.il [d0, d1, d2, d3]) :: List.replicate 21 none) = some (.next, some (.pat l) :: some (.il [d0, d1, d2, d3]) :: some (.int t) :: List.replicate 20 none) := by
    have e0 : look tPat 0 (some (.pat l) :: some (.il [d0, d1, d2, d3]) :: List.replicate 21 none) = some l := rfl
    have h7 : ¬ (7 : Int) = 0 := by decide
    unfold setF turnM
    simp only [op2, op1, e0, isL, if_true, cI, modF, if_neg h7, ht]
    rfl
  have s5 : forM 5 AV.int (listM tIl 1) lvM (σL l [d0, d1, d2, d3] t [0] none) = some (.next, σL l [d0, d1, d2, d3] t [0, n1, n2, n3, n4] (some (.int d3))) := by
    have e0 : listM tIl 1 (σL l [d0, d1, d2, d3] t [0] none) = some [d0, d1, d2, d3] := rfl
    unfold forM
    rw [e0]
    dsimp only
    unfold forF
    rw [lv_step (a := 0) rfl (by decide) (by decide), e1]
    dsimp only
    unfold forF
    rw [lv_step (ls := [0] ++ [(n1 : Int)]) (a := n1) rfl (Int.natCast_nonneg _) (by simp [tLine]), e2]
    dsimp only
    unfold forF
    rw [lv_step (ls := [0] ++ [(n1 : Int)] ++ [(n2 : Int)]) (a := n2) rfl (Int.natCast_nonneg _) (by simp [tLine]), e3]
    dsimp only
    unfold forF
    rw [lv_step (ls := [0] ++ [(n1 : Int)] ++ [(n2 : Int)] ++ [(n3 : Int)]) (a := n3) rfl (Int.natCast_nonneg _) (by simp [tLine]), e4]
    rfl
  unfold m_all
  rw [andThen.eq_def, s1]
  dsimp only
  rw [andThen.eq_def, s2]
  dsimp only
  rw [andThen.eq_def, show setF 3 AV.sl (listS [(cS []), (cS [92, 41]), (cS []), (cS [34, 40, 34]), (cS []), (cS [92, 34]), (cS [])]) (some (.pat l) :: some (.il [d0, d1, d2, d3]) :: some (.int t) :: List.replicate 20 none) = some (.next, some (.pat l) :: some (.il [d0, d1, d2, d3]) :: some (.int t) :: some (.sl dressL) :: List.replicate 19 none) from rfl]
  dsimp only
  rw [andThen.eq_def, show setF 4 AV.il (listI [cI 0]) (some (.pat l) :: some (.il [d0, d1, d2, d3]) :: some (.int t) :: some (.sl dressL) :: List.replicate 19 none) = some (.next, σL l [d0, d1, d2, d3] t [0] none) from rfl]
  dsimp only
  rw [andThen.eq_def, s5]
  dsimp only
  exact hσ
end Mine

namespace Mine
def mA : St → Option (Fl × St) :=
  (andThen (setF 6 AV.str (cS []))
  (andThen (setF 7 AV.int (cI 0))
  (andThen (forM 8 AV.int (listM tIl 4) (andThen (augF tStr 6 catF (op2 catF (op2 mulF (cS [41]) (op2 subI (look tInt 7) (look tInt 8))) (cS [40])))
    (setF 7 AV.int (op2 addI (look tInt 8) (cI 1)))))
  (andThen (augF tStr 6 catF (op2 mulF (cS [41]) (look tInt 7)))
  (andThen (setF 9 AV.str (op2 joinF (cS []) (compM AV.int [2, 3, 6] (range1M (cI 10)) (fun _ => some true) (op2 catF (op2 idxT (look tStr 3) (look tInt 0)) (op2 idxL (look tSl 2) (op2 modF (op2 addI (look tInt 1) (look tInt 0)) (cI 7)))))))
  (ifF (orM (op2 isNotBF (callM tBool gCK (mAll [(scM AV.str (look tStr 9))])) (cB true)) (op2 neS (callM tStr gBA (mAll [(scM AV.str (look tStr 9))])) (look tStr 6))) (retF AV.bool (cB false)) done))))))
def mB : St → Option (Fl × St) :=
  (andThen (setF 11 tHdr.inj (fun _ => some []))
  (forM 12 AV.int (range1M (cI 5)) (andThen (setF 13 AV.str (op2 idxL (look tSl 3) (op2 modF (op2 addI (op2 addI (look tInt 2) (look tInt 10)) (look tInt 12)) (cI 7))))
    (andThen (addM 11 (op2 idxT (cS [97, 66, 99, 68, 101, 70]) (op2 idxL (look tIl 4) (look tInt 12))) (op2 catF (cS [40]) (look tStr 13)))
    (addM 11 (op2 idxT (cS [65, 98, 67, 100, 69, 102]) (op2 addI (op2 idxL (look tIl 4) (look tInt 12)) (cI 1))) (op2 catF (look tStr 13) (cS [41])))))))
def mC : St → Option (Fl × St) :=
  (andThen (setF 9 AV.str (op2 joinF (cS []) (compM AV.str [11] (textM (cS [97, 98, 99, 68, 69, 70])) (fun _ => some true) (op2 joinF (cS []) (op2 getF (look tHdr 1) (look tStr 0))))))
  (andThen (ifF (op2 isNotBF (callM tBool gCK (mAll [(scM AV.str (look tStr 9))])) (cB true)) (retF AV.bool (cB false)) done)
  (setF 14 AV.str (callM tStr gBA (mAll [(scM AV.str (look tStr 9))])))))
def mD : St → Option (Fl × St) :=
  (andThen (setF 15 AV.il (listI []))
  (andThen (forM 8 AV.int (range1M (cI 5)) (forM 12 AV.int (range1M (cI 5)) (ifF (op2 eqI (op2 idxL (look tIl 4) (look tInt 12)) (look tInt 8)) (appF tIl 15 (op2 addI (op2 countF (op2 takeL (look tIl 4) (look tInt 12)) (look tInt 8)) (op2 countF (op2 dropL (look tIl 4) (op2 addI (look tInt 12) (cI 1))) (op2 subI (look tInt 8) (cI 1))))) done)))
  (andThen (ifF (op2 neLF (callM tIl gLV (mAll [(scM AV.str (look tStr 14))])) (look tIl 15)) (retF AV.bool (cB false)) done)
  (andThen (setF 16 AV.il (listI []))
  (andThen (setF 17 AV.int (cI 0))
  (andThen (forM 8 AV.int (listM tIl 4) (andThen (augF tInt 17 addI (op2 subI (callM tInt gBR2 (slotArg 16 [(scM AV.int (op2 addI (look tInt 8) (cI 1)))])) (callM tInt gBL2 (slotArg 16 [(scM AV.int (look tInt 8))]))))
    (callWF 16 gIN [(scM AV.int (look tInt 8))])))
  (andThen (ifF (op2 neI (op1 sumF (look tIl 15)) (look tInt 17)) (retF AV.bool (cB false)) done)
  (andThen (setF 18 tIl.inj (compM AV.int [14] (range1M (cI 10)) (op2 eqS (op2 idxT (look tStr 1) (look tInt 0)) (cS [40])) (look tInt 0)))
  (andThen (setF 19 tIl.inj (compM AV.int [14] (range1M (cI 10)) (op2 eqS (op2 idxT (look tStr 1) (look tInt 0)) (cS [41])) (look tInt 0)))
  (andThen (setF 20 AV.il (listI [(cI 0)]))
  (andThen (forM 21 AV.int (range1M (cI 5)) (ifF (op2 ltI (op2 idxL (look tIl 20) (cI (-1))) (cI 5)) (appF tIl 20 (callM tInt gBL2 (slotArg 18 [(scM AV.int (op2 idxL (look tIl 19) (op2 idxL (look tIl 20) (cI (-1)))))]))) done))
  (andThen (setF 22 tIl.inj (compM AV.int [20] (range1M (op2 subI (op1 lenF (look tIl 20)) (cI 1))) (fun _ => some true) (op2 subI (op2 idxL (look tIl 1) (op2 addI (look tInt 0) (cI 1))) (op2 idxL (look tIl 1) (look tInt 0)))))
  (andThen (ifF (op2 neLF (look tIl 22) (compM AV.int [4] (range1M (op2 addI (op1 maxF (look tIl 4)) (cI 1))) (fun _ => some true) (op2 countF (look tIl 1) (look tInt 0)))) (retF AV.bool (cB false)) done)
  (andThen (ifF (op2 neLF (callM tIl gHM (slotArg2 (scM AV.str (look tStr 14)) 22)) (look tIl 4)) (retF AV.bool (cB false)) done)
  (moveF 4 15)))))))))))))))
theorem andThen_assoc (a b c : St → Option (Fl × St)) : andThen (andThen a b) c = andThen a (andThen b c) := by
  funext σ
  cases e : a σ with
  | none => simp [andThen, e]
  | some p =>
    obtain ⟨f, σ'⟩ := p
    cases f <;> simp [andThen, e]
def lapF : St → Option (Fl × St) := andThen mB (andThen mC mD)
theorem law_eq : m_law = andThen mA (andThen (forM 10 AV.int (range1M (cI 2)) lapF) (retF AV.bool (cB true))) := by
  unfold m_law lapF mA mB mC mD
  simp only [andThen_assoc]
theorem st_eq : ∀ (σ : St), σ.length = 23 → ∃ g : Nat → Option AV, σ = [g 0, g 1, g 2, g 3, g 4, g 5, g 6, g 7, g 8, g 9, g 10, g 11, g 12, g 13, g 14, g 15, g 16, g 17, g 18, g 19, g 20, g 21, g 22] ∧ ∀ i, i < 23 → σ[i]? = some (g i) := by
  intro σ h
  refine ⟨fun i => σ[i]?.getD none, ?_, fun i hi => by
    have hi : i < σ.length := by omega
    dsimp only
    rw [List.getElem?_eq_getElem hi, Option.getD_some]⟩
  refine List.ext_getElem? fun i => ?_
  by_cases hi : i < 23
  · have key : ∀ (n : Nat) (l : St), l.length = n → l = (List.range n).map fun i => l[i]?.getD none := by
      intro n l hl
      refine List.ext_getElem? fun j => ?_
      rw [List.getElem?_map]
      by_cases hj : j < n
      · have hj' : j < l.length := by omega
        rw [List.getElem?_range hj]
        show _ = some (l[j]?.getD none)
        rw [List.getElem?_eq_getElem hj', Option.getD_some]
      · rw [List.getElem?_eq_none (by omega), List.getElem?_eq_none (by simp; omega)]; rfl
    exact congrArg (fun l : St => l[i]?) (key 23 σ h)
  · rw [List.getElem?_eq_none (by omega), List.getElem?_eq_none (by simp; omega)]
structure Kept (σ : St) (t : Int) (lv : List Int) : Prop where
  len : σ.length = 23
  s2 : σ[2]? = some (some (.int t))
  s3 : σ[3]? = some (some (.sl dressL))
  s4 : σ[4]? = some (some (.il lv))
def view {α : Type} (T : Ty α) (i : Nat) (r : Option (Fl × St)) : Option (Nat × Option (Option AV) × Option (Option AV) × Option (Option AV) × Option α) := match r with
  | some (.next, σ) => some (σ.length, σ[2]?, σ[3]?, σ[4]?, look T i σ)
  | _ => none
theorem view_is {α : Type} {T : Ty α} {i n : Nat} {r : Option (Fl × St)} {a b c : Option (Option AV)} {x : Option α} (h : view T i r = some (n, a, b, c, x)) : ∃ σ, r = some (.next, σ) ∧ σ.length = n ∧ σ[2]? = a ∧ σ[3]? = b ∧ σ[4]? = c ∧ look T i σ = x := by
  unfold view at h
  split at h
  · rename_i σ
    cases h
    exact ⟨σ, rfl, rfl, rfl, rfl, rfl, rfl⟩
  · cases h
def okA (r : Option (Fl × St)) (t : Int) (lv : List Int) : Bool := match r with
  | some (.next, σ) => (match look tInt 2 σ, look tSl 3 σ, look tIl 4 σ with | some a, some d, some l => a == t && d == dressL && l == lv | _, _, _ => false) && σ.length == 23
  | _ => false
theorem okA_is {r : Option (Fl × St)} {t : Int} {lv : List Int} (h : okA r t lv = true) : ∃ σ, r = some (.next, σ) ∧ Kept σ t lv := by
  unfold okA at h
  split at h
  case h_2 => cases h
  rename_i σ
  rw [Bool.and_eq_true] at h
  obtain ⟨h1, h2⟩ := h
  split at h1
  case h_2 => cases h1
  rename_i a d l e1 e2 e3
  simp only [Bool.and_eq_true, beq_iff_eq] at h1 h2
  obtain ⟨⟨rfl, rfl⟩, rfl⟩ := h1
  exact ⟨σ, rfl, h2, look_some e1, look_some e2, look_some e3⟩
def nameAt (x : Sg) (i : Nat) : Sg := match x[i]? with | some n => [n] | none => []
def tabOf (lv : List Nat) (s : Nat) : List (Sg × Sg) := (List.range 5).flatMap fun k => [(nameAt [97, 66, 99, 68, 101, 70] (lv.getD k 0), 40 :: dressL.getD ((s + k) % 7) []), (nameAt [65, 98, 67, 100, 69, 102] (lv.getD k 0 + 1), dressL.getD ((s + k) % 7) [] ++ [41])]
def FBp (lv : List Int) (t u : Int) (tab : List (Sg × Sg)) : Prop := ∀ g : Nat → Option AV, view tHdr 11 (mB [g 0, g 1, some (.int t), some (.sl dressL), some (.il lv), g 5, g 6, g 7, g 8, g 9, some (.int u), g 11, g 12, g 13, g 14, g 15, g 16, g 17, g 18, g 19, g 20, g 21, g 22]) = some (23, some (some (.int t)), some (some (.sl dressL)), some (some (.il lv)), some tab)
def FCp (tab : List (Sg × Sg)) (bare : Sg) : Prop := ∀ g : Nat → Option AV, view tStr 14 (mC [g 0, g 1, g 2, g 3, g 4, g 5, g 6, g 7, g 8, g 9, g 10, some (.hdr tab), g 12, g 13, g 14, g 15, g 16, g 17, g 18, g 19, g 20, g 21, g 22]) = some (23, some (g 2), some (g 3), some (g 4), some bare)
def viewD (r : Option (Fl × St)) : Option (Nat × Option (Option AV) × Option (Option AV) × Option (List Int)) := match r with
  | some (.next, σ) => some (σ.length, σ[2]?, σ[3]?, look tIl 4 σ)
  | _ => none
theorem viewD_is {n : Nat} {r : Option (Fl × St)} {a b : Option (Option AV)} {x : Option (List Int)} (h : viewD r = some (n, a, b, x)) : ∃ σ, r = some (.next, σ) ∧ σ.length = n ∧ σ[2]? = a ∧ σ[3]? = b ∧ look tIl 4 σ = x := by
  unfold viewD at h
  split at h
  · rename_i σ
    cases h
    exact ⟨σ, rfl, rfl, rfl, rfl, rfl⟩
  · cases h
def FDp (lv : List Int) (bare : Sg) (due : List Int) : Prop := ∀ g : Nat → Option AV, viewD (mD [g 0, g 1, g 2, g 3, some (.il lv), g 5, g 6, g 7, g 8, g 9, g 10, g 11, g 12, g 13, some (.str bare), g 15, g 16, g 17, g 18, g 19, g 20, g 21, g 22]) = some (23, some (g 2), some (g 3), some due)

def LapOk (t u : Int) (lv due : List Int) : Prop := ∀ σ, Kept σ t lv → ∃ σ', lapF (σ.set 10 (some (.int u))) = some (.next, σ') ∧ Kept σ' t due
theorem at14 {α : Type} {T : Ty α} {i : Nat} {σ : St} {g : Nat → Option AV} {x : α} (h : look T i σ = some x) (hg : ∀ i, i < 23 → σ[i]? = some (g i)) (hi : i < 23) : g i = some (T.inj x) := by
  have h1 := look_some h
  rw [hg i hi] at h1
  exact Option.some.inj h1
theorem lap_of {lv due : List Int} {t u : Int} {tab : List (Sg × Sg)} {bare : Sg} (hB : FBp lv t u tab) (hC : FCp tab bare) (hD : FDp lv bare due) : LapOk t u lv due := by
  intro σ K
  have h23 : (σ.set 10 (some (.int u))).length = 23 := by rw [List.length_set]; exact K.len
  obtain ⟨g, e, hg⟩ := st_eq _ h23
  have hne : ∀ i, i ≠ 10 → (σ.set 10 (some (.int u)))[i]? = σ[i]? := fun i hi => List.getElem?_set_ne (Ne.symm hi)
  have g2 : g 2 = some (.int t) := Option.some.inj ((hg 2 (by decide)).symm.trans ((hne 2 (by decide)).trans K.s2))
  have g3 : g 3 = some (.sl dressL) := Option.some.inj ((hg 3 (by decide)).symm.trans ((hne 3 (by decide)).trans K.s3))
  have g4 : g 4 = some (.il lv) := Option.some.inj ((hg 4 (by decide)).symm.trans ((hne 4 (by decide)).trans K.s4))
  have g10 : g 10 = some (.int u) := Option.some.inj ((hg 10 (by decide)).symm.trans (List.getElem?_set_self (by rw [K.len]; decide)))
  have hB' := hB g
  rw [← g2, ← g3, ← g4, ← g10, ← e] at hB'
  obtain ⟨σ1, b1, b2, b3, b4, b5, b6⟩ := view_is hB'
  obtain ⟨h, e1, hh⟩ := st_eq _ b2
  have h11 := at14 b6 hh (by decide)
  have h2 : some (h 2) = some (g 2) := (hh 2 (by decide)).symm.trans b3
  have h3 : some (h 3) = some (g 3) := (hh 3 (by decide)).symm.trans b4
  have h4 : some (h 4) = some (g 4) := (hh 4 (by decide)).symm.trans b5
  have hC' := hC h
  rw [show (some (AV.hdr tab) : Option AV) = h 11 from h11.symm, ← e1] at hC'
  obtain ⟨σ2, c1, c2, c3, c4, c5, c6⟩ := view_is hC'
  obtain ⟨q, e2, hq⟩ := st_eq _ c2
  have q14 := at14 c6 hq (by decide)
  have q2 : some (q 2) = some (h 2) := (hq 2 (by decide)).symm.trans c3
  have q3 : some (q 3) = some (h 3) := (hq 3 (by decide)).symm.trans c4
  have q4 : some (q 4) = some (h 4) := (hq 4 (by decide)).symm.trans c5
  have q4' : some (AV.il lv) = q 4 := by rw [Option.some.inj q4, Option.some.inj h4, g4]
  have hD' := hD q
  rw [show (some (AV.str bare) : Option AV) = q 14 from q14.symm, q4', ← e2] at hD'
  obtain ⟨σ3, d1, d2, d3, d4, d5⟩ := viewD_is hD'
  refine ⟨σ3, ?_, d2, ?_, ?_, look_some d5⟩
  · unfold lapF
    rw [andThen.eq_def, b1]
    dsimp only
    rw [andThen.eq_def, c1]
    dsimp only
    exact d1
  · rw [d3, q2, h2, g2]
  · rw [d4, q3, h3, g3]

theorem law_of {lv l1 l2 : List Int} {t : Int} (hA : okA (mA (sig lv t)) t lv = true) (h0 : LapOk t 0 lv l1) (h1 : LapOk t 1 l1 l2) : okLaw (m_law (sig lv t)) = true := by
  obtain ⟨σ1, e1, K1⟩ := okA_is hA
  obtain ⟨σ2, e2, K2⟩ := h0 σ1 K1
  obtain ⟨σ3, e3, K3⟩ := h1 σ2 K2
  have hf : forM 10 AV.int (range1M (cI 2)) lapF σ1 = some (.next, σ3) := by
    have er : range1M (cI 2) σ1 = some [0, 1] := by rfl
    unfold forM
    rw [er]
    dsimp only
    unfold forF
    rw [e2]
    dsimp only
    unfold forF
    rw [e3]
    dsimp only
    unfold forF
    rfl
  rw [law_eq]
  rw [andThen.eq_def, e1]
  dsimp only
  rw [andThen.eq_def, hf]
  rfl
theorem fA_0_0 : okA (mA (sig [0, 0, 0, 0, 0] 0)) 0 [0, 0, 0, 0, 0] = true := by decide +kernel
theorem fA_0_1 : okA (mA (sig [0, 0, 0, 0, 0] 1)) 1 [0, 0, 0, 0, 0] = true := by decide +kernel
theorem fA_0_2 : okA (mA (sig [0, 0, 0, 0, 0] 2)) 2 [0, 0, 0, 0, 0] = true := by decide +kernel
theorem fA_0_3 : okA (mA (sig [0, 0, 0, 0, 0] 3)) 3 [0, 0, 0, 0, 0] = true := by decide +kernel
theorem fA_0_4 : okA (mA (sig [0, 0, 0, 0, 0] 4)) 4 [0, 0, 0, 0, 0] = true := by decide +kernel
theorem fA_0_5 : okA (mA (sig [0, 0, 0, 0, 0] 5)) 5 [0, 0, 0, 0, 0] = true := by decide +kernel
theorem fA_0_6 : okA (mA (sig [0, 0, 0, 0, 0] 6)) 6 [0, 0, 0, 0, 0] = true := by decide +kernel
theorem fA_1_0 : okA (mA (sig [0, 0, 0, 0, 1] 0)) 0 [0, 0, 0, 0, 1] = true := by decide +kernel
theorem fA_1_1 : okA (mA (sig [0, 0, 0, 0, 1] 1)) 1 [0, 0, 0, 0, 1] = true := by decide +kernel
theorem fA_1_2 : okA (mA (sig [0, 0, 0, 0, 1] 2)) 2 [0, 0, 0, 0, 1] = true := by decide +kernel
theorem fA_1_3 : okA (mA (sig [0, 0, 0, 0, 1] 3)) 3 [0, 0, 0, 0, 1] = true := by decide +kernel
theorem fA_1_4 : okA (mA (sig [0, 0, 0, 0, 1] 4)) 4 [0, 0, 0, 0, 1] = true := by decide +kernel
theorem fA_1_5 : okA (mA (sig [0, 0, 0, 0, 1] 5)) 5 [0, 0, 0, 0, 1] = true := by decide +kernel
theorem fA_1_6 : okA (mA (sig [0, 0, 0, 0, 1] 6)) 6 [0, 0, 0, 0, 1] = true := by decide +kernel
theorem fA_2_0 : okA (mA (sig [0, 0, 0, 1, 0] 0)) 0 [0, 0, 0, 1, 0] = true := by decide +kernel
theorem fA_2_1 : okA (mA (sig [0, 0, 0, 1, 0] 1)) 1 [0, 0, 0, 1, 0] = true := by decide +kernel
theorem fA_2_2 : okA (mA (sig [0, 0, 0, 1, 0] 2)) 2 [0, 0, 0, 1, 0] = true := by decide +kernel
theorem fA_2_3 : okA (mA (sig [0, 0, 0, 1, 0] 3)) 3 [0, 0, 0, 1, 0] = true := by decide +kernel
theorem fA_2_4 : okA (mA (sig [0, 0, 0, 1, 0] 4)) 4 [0, 0, 0, 1, 0] = true := by decide +kernel
theorem fA_2_5 : okA (mA (sig [0, 0, 0, 1, 0] 5)) 5 [0, 0, 0, 1, 0] = true := by decide +kernel
theorem fA_2_6 : okA (mA (sig [0, 0, 0, 1, 0] 6)) 6 [0, 0, 0, 1, 0] = true := by decide +kernel
theorem fA_3_0 : okA (mA (sig [0, 0, 0, 1, 1] 0)) 0 [0, 0, 0, 1, 1] = true := by decide +kernel
theorem fA_3_1 : okA (mA (sig [0, 0, 0, 1, 1] 1)) 1 [0, 0, 0, 1, 1] = true := by decide +kernel
theorem fA_3_2 : okA (mA (sig [0, 0, 0, 1, 1] 2)) 2 [0, 0, 0, 1, 1] = true := by decide +kernel
theorem fA_3_3 : okA (mA (sig [0, 0, 0, 1, 1] 3)) 3 [0, 0, 0, 1, 1] = true := by decide +kernel
theorem fA_3_4 : okA (mA (sig [0, 0, 0, 1, 1] 4)) 4 [0, 0, 0, 1, 1] = true := by decide +kernel
theorem fA_3_5 : okA (mA (sig [0, 0, 0, 1, 1] 5)) 5 [0, 0, 0, 1, 1] = true := by decide +kernel
theorem fA_3_6 : okA (mA (sig [0, 0, 0, 1, 1] 6)) 6 [0, 0, 0, 1, 1] = true := by decide +kernel
theorem fA_4_0 : okA (mA (sig [0, 0, 0, 1, 2] 0)) 0 [0, 0, 0, 1, 2] = true := by decide +kernel
theorem fA_4_1 : okA (mA (sig [0, 0, 0, 1, 2] 1)) 1 [0, 0, 0, 1, 2] = true := by decide +kernel
theorem fA_4_2 : okA (mA (sig [0, 0, 0, 1, 2] 2)) 2 [0, 0, 0, 1, 2] = true := by decide +kernel
theorem fA_4_3 : okA (mA (sig [0, 0, 0, 1, 2] 3)) 3 [0, 0, 0, 1, 2] = true := by decide +kernel
theorem fA_4_4 : okA (mA (sig [0, 0, 0, 1, 2] 4)) 4 [0, 0, 0, 1, 2] = true := by decide +kernel
theorem fA_4_5 : okA (mA (sig [0, 0, 0, 1, 2] 5)) 5 [0, 0, 0, 1, 2] = true := by decide +kernel
theorem fA_4_6 : okA (mA (sig [0, 0, 0, 1, 2] 6)) 6 [0, 0, 0, 1, 2] = true := by decide +kernel
theorem fA_5_0 : okA (mA (sig [0, 0, 1, 0, 0] 0)) 0 [0, 0, 1, 0, 0] = true := by decide +kernel
theorem fA_5_1 : okA (mA (sig [0, 0, 1, 0, 0] 1)) 1 [0, 0, 1, 0, 0] = true := by decide +kernel
theorem fA_5_2 : okA (mA (sig [0, 0, 1, 0, 0] 2)) 2 [0, 0, 1, 0, 0] = true := by decide +kernel
theorem fA_5_3 : okA (mA (sig [0, 0, 1, 0, 0] 3)) 3 [0, 0, 1, 0, 0] = true := by decide +kernel
theorem fA_5_4 : okA (mA (sig [0, 0, 1, 0, 0] 4)) 4 [0, 0, 1, 0, 0] = true := by decide +kernel
theorem fA_5_5 : okA (mA (sig [0, 0, 1, 0, 0] 5)) 5 [0, 0, 1, 0, 0] = true := by decide +kernel
theorem fA_5_6 : okA (mA (sig [0, 0, 1, 0, 0] 6)) 6 [0, 0, 1, 0, 0] = true := by decide +kernel
theorem fA_6_0 : okA (mA (sig [0, 0, 1, 0, 1] 0)) 0 [0, 0, 1, 0, 1] = true := by decide +kernel
theorem fA_6_1 : okA (mA (sig [0, 0, 1, 0, 1] 1)) 1 [0, 0, 1, 0, 1] = true := by decide +kernel
theorem fA_6_2 : okA (mA (sig [0, 0, 1, 0, 1] 2)) 2 [0, 0, 1, 0, 1] = true := by decide +kernel
theorem fA_6_3 : okA (mA (sig [0, 0, 1, 0, 1] 3)) 3 [0, 0, 1, 0, 1] = true := by decide +kernel
theorem fA_6_4 : okA (mA (sig [0, 0, 1, 0, 1] 4)) 4 [0, 0, 1, 0, 1] = true := by decide +kernel
theorem fA_6_5 : okA (mA (sig [0, 0, 1, 0, 1] 5)) 5 [0, 0, 1, 0, 1] = true := by decide +kernel
theorem fA_6_6 : okA (mA (sig [0, 0, 1, 0, 1] 6)) 6 [0, 0, 1, 0, 1] = true := by decide +kernel
theorem fA_7_0 : okA (mA (sig [0, 0, 1, 1, 0] 0)) 0 [0, 0, 1, 1, 0] = true := by decide +kernel
theorem fA_7_1 : okA (mA (sig [0, 0, 1, 1, 0] 1)) 1 [0, 0, 1, 1, 0] = true := by decide +kernel
theorem fA_7_2 : okA (mA (sig [0, 0, 1, 1, 0] 2)) 2 [0, 0, 1, 1, 0] = true := by decide +kernel
theorem fA_7_3 : okA (mA (sig [0, 0, 1, 1, 0] 3)) 3 [0, 0, 1, 1, 0] = true := by decide +kernel
theorem fA_7_4 : okA (mA (sig [0, 0, 1, 1, 0] 4)) 4 [0, 0, 1, 1, 0] = true := by decide +kernel
theorem fA_7_5 : okA (mA (sig [0, 0, 1, 1, 0] 5)) 5 [0, 0, 1, 1, 0] = true := by decide +kernel
theorem fA_7_6 : okA (mA (sig [0, 0, 1, 1, 0] 6)) 6 [0, 0, 1, 1, 0] = true := by decide +kernel
theorem fA_8_0 : okA (mA (sig [0, 0, 1, 1, 1] 0)) 0 [0, 0, 1, 1, 1] = true := by decide +kernel
theorem fA_8_1 : okA (mA (sig [0, 0, 1, 1, 1] 1)) 1 [0, 0, 1, 1, 1] = true := by decide +kernel
theorem fA_8_2 : okA (mA (sig [0, 0, 1, 1, 1] 2)) 2 [0, 0, 1, 1, 1] = true := by decide +kernel
theorem fA_8_3 : okA (mA (sig [0, 0, 1, 1, 1] 3)) 3 [0, 0, 1, 1, 1] = true := by decide +kernel
theorem fA_8_4 : okA (mA (sig [0, 0, 1, 1, 1] 4)) 4 [0, 0, 1, 1, 1] = true := by decide +kernel
theorem fA_8_5 : okA (mA (sig [0, 0, 1, 1, 1] 5)) 5 [0, 0, 1, 1, 1] = true := by decide +kernel
theorem fA_8_6 : okA (mA (sig [0, 0, 1, 1, 1] 6)) 6 [0, 0, 1, 1, 1] = true := by decide +kernel
theorem fA_9_0 : okA (mA (sig [0, 0, 1, 1, 2] 0)) 0 [0, 0, 1, 1, 2] = true := by decide +kernel
theorem fA_9_1 : okA (mA (sig [0, 0, 1, 1, 2] 1)) 1 [0, 0, 1, 1, 2] = true := by decide +kernel
theorem fA_9_2 : okA (mA (sig [0, 0, 1, 1, 2] 2)) 2 [0, 0, 1, 1, 2] = true := by decide +kernel
theorem fA_9_3 : okA (mA (sig [0, 0, 1, 1, 2] 3)) 3 [0, 0, 1, 1, 2] = true := by decide +kernel
theorem fA_9_4 : okA (mA (sig [0, 0, 1, 1, 2] 4)) 4 [0, 0, 1, 1, 2] = true := by decide +kernel
theorem fA_9_5 : okA (mA (sig [0, 0, 1, 1, 2] 5)) 5 [0, 0, 1, 1, 2] = true := by decide +kernel
theorem fA_9_6 : okA (mA (sig [0, 0, 1, 1, 2] 6)) 6 [0, 0, 1, 1, 2] = true := by decide +kernel
theorem fA_10_0 : okA (mA (sig [0, 0, 1, 2, 0] 0)) 0 [0, 0, 1, 2, 0] = true := by decide +kernel
theorem fA_10_1 : okA (mA (sig [0, 0, 1, 2, 0] 1)) 1 [0, 0, 1, 2, 0] = true := by decide +kernel
theorem fA_10_2 : okA (mA (sig [0, 0, 1, 2, 0] 2)) 2 [0, 0, 1, 2, 0] = true := by decide +kernel
theorem fA_10_3 : okA (mA (sig [0, 0, 1, 2, 0] 3)) 3 [0, 0, 1, 2, 0] = true := by decide +kernel
theorem fA_10_4 : okA (mA (sig [0, 0, 1, 2, 0] 4)) 4 [0, 0, 1, 2, 0] = true := by decide +kernel
theorem fA_10_5 : okA (mA (sig [0, 0, 1, 2, 0] 5)) 5 [0, 0, 1, 2, 0] = true := by decide +kernel
theorem fA_10_6 : okA (mA (sig [0, 0, 1, 2, 0] 6)) 6 [0, 0, 1, 2, 0] = true := by decide +kernel
theorem fA_11_0 : okA (mA (sig [0, 0, 1, 2, 1] 0)) 0 [0, 0, 1, 2, 1] = true := by decide +kernel
theorem fA_11_1 : okA (mA (sig [0, 0, 1, 2, 1] 1)) 1 [0, 0, 1, 2, 1] = true := by decide +kernel
theorem fA_11_2 : okA (mA (sig [0, 0, 1, 2, 1] 2)) 2 [0, 0, 1, 2, 1] = true := by decide +kernel
theorem fA_11_3 : okA (mA (sig [0, 0, 1, 2, 1] 3)) 3 [0, 0, 1, 2, 1] = true := by decide +kernel
theorem fA_11_4 : okA (mA (sig [0, 0, 1, 2, 1] 4)) 4 [0, 0, 1, 2, 1] = true := by decide +kernel
theorem fA_11_5 : okA (mA (sig [0, 0, 1, 2, 1] 5)) 5 [0, 0, 1, 2, 1] = true := by decide +kernel
theorem fA_11_6 : okA (mA (sig [0, 0, 1, 2, 1] 6)) 6 [0, 0, 1, 2, 1] = true := by decide +kernel
theorem fA_12_0 : okA (mA (sig [0, 0, 1, 2, 2] 0)) 0 [0, 0, 1, 2, 2] = true := by decide +kernel
theorem fA_12_1 : okA (mA (sig [0, 0, 1, 2, 2] 1)) 1 [0, 0, 1, 2, 2] = true := by decide +kernel
theorem fA_12_2 : okA (mA (sig [0, 0, 1, 2, 2] 2)) 2 [0, 0, 1, 2, 2] = true := by decide +kernel
theorem fA_12_3 : okA (mA (sig [0, 0, 1, 2, 2] 3)) 3 [0, 0, 1, 2, 2] = true := by decide +kernel
theorem fA_12_4 : okA (mA (sig [0, 0, 1, 2, 2] 4)) 4 [0, 0, 1, 2, 2] = true := by decide +kernel
theorem fA_12_5 : okA (mA (sig [0, 0, 1, 2, 2] 5)) 5 [0, 0, 1, 2, 2] = true := by decide +kernel
theorem fA_12_6 : okA (mA (sig [0, 0, 1, 2, 2] 6)) 6 [0, 0, 1, 2, 2] = true := by decide +kernel
theorem fA_13_0 : okA (mA (sig [0, 0, 1, 2, 3] 0)) 0 [0, 0, 1, 2, 3] = true := by decide +kernel
theorem fA_13_1 : okA (mA (sig [0, 0, 1, 2, 3] 1)) 1 [0, 0, 1, 2, 3] = true := by decide +kernel
theorem fA_13_2 : okA (mA (sig [0, 0, 1, 2, 3] 2)) 2 [0, 0, 1, 2, 3] = true := by decide +kernel
theorem fA_13_3 : okA (mA (sig [0, 0, 1, 2, 3] 3)) 3 [0, 0, 1, 2, 3] = true := by decide +kernel
theorem fA_13_4 : okA (mA (sig [0, 0, 1, 2, 3] 4)) 4 [0, 0, 1, 2, 3] = true := by decide +kernel
theorem fA_13_5 : okA (mA (sig [0, 0, 1, 2, 3] 5)) 5 [0, 0, 1, 2, 3] = true := by decide +kernel
theorem fA_13_6 : okA (mA (sig [0, 0, 1, 2, 3] 6)) 6 [0, 0, 1, 2, 3] = true := by decide +kernel
theorem fA_14_0 : okA (mA (sig [0, 1, 0, 0, 0] 0)) 0 [0, 1, 0, 0, 0] = true := by decide +kernel
theorem fA_14_1 : okA (mA (sig [0, 1, 0, 0, 0] 1)) 1 [0, 1, 0, 0, 0] = true := by decide +kernel
theorem fA_14_2 : okA (mA (sig [0, 1, 0, 0, 0] 2)) 2 [0, 1, 0, 0, 0] = true := by decide +kernel
theorem fA_14_3 : okA (mA (sig [0, 1, 0, 0, 0] 3)) 3 [0, 1, 0, 0, 0] = true := by decide +kernel
theorem fA_14_4 : okA (mA (sig [0, 1, 0, 0, 0] 4)) 4 [0, 1, 0, 0, 0] = true := by decide +kernel
theorem fA_14_5 : okA (mA (sig [0, 1, 0, 0, 0] 5)) 5 [0, 1, 0, 0, 0] = true := by decide +kernel
theorem fA_14_6 : okA (mA (sig [0, 1, 0, 0, 0] 6)) 6 [0, 1, 0, 0, 0] = true := by decide +kernel
theorem fA_15_0 : okA (mA (sig [0, 1, 0, 0, 1] 0)) 0 [0, 1, 0, 0, 1] = true := by decide +kernel
theorem fA_15_1 : okA (mA (sig [0, 1, 0, 0, 1] 1)) 1 [0, 1, 0, 0, 1] = true := by decide +kernel
theorem fA_15_2 : okA (mA (sig [0, 1, 0, 0, 1] 2)) 2 [0, 1, 0, 0, 1] = true := by decide +kernel
theorem fA_15_3 : okA (mA (sig [0, 1, 0, 0, 1] 3)) 3 [0, 1, 0, 0, 1] = true := by decide +kernel
theorem fA_15_4 : okA (mA (sig [0, 1, 0, 0, 1] 4)) 4 [0, 1, 0, 0, 1] = true := by decide +kernel
theorem fA_15_5 : okA (mA (sig [0, 1, 0, 0, 1] 5)) 5 [0, 1, 0, 0, 1] = true := by decide +kernel
theorem fA_15_6 : okA (mA (sig [0, 1, 0, 0, 1] 6)) 6 [0, 1, 0, 0, 1] = true := by decide +kernel
theorem fA_16_0 : okA (mA (sig [0, 1, 0, 1, 0] 0)) 0 [0, 1, 0, 1, 0] = true := by decide +kernel
theorem fA_16_1 : okA (mA (sig [0, 1, 0, 1, 0] 1)) 1 [0, 1, 0, 1, 0] = true := by decide +kernel
theorem fA_16_2 : okA (mA (sig [0, 1, 0, 1, 0] 2)) 2 [0, 1, 0, 1, 0] = true := by decide +kernel
theorem fA_16_3 : okA (mA (sig [0, 1, 0, 1, 0] 3)) 3 [0, 1, 0, 1, 0] = true := by decide +kernel
theorem fA_16_4 : okA (mA (sig [0, 1, 0, 1, 0] 4)) 4 [0, 1, 0, 1, 0] = true := by decide +kernel
theorem fA_16_5 : okA (mA (sig [0, 1, 0, 1, 0] 5)) 5 [0, 1, 0, 1, 0] = true := by decide +kernel
theorem fA_16_6 : okA (mA (sig [0, 1, 0, 1, 0] 6)) 6 [0, 1, 0, 1, 0] = true := by decide +kernel
theorem fA_17_0 : okA (mA (sig [0, 1, 0, 1, 1] 0)) 0 [0, 1, 0, 1, 1] = true := by decide +kernel
theorem fA_17_1 : okA (mA (sig [0, 1, 0, 1, 1] 1)) 1 [0, 1, 0, 1, 1] = true := by decide +kernel
theorem fA_17_2 : okA (mA (sig [0, 1, 0, 1, 1] 2)) 2 [0, 1, 0, 1, 1] = true := by decide +kernel
theorem fA_17_3 : okA (mA (sig [0, 1, 0, 1, 1] 3)) 3 [0, 1, 0, 1, 1] = true := by decide +kernel
theorem fA_17_4 : okA (mA (sig [0, 1, 0, 1, 1] 4)) 4 [0, 1, 0, 1, 1] = true := by decide +kernel
theorem fA_17_5 : okA (mA (sig [0, 1, 0, 1, 1] 5)) 5 [0, 1, 0, 1, 1] = true := by decide +kernel
theorem fA_17_6 : okA (mA (sig [0, 1, 0, 1, 1] 6)) 6 [0, 1, 0, 1, 1] = true := by decide +kernel
theorem fA_18_0 : okA (mA (sig [0, 1, 0, 1, 2] 0)) 0 [0, 1, 0, 1, 2] = true := by decide +kernel
theorem fA_18_1 : okA (mA (sig [0, 1, 0, 1, 2] 1)) 1 [0, 1, 0, 1, 2] = true := by decide +kernel
theorem fA_18_2 : okA (mA (sig [0, 1, 0, 1, 2] 2)) 2 [0, 1, 0, 1, 2] = true := by decide +kernel
theorem fA_18_3 : okA (mA (sig [0, 1, 0, 1, 2] 3)) 3 [0, 1, 0, 1, 2] = true := by decide +kernel
theorem fA_18_4 : okA (mA (sig [0, 1, 0, 1, 2] 4)) 4 [0, 1, 0, 1, 2] = true := by decide +kernel
theorem fA_18_5 : okA (mA (sig [0, 1, 0, 1, 2] 5)) 5 [0, 1, 0, 1, 2] = true := by decide +kernel
theorem fA_18_6 : okA (mA (sig [0, 1, 0, 1, 2] 6)) 6 [0, 1, 0, 1, 2] = true := by decide +kernel
theorem fA_19_0 : okA (mA (sig [0, 1, 1, 0, 0] 0)) 0 [0, 1, 1, 0, 0] = true := by decide +kernel
theorem fA_19_1 : okA (mA (sig [0, 1, 1, 0, 0] 1)) 1 [0, 1, 1, 0, 0] = true := by decide +kernel
theorem fA_19_2 : okA (mA (sig [0, 1, 1, 0, 0] 2)) 2 [0, 1, 1, 0, 0] = true := by decide +kernel
theorem fA_19_3 : okA (mA (sig [0, 1, 1, 0, 0] 3)) 3 [0, 1, 1, 0, 0] = true := by decide +kernel
theorem fA_19_4 : okA (mA (sig [0, 1, 1, 0, 0] 4)) 4 [0, 1, 1, 0, 0] = true := by decide +kernel
theorem fA_19_5 : okA (mA (sig [0, 1, 1, 0, 0] 5)) 5 [0, 1, 1, 0, 0] = true := by decide +kernel
theorem fA_19_6 : okA (mA (sig [0, 1, 1, 0, 0] 6)) 6 [0, 1, 1, 0, 0] = true := by decide +kernel
theorem fA_20_0 : okA (mA (sig [0, 1, 1, 0, 1] 0)) 0 [0, 1, 1, 0, 1] = true := by decide +kernel
theorem fA_20_1 : okA (mA (sig [0, 1, 1, 0, 1] 1)) 1 [0, 1, 1, 0, 1] = true := by decide +kernel
theorem fA_20_2 : okA (mA (sig [0, 1, 1, 0, 1] 2)) 2 [0, 1, 1, 0, 1] = true := by decide +kernel
theorem fA_20_3 : okA (mA (sig [0, 1, 1, 0, 1] 3)) 3 [0, 1, 1, 0, 1] = true := by decide +kernel
theorem fA_20_4 : okA (mA (sig [0, 1, 1, 0, 1] 4)) 4 [0, 1, 1, 0, 1] = true := by decide +kernel
theorem fA_20_5 : okA (mA (sig [0, 1, 1, 0, 1] 5)) 5 [0, 1, 1, 0, 1] = true := by decide +kernel
theorem fA_20_6 : okA (mA (sig [0, 1, 1, 0, 1] 6)) 6 [0, 1, 1, 0, 1] = true := by decide +kernel
theorem fA_21_0 : okA (mA (sig [0, 1, 1, 1, 0] 0)) 0 [0, 1, 1, 1, 0] = true := by decide +kernel
theorem fA_21_1 : okA (mA (sig [0, 1, 1, 1, 0] 1)) 1 [0, 1, 1, 1, 0] = true := by decide +kernel
theorem fA_21_2 : okA (mA (sig [0, 1, 1, 1, 0] 2)) 2 [0, 1, 1, 1, 0] = true := by decide +kernel
theorem fA_21_3 : okA (mA (sig [0, 1, 1, 1, 0] 3)) 3 [0, 1, 1, 1, 0] = true := by decide +kernel
theorem fA_21_4 : okA (mA (sig [0, 1, 1, 1, 0] 4)) 4 [0, 1, 1, 1, 0] = true := by decide +kernel
theorem fA_21_5 : okA (mA (sig [0, 1, 1, 1, 0] 5)) 5 [0, 1, 1, 1, 0] = true := by decide +kernel
theorem fA_21_6 : okA (mA (sig [0, 1, 1, 1, 0] 6)) 6 [0, 1, 1, 1, 0] = true := by decide +kernel
theorem fA_22_0 : okA (mA (sig [0, 1, 1, 1, 1] 0)) 0 [0, 1, 1, 1, 1] = true := by decide +kernel
theorem fA_22_1 : okA (mA (sig [0, 1, 1, 1, 1] 1)) 1 [0, 1, 1, 1, 1] = true := by decide +kernel
theorem fA_22_2 : okA (mA (sig [0, 1, 1, 1, 1] 2)) 2 [0, 1, 1, 1, 1] = true := by decide +kernel
theorem fA_22_3 : okA (mA (sig [0, 1, 1, 1, 1] 3)) 3 [0, 1, 1, 1, 1] = true := by decide +kernel
theorem fA_22_4 : okA (mA (sig [0, 1, 1, 1, 1] 4)) 4 [0, 1, 1, 1, 1] = true := by decide +kernel
theorem fA_22_5 : okA (mA (sig [0, 1, 1, 1, 1] 5)) 5 [0, 1, 1, 1, 1] = true := by decide +kernel
theorem fA_22_6 : okA (mA (sig [0, 1, 1, 1, 1] 6)) 6 [0, 1, 1, 1, 1] = true := by decide +kernel
theorem fA_23_0 : okA (mA (sig [0, 1, 1, 1, 2] 0)) 0 [0, 1, 1, 1, 2] = true := by decide +kernel
theorem fA_23_1 : okA (mA (sig [0, 1, 1, 1, 2] 1)) 1 [0, 1, 1, 1, 2] = true := by decide +kernel
theorem fA_23_2 : okA (mA (sig [0, 1, 1, 1, 2] 2)) 2 [0, 1, 1, 1, 2] = true := by decide +kernel
theorem fA_23_3 : okA (mA (sig [0, 1, 1, 1, 2] 3)) 3 [0, 1, 1, 1, 2] = true := by decide +kernel
theorem fA_23_4 : okA (mA (sig [0, 1, 1, 1, 2] 4)) 4 [0, 1, 1, 1, 2] = true := by decide +kernel
theorem fA_23_5 : okA (mA (sig [0, 1, 1, 1, 2] 5)) 5 [0, 1, 1, 1, 2] = true := by decide +kernel
theorem fA_23_6 : okA (mA (sig [0, 1, 1, 1, 2] 6)) 6 [0, 1, 1, 1, 2] = true := by decide +kernel
theorem fA_24_0 : okA (mA (sig [0, 1, 1, 2, 0] 0)) 0 [0, 1, 1, 2, 0] = true := by decide +kernel
theorem fA_24_1 : okA (mA (sig [0, 1, 1, 2, 0] 1)) 1 [0, 1, 1, 2, 0] = true := by decide +kernel
theorem fA_24_2 : okA (mA (sig [0, 1, 1, 2, 0] 2)) 2 [0, 1, 1, 2, 0] = true := by decide +kernel
theorem fA_24_3 : okA (mA (sig [0, 1, 1, 2, 0] 3)) 3 [0, 1, 1, 2, 0] = true := by decide +kernel
theorem fA_24_4 : okA (mA (sig [0, 1, 1, 2, 0] 4)) 4 [0, 1, 1, 2, 0] = true := by decide +kernel
theorem fA_24_5 : okA (mA (sig [0, 1, 1, 2, 0] 5)) 5 [0, 1, 1, 2, 0] = true := by decide +kernel
theorem fA_24_6 : okA (mA (sig [0, 1, 1, 2, 0] 6)) 6 [0, 1, 1, 2, 0] = true := by decide +kernel
theorem fA_25_0 : okA (mA (sig [0, 1, 1, 2, 1] 0)) 0 [0, 1, 1, 2, 1] = true := by decide +kernel
theorem fA_25_1 : okA (mA (sig [0, 1, 1, 2, 1] 1)) 1 [0, 1, 1, 2, 1] = true := by decide +kernel
theorem fA_25_2 : okA (mA (sig [0, 1, 1, 2, 1] 2)) 2 [0, 1, 1, 2, 1] = true := by decide +kernel
theorem fA_25_3 : okA (mA (sig [0, 1, 1, 2, 1] 3)) 3 [0, 1, 1, 2, 1] = true := by decide +kernel
theorem fA_25_4 : okA (mA (sig [0, 1, 1, 2, 1] 4)) 4 [0, 1, 1, 2, 1] = true := by decide +kernel
theorem fA_25_5 : okA (mA (sig [0, 1, 1, 2, 1] 5)) 5 [0, 1, 1, 2, 1] = true := by decide +kernel
theorem fA_25_6 : okA (mA (sig [0, 1, 1, 2, 1] 6)) 6 [0, 1, 1, 2, 1] = true := by decide +kernel
theorem fA_26_0 : okA (mA (sig [0, 1, 1, 2, 2] 0)) 0 [0, 1, 1, 2, 2] = true := by decide +kernel
theorem fA_26_1 : okA (mA (sig [0, 1, 1, 2, 2] 1)) 1 [0, 1, 1, 2, 2] = true := by decide +kernel
theorem fA_26_2 : okA (mA (sig [0, 1, 1, 2, 2] 2)) 2 [0, 1, 1, 2, 2] = true := by decide +kernel
theorem fA_26_3 : okA (mA (sig [0, 1, 1, 2, 2] 3)) 3 [0, 1, 1, 2, 2] = true := by decide +kernel
theorem fA_26_4 : okA (mA (sig [0, 1, 1, 2, 2] 4)) 4 [0, 1, 1, 2, 2] = true := by decide +kernel
theorem fA_26_5 : okA (mA (sig [0, 1, 1, 2, 2] 5)) 5 [0, 1, 1, 2, 2] = true := by decide +kernel
theorem fA_26_6 : okA (mA (sig [0, 1, 1, 2, 2] 6)) 6 [0, 1, 1, 2, 2] = true := by decide +kernel
theorem fA_27_0 : okA (mA (sig [0, 1, 1, 2, 3] 0)) 0 [0, 1, 1, 2, 3] = true := by decide +kernel
theorem fA_27_1 : okA (mA (sig [0, 1, 1, 2, 3] 1)) 1 [0, 1, 1, 2, 3] = true := by decide +kernel
theorem fA_27_2 : okA (mA (sig [0, 1, 1, 2, 3] 2)) 2 [0, 1, 1, 2, 3] = true := by decide +kernel
theorem fA_27_3 : okA (mA (sig [0, 1, 1, 2, 3] 3)) 3 [0, 1, 1, 2, 3] = true := by decide +kernel
theorem fA_27_4 : okA (mA (sig [0, 1, 1, 2, 3] 4)) 4 [0, 1, 1, 2, 3] = true := by decide +kernel
theorem fA_27_5 : okA (mA (sig [0, 1, 1, 2, 3] 5)) 5 [0, 1, 1, 2, 3] = true := by decide +kernel
theorem fA_27_6 : okA (mA (sig [0, 1, 1, 2, 3] 6)) 6 [0, 1, 1, 2, 3] = true := by decide +kernel
theorem fA_28_0 : okA (mA (sig [0, 1, 2, 0, 0] 0)) 0 [0, 1, 2, 0, 0] = true := by decide +kernel
theorem fA_28_1 : okA (mA (sig [0, 1, 2, 0, 0] 1)) 1 [0, 1, 2, 0, 0] = true := by decide +kernel
theorem fA_28_2 : okA (mA (sig [0, 1, 2, 0, 0] 2)) 2 [0, 1, 2, 0, 0] = true := by decide +kernel
theorem fA_28_3 : okA (mA (sig [0, 1, 2, 0, 0] 3)) 3 [0, 1, 2, 0, 0] = true := by decide +kernel
theorem fA_28_4 : okA (mA (sig [0, 1, 2, 0, 0] 4)) 4 [0, 1, 2, 0, 0] = true := by decide +kernel
theorem fA_28_5 : okA (mA (sig [0, 1, 2, 0, 0] 5)) 5 [0, 1, 2, 0, 0] = true := by decide +kernel
theorem fA_28_6 : okA (mA (sig [0, 1, 2, 0, 0] 6)) 6 [0, 1, 2, 0, 0] = true := by decide +kernel
theorem fA_29_0 : okA (mA (sig [0, 1, 2, 0, 1] 0)) 0 [0, 1, 2, 0, 1] = true := by decide +kernel
theorem fA_29_1 : okA (mA (sig [0, 1, 2, 0, 1] 1)) 1 [0, 1, 2, 0, 1] = true := by decide +kernel
theorem fA_29_2 : okA (mA (sig [0, 1, 2, 0, 1] 2)) 2 [0, 1, 2, 0, 1] = true := by decide +kernel
theorem fA_29_3 : okA (mA (sig [0, 1, 2, 0, 1] 3)) 3 [0, 1, 2, 0, 1] = true := by decide +kernel
theorem fA_29_4 : okA (mA (sig [0, 1, 2, 0, 1] 4)) 4 [0, 1, 2, 0, 1] = true := by decide +kernel
theorem fA_29_5 : okA (mA (sig [0, 1, 2, 0, 1] 5)) 5 [0, 1, 2, 0, 1] = true := by decide +kernel
theorem fA_29_6 : okA (mA (sig [0, 1, 2, 0, 1] 6)) 6 [0, 1, 2, 0, 1] = true := by decide +kernel
theorem fA_30_0 : okA (mA (sig [0, 1, 2, 1, 0] 0)) 0 [0, 1, 2, 1, 0] = true := by decide +kernel
theorem fA_30_1 : okA (mA (sig [0, 1, 2, 1, 0] 1)) 1 [0, 1, 2, 1, 0] = true := by decide +kernel
theorem fA_30_2 : okA (mA (sig [0, 1, 2, 1, 0] 2)) 2 [0, 1, 2, 1, 0] = true := by decide +kernel
theorem fA_30_3 : okA (mA (sig [0, 1, 2, 1, 0] 3)) 3 [0, 1, 2, 1, 0] = true := by decide +kernel
theorem fA_30_4 : okA (mA (sig [0, 1, 2, 1, 0] 4)) 4 [0, 1, 2, 1, 0] = true := by decide +kernel
theorem fA_30_5 : okA (mA (sig [0, 1, 2, 1, 0] 5)) 5 [0, 1, 2, 1, 0] = true := by decide +kernel
theorem fA_30_6 : okA (mA (sig [0, 1, 2, 1, 0] 6)) 6 [0, 1, 2, 1, 0] = true := by decide +kernel
theorem fA_31_0 : okA (mA (sig [0, 1, 2, 1, 1] 0)) 0 [0, 1, 2, 1, 1] = true := by decide +kernel
theorem fA_31_1 : okA (mA (sig [0, 1, 2, 1, 1] 1)) 1 [0, 1, 2, 1, 1] = true := by decide +kernel
theorem fA_31_2 : okA (mA (sig [0, 1, 2, 1, 1] 2)) 2 [0, 1, 2, 1, 1] = true := by decide +kernel
theorem fA_31_3 : okA (mA (sig [0, 1, 2, 1, 1] 3)) 3 [0, 1, 2, 1, 1] = true := by decide +kernel
theorem fA_31_4 : okA (mA (sig [0, 1, 2, 1, 1] 4)) 4 [0, 1, 2, 1, 1] = true := by decide +kernel
theorem fA_31_5 : okA (mA (sig [0, 1, 2, 1, 1] 5)) 5 [0, 1, 2, 1, 1] = true := by decide +kernel
theorem fA_31_6 : okA (mA (sig [0, 1, 2, 1, 1] 6)) 6 [0, 1, 2, 1, 1] = true := by decide +kernel
theorem fA_32_0 : okA (mA (sig [0, 1, 2, 1, 2] 0)) 0 [0, 1, 2, 1, 2] = true := by decide +kernel
theorem fA_32_1 : okA (mA (sig [0, 1, 2, 1, 2] 1)) 1 [0, 1, 2, 1, 2] = true := by decide +kernel
theorem fA_32_2 : okA (mA (sig [0, 1, 2, 1, 2] 2)) 2 [0, 1, 2, 1, 2] = true := by decide +kernel
theorem fA_32_3 : okA (mA (sig [0, 1, 2, 1, 2] 3)) 3 [0, 1, 2, 1, 2] = true := by decide +kernel
theorem fA_32_4 : okA (mA (sig [0, 1, 2, 1, 2] 4)) 4 [0, 1, 2, 1, 2] = true := by decide +kernel
theorem fA_32_5 : okA (mA (sig [0, 1, 2, 1, 2] 5)) 5 [0, 1, 2, 1, 2] = true := by decide +kernel
theorem fA_32_6 : okA (mA (sig [0, 1, 2, 1, 2] 6)) 6 [0, 1, 2, 1, 2] = true := by decide +kernel
theorem fA_33_0 : okA (mA (sig [0, 1, 2, 2, 0] 0)) 0 [0, 1, 2, 2, 0] = true := by decide +kernel
theorem fA_33_1 : okA (mA (sig [0, 1, 2, 2, 0] 1)) 1 [0, 1, 2, 2, 0] = true := by decide +kernel
theorem fA_33_2 : okA (mA (sig [0, 1, 2, 2, 0] 2)) 2 [0, 1, 2, 2, 0] = true := by decide +kernel
theorem fA_33_3 : okA (mA (sig [0, 1, 2, 2, 0] 3)) 3 [0, 1, 2, 2, 0] = true := by decide +kernel
theorem fA_33_4 : okA (mA (sig [0, 1, 2, 2, 0] 4)) 4 [0, 1, 2, 2, 0] = true := by decide +kernel
theorem fA_33_5 : okA (mA (sig [0, 1, 2, 2, 0] 5)) 5 [0, 1, 2, 2, 0] = true := by decide +kernel
theorem fA_33_6 : okA (mA (sig [0, 1, 2, 2, 0] 6)) 6 [0, 1, 2, 2, 0] = true := by decide +kernel
theorem fA_34_0 : okA (mA (sig [0, 1, 2, 2, 1] 0)) 0 [0, 1, 2, 2, 1] = true := by decide +kernel
theorem fA_34_1 : okA (mA (sig [0, 1, 2, 2, 1] 1)) 1 [0, 1, 2, 2, 1] = true := by decide +kernel
theorem fA_34_2 : okA (mA (sig [0, 1, 2, 2, 1] 2)) 2 [0, 1, 2, 2, 1] = true := by decide +kernel
theorem fA_34_3 : okA (mA (sig [0, 1, 2, 2, 1] 3)) 3 [0, 1, 2, 2, 1] = true := by decide +kernel
theorem fA_34_4 : okA (mA (sig [0, 1, 2, 2, 1] 4)) 4 [0, 1, 2, 2, 1] = true := by decide +kernel
theorem fA_34_5 : okA (mA (sig [0, 1, 2, 2, 1] 5)) 5 [0, 1, 2, 2, 1] = true := by decide +kernel
theorem fA_34_6 : okA (mA (sig [0, 1, 2, 2, 1] 6)) 6 [0, 1, 2, 2, 1] = true := by decide +kernel
theorem fA_35_0 : okA (mA (sig [0, 1, 2, 2, 2] 0)) 0 [0, 1, 2, 2, 2] = true := by decide +kernel
theorem fA_35_1 : okA (mA (sig [0, 1, 2, 2, 2] 1)) 1 [0, 1, 2, 2, 2] = true := by decide +kernel
theorem fA_35_2 : okA (mA (sig [0, 1, 2, 2, 2] 2)) 2 [0, 1, 2, 2, 2] = true := by decide +kernel
theorem fA_35_3 : okA (mA (sig [0, 1, 2, 2, 2] 3)) 3 [0, 1, 2, 2, 2] = true := by decide +kernel
theorem fA_35_4 : okA (mA (sig [0, 1, 2, 2, 2] 4)) 4 [0, 1, 2, 2, 2] = true := by decide +kernel
theorem fA_35_5 : okA (mA (sig [0, 1, 2, 2, 2] 5)) 5 [0, 1, 2, 2, 2] = true := by decide +kernel
theorem fA_35_6 : okA (mA (sig [0, 1, 2, 2, 2] 6)) 6 [0, 1, 2, 2, 2] = true := by decide +kernel
theorem fA_36_0 : okA (mA (sig [0, 1, 2, 2, 3] 0)) 0 [0, 1, 2, 2, 3] = true := by decide +kernel
theorem fA_36_1 : okA (mA (sig [0, 1, 2, 2, 3] 1)) 1 [0, 1, 2, 2, 3] = true := by decide +kernel
theorem fA_36_2 : okA (mA (sig [0, 1, 2, 2, 3] 2)) 2 [0, 1, 2, 2, 3] = true := by decide +kernel
theorem fA_36_3 : okA (mA (sig [0, 1, 2, 2, 3] 3)) 3 [0, 1, 2, 2, 3] = true := by decide +kernel
theorem fA_36_4 : okA (mA (sig [0, 1, 2, 2, 3] 4)) 4 [0, 1, 2, 2, 3] = true := by decide +kernel
theorem fA_36_5 : okA (mA (sig [0, 1, 2, 2, 3] 5)) 5 [0, 1, 2, 2, 3] = true := by decide +kernel
theorem fA_36_6 : okA (mA (sig [0, 1, 2, 2, 3] 6)) 6 [0, 1, 2, 2, 3] = true := by decide +kernel
theorem fA_37_0 : okA (mA (sig [0, 1, 2, 3, 0] 0)) 0 [0, 1, 2, 3, 0] = true := by decide +kernel
theorem fA_37_1 : okA (mA (sig [0, 1, 2, 3, 0] 1)) 1 [0, 1, 2, 3, 0] = true := by decide +kernel
theorem fA_37_2 : okA (mA (sig [0, 1, 2, 3, 0] 2)) 2 [0, 1, 2, 3, 0] = true := by decide +kernel
theorem fA_37_3 : okA (mA (sig [0, 1, 2, 3, 0] 3)) 3 [0, 1, 2, 3, 0] = true := by decide +kernel
theorem fA_37_4 : okA (mA (sig [0, 1, 2, 3, 0] 4)) 4 [0, 1, 2, 3, 0] = true := by decide +kernel
theorem fA_37_5 : okA (mA (sig [0, 1, 2, 3, 0] 5)) 5 [0, 1, 2, 3, 0] = true := by decide +kernel
theorem fA_37_6 : okA (mA (sig [0, 1, 2, 3, 0] 6)) 6 [0, 1, 2, 3, 0] = true := by decide +kernel
theorem fA_38_0 : okA (mA (sig [0, 1, 2, 3, 1] 0)) 0 [0, 1, 2, 3, 1] = true := by decide +kernel
theorem fA_38_1 : okA (mA (sig [0, 1, 2, 3, 1] 1)) 1 [0, 1, 2, 3, 1] = true := by decide +kernel
theorem fA_38_2 : okA (mA (sig [0, 1, 2, 3, 1] 2)) 2 [0, 1, 2, 3, 1] = true := by decide +kernel
theorem fA_38_3 : okA (mA (sig [0, 1, 2, 3, 1] 3)) 3 [0, 1, 2, 3, 1] = true := by decide +kernel
theorem fA_38_4 : okA (mA (sig [0, 1, 2, 3, 1] 4)) 4 [0, 1, 2, 3, 1] = true := by decide +kernel
theorem fA_38_5 : okA (mA (sig [0, 1, 2, 3, 1] 5)) 5 [0, 1, 2, 3, 1] = true := by decide +kernel
theorem fA_38_6 : okA (mA (sig [0, 1, 2, 3, 1] 6)) 6 [0, 1, 2, 3, 1] = true := by decide +kernel
theorem fA_39_0 : okA (mA (sig [0, 1, 2, 3, 2] 0)) 0 [0, 1, 2, 3, 2] = true := by decide +kernel
theorem fA_39_1 : okA (mA (sig [0, 1, 2, 3, 2] 1)) 1 [0, 1, 2, 3, 2] = true := by decide +kernel
theorem fA_39_2 : okA (mA (sig [0, 1, 2, 3, 2] 2)) 2 [0, 1, 2, 3, 2] = true := by decide +kernel
theorem fA_39_3 : okA (mA (sig [0, 1, 2, 3, 2] 3)) 3 [0, 1, 2, 3, 2] = true := by decide +kernel
theorem fA_39_4 : okA (mA (sig [0, 1, 2, 3, 2] 4)) 4 [0, 1, 2, 3, 2] = true := by decide +kernel
theorem fA_39_5 : okA (mA (sig [0, 1, 2, 3, 2] 5)) 5 [0, 1, 2, 3, 2] = true := by decide +kernel
theorem fA_39_6 : okA (mA (sig [0, 1, 2, 3, 2] 6)) 6 [0, 1, 2, 3, 2] = true := by decide +kernel
theorem fA_40_0 : okA (mA (sig [0, 1, 2, 3, 3] 0)) 0 [0, 1, 2, 3, 3] = true := by decide +kernel
theorem fA_40_1 : okA (mA (sig [0, 1, 2, 3, 3] 1)) 1 [0, 1, 2, 3, 3] = true := by decide +kernel
theorem fA_40_2 : okA (mA (sig [0, 1, 2, 3, 3] 2)) 2 [0, 1, 2, 3, 3] = true := by decide +kernel
theorem fA_40_3 : okA (mA (sig [0, 1, 2, 3, 3] 3)) 3 [0, 1, 2, 3, 3] = true := by decide +kernel
theorem fA_40_4 : okA (mA (sig [0, 1, 2, 3, 3] 4)) 4 [0, 1, 2, 3, 3] = true := by decide +kernel
theorem fA_40_5 : okA (mA (sig [0, 1, 2, 3, 3] 5)) 5 [0, 1, 2, 3, 3] = true := by decide +kernel
theorem fA_40_6 : okA (mA (sig [0, 1, 2, 3, 3] 6)) 6 [0, 1, 2, 3, 3] = true := by decide +kernel
theorem fA_41_0 : okA (mA (sig [0, 1, 2, 3, 4] 0)) 0 [0, 1, 2, 3, 4] = true := by decide +kernel
theorem fA_41_1 : okA (mA (sig [0, 1, 2, 3, 4] 1)) 1 [0, 1, 2, 3, 4] = true := by decide +kernel
theorem fA_41_2 : okA (mA (sig [0, 1, 2, 3, 4] 2)) 2 [0, 1, 2, 3, 4] = true := by decide +kernel
theorem fA_41_3 : okA (mA (sig [0, 1, 2, 3, 4] 3)) 3 [0, 1, 2, 3, 4] = true := by decide +kernel
theorem fA_41_4 : okA (mA (sig [0, 1, 2, 3, 4] 4)) 4 [0, 1, 2, 3, 4] = true := by decide +kernel
theorem fA_41_5 : okA (mA (sig [0, 1, 2, 3, 4] 5)) 5 [0, 1, 2, 3, 4] = true := by decide +kernel
theorem fA_41_6 : okA (mA (sig [0, 1, 2, 3, 4] 6)) 6 [0, 1, 2, 3, 4] = true := by decide +kernel
theorem fB_0_0_0 : FBp [0, 0, 0, 0, 0] 0 0 (tabOf [0, 0, 0, 0, 0] 0) := fun _ => by kernel_rfl
theorem fB_0_0_1 : FBp [0, 0, 0, 0, 0] 0 1 (tabOf [0, 0, 0, 0, 0] 1) := fun _ => by kernel_rfl
theorem fB_0_1_0 : FBp [0, 0, 0, 0, 0] 1 0 (tabOf [0, 0, 0, 0, 0] 1) := fun _ => by kernel_rfl
theorem fB_0_1_1 : FBp [0, 0, 0, 0, 0] 1 1 (tabOf [0, 0, 0, 0, 0] 2) := fun _ => by kernel_rfl
theorem fB_0_2_0 : FBp [0, 0, 0, 0, 0] 2 0 (tabOf [0, 0, 0, 0, 0] 2) := fun _ => by kernel_rfl
theorem fB_0_2_1 : FBp [0, 0, 0, 0, 0] 2 1 (tabOf [0, 0, 0, 0, 0] 3) := fun _ => by kernel_rfl
theorem fB_0_3_0 : FBp [0, 0, 0, 0, 0] 3 0 (tabOf [0, 0, 0, 0, 0] 3) := fun _ => by kernel_rfl
theorem fB_0_3_1 : FBp [0, 0, 0, 0, 0] 3 1 (tabOf [0, 0, 0, 0, 0] 4) := fun _ => by kernel_rfl
theorem fB_0_4_0 : FBp [0, 0, 0, 0, 0] 4 0 (tabOf [0, 0, 0, 0, 0] 4) := fun _ => by kernel_rfl
theorem fB_0_4_1 : FBp [0, 0, 0, 0, 0] 4 1 (tabOf [0, 0, 0, 0, 0] 5) := fun _ => by kernel_rfl
theorem fB_0_5_0 : FBp [0, 0, 0, 0, 0] 5 0 (tabOf [0, 0, 0, 0, 0] 5) := fun _ => by kernel_rfl
theorem fB_0_5_1 : FBp [0, 0, 0, 0, 0] 5 1 (tabOf [0, 0, 0, 0, 0] 6) := fun _ => by kernel_rfl
theorem fB_0_6_0 : FBp [0, 0, 0, 0, 0] 6 0 (tabOf [0, 0, 0, 0, 0] 6) := fun _ => by kernel_rfl
theorem fB_0_6_1 : FBp [0, 0, 0, 0, 0] 6 1 (tabOf [0, 0, 0, 0, 0] 0) := fun _ => by kernel_rfl
theorem fB_1_0_0 : FBp [0, 0, 0, 0, 1] 0 0 (tabOf [0, 0, 0, 0, 1] 0) := fun _ => by kernel_rfl
theorem fB_1_0_1 : FBp [0, 0, 0, 0, 1] 0 1 (tabOf [0, 0, 0, 0, 1] 1) := fun _ => by kernel_rfl
theorem fB_1_1_0 : FBp [0, 0, 0, 0, 1] 1 0 (tabOf [0, 0, 0, 0, 1] 1) := fun _ => by kernel_rfl
theorem fB_1_1_1 : FBp [0, 0, 0, 0, 1] 1 1 (tabOf [0, 0, 0, 0, 1] 2) := fun _ => by kernel_rfl
theorem fB_1_2_0 : FBp [0, 0, 0, 0, 1] 2 0 (tabOf [0, 0, 0, 0, 1] 2) := fun _ => by kernel_rfl
theorem fB_1_2_1 : FBp [0, 0, 0, 0, 1] 2 1 (tabOf [0, 0, 0, 0, 1] 3) := fun _ => by kernel_rfl
theorem fB_1_3_0 : FBp [0, 0, 0, 0, 1] 3 0 (tabOf [0, 0, 0, 0, 1] 3) := fun _ => by kernel_rfl
theorem fB_1_3_1 : FBp [0, 0, 0, 0, 1] 3 1 (tabOf [0, 0, 0, 0, 1] 4) := fun _ => by kernel_rfl
theorem fB_1_4_0 : FBp [0, 0, 0, 0, 1] 4 0 (tabOf [0, 0, 0, 0, 1] 4) := fun _ => by kernel_rfl
theorem fB_1_4_1 : FBp [0, 0, 0, 0, 1] 4 1 (tabOf [0, 0, 0, 0, 1] 5) := fun _ => by kernel_rfl
theorem fB_1_5_0 : FBp [0, 0, 0, 0, 1] 5 0 (tabOf [0, 0, 0, 0, 1] 5) := fun _ => by kernel_rfl
theorem fB_1_5_1 : FBp [0, 0, 0, 0, 1] 5 1 (tabOf [0, 0, 0, 0, 1] 6) := fun _ => by kernel_rfl
theorem fB_1_6_0 : FBp [0, 0, 0, 0, 1] 6 0 (tabOf [0, 0, 0, 0, 1] 6) := fun _ => by kernel_rfl
theorem fB_1_6_1 : FBp [0, 0, 0, 0, 1] 6 1 (tabOf [0, 0, 0, 0, 1] 0) := fun _ => by kernel_rfl
theorem fB_2_0_0 : FBp [0, 0, 0, 1, 0] 0 0 (tabOf [0, 0, 0, 1, 0] 0) := fun _ => by kernel_rfl
theorem fB_2_0_1 : FBp [0, 0, 0, 1, 0] 0 1 (tabOf [0, 0, 0, 1, 0] 1) := fun _ => by kernel_rfl
theorem fB_2_1_0 : FBp [0, 0, 0, 1, 0] 1 0 (tabOf [0, 0, 0, 1, 0] 1) := fun _ => by kernel_rfl
theorem fB_2_1_1 : FBp [0, 0, 0, 1, 0] 1 1 (tabOf [0, 0, 0, 1, 0] 2) := fun _ => by kernel_rfl
theorem fB_2_2_0 : FBp [0, 0, 0, 1, 0] 2 0 (tabOf [0, 0, 0, 1, 0] 2) := fun _ => by kernel_rfl
theorem fB_2_2_1 : FBp [0, 0, 0, 1, 0] 2 1 (tabOf [0, 0, 0, 1, 0] 3) := fun _ => by kernel_rfl
theorem fB_2_3_0 : FBp [0, 0, 0, 1, 0] 3 0 (tabOf [0, 0, 0, 1, 0] 3) := fun _ => by kernel_rfl
theorem fB_2_3_1 : FBp [0, 0, 0, 1, 0] 3 1 (tabOf [0, 0, 0, 1, 0] 4) := fun _ => by kernel_rfl
theorem fB_2_4_0 : FBp [0, 0, 0, 1, 0] 4 0 (tabOf [0, 0, 0, 1, 0] 4) := fun _ => by kernel_rfl
theorem fB_2_4_1 : FBp [0, 0, 0, 1, 0] 4 1 (tabOf [0, 0, 0, 1, 0] 5) := fun _ => by kernel_rfl
theorem fB_2_5_0 : FBp [0, 0, 0, 1, 0] 5 0 (tabOf [0, 0, 0, 1, 0] 5) := fun _ => by kernel_rfl
theorem fB_2_5_1 : FBp [0, 0, 0, 1, 0] 5 1 (tabOf [0, 0, 0, 1, 0] 6) := fun _ => by kernel_rfl
theorem fB_2_6_0 : FBp [0, 0, 0, 1, 0] 6 0 (tabOf [0, 0, 0, 1, 0] 6) := fun _ => by kernel_rfl
theorem fB_2_6_1 : FBp [0, 0, 0, 1, 0] 6 1 (tabOf [0, 0, 0, 1, 0] 0) := fun _ => by kernel_rfl
theorem fB_3_0_0 : FBp [0, 0, 0, 1, 1] 0 0 (tabOf [0, 0, 0, 1, 1] 0) := fun _ => by kernel_rfl
theorem fB_3_0_1 : FBp [0, 0, 0, 1, 1] 0 1 (tabOf [0, 0, 0, 1, 1] 1) := fun _ => by kernel_rfl
theorem fB_3_1_0 : FBp [0, 0, 0, 1, 1] 1 0 (tabOf [0, 0, 0, 1, 1] 1) := fun _ => by kernel_rfl
theorem fB_3_1_1 : FBp [0, 0, 0, 1, 1] 1 1 (tabOf [0, 0, 0, 1, 1] 2) := fun _ => by kernel_rfl
theorem fB_3_2_0 : FBp [0, 0, 0, 1, 1] 2 0 (tabOf [0, 0, 0, 1, 1] 2) := fun _ => by kernel_rfl
theorem fB_3_2_1 : FBp [0, 0, 0, 1, 1] 2 1 (tabOf [0, 0, 0, 1, 1] 3) := fun _ => by kernel_rfl
theorem fB_3_3_0 : FBp [0, 0, 0, 1, 1] 3 0 (tabOf [0, 0, 0, 1, 1] 3) := fun _ => by kernel_rfl
theorem fB_3_3_1 : FBp [0, 0, 0, 1, 1] 3 1 (tabOf [0, 0, 0, 1, 1] 4) := fun _ => by kernel_rfl
theorem fB_3_4_0 : FBp [0, 0, 0, 1, 1] 4 0 (tabOf [0, 0, 0, 1, 1] 4) := fun _ => by kernel_rfl
theorem fB_3_4_1 : FBp [0, 0, 0, 1, 1] 4 1 (tabOf [0, 0, 0, 1, 1] 5) := fun _ => by kernel_rfl
theorem fB_3_5_0 : FBp [0, 0, 0, 1, 1] 5 0 (tabOf [0, 0, 0, 1, 1] 5) := fun _ => by kernel_rfl
theorem fB_3_5_1 : FBp [0, 0, 0, 1, 1] 5 1 (tabOf [0, 0, 0, 1, 1] 6) := fun _ => by kernel_rfl
theorem fB_3_6_0 : FBp [0, 0, 0, 1, 1] 6 0 (tabOf [0, 0, 0, 1, 1] 6) := fun _ => by kernel_rfl
theorem fB_3_6_1 : FBp [0, 0, 0, 1, 1] 6 1 (tabOf [0, 0, 0, 1, 1] 0) := fun _ => by kernel_rfl
theorem fB_4_0_0 : FBp [0, 0, 0, 1, 2] 0 0 (tabOf [0, 0, 0, 1, 2] 0) := fun _ => by kernel_rfl
theorem fB_4_0_1 : FBp [0, 0, 0, 1, 2] 0 1 (tabOf [0, 0, 0, 1, 2] 1) := fun _ => by kernel_rfl
theorem fB_4_1_0 : FBp [0, 0, 0, 1, 2] 1 0 (tabOf [0, 0, 0, 1, 2] 1) := fun _ => by kernel_rfl
theorem fB_4_1_1 : FBp [0, 0, 0, 1, 2] 1 1 (tabOf [0, 0, 0, 1, 2] 2) := fun _ => by kernel_rfl
theorem fB_4_2_0 : FBp [0, 0, 0, 1, 2] 2 0 (tabOf [0, 0, 0, 1, 2] 2) := fun _ => by kernel_rfl
theorem fB_4_2_1 : FBp [0, 0, 0, 1, 2] 2 1 (tabOf [0, 0, 0, 1, 2] 3) := fun _ => by kernel_rfl
theorem fB_4_3_0 : FBp [0, 0, 0, 1, 2] 3 0 (tabOf [0, 0, 0, 1, 2] 3) := fun _ => by kernel_rfl
theorem fB_4_3_1 : FBp [0, 0, 0, 1, 2] 3 1 (tabOf [0, 0, 0, 1, 2] 4) := fun _ => by kernel_rfl
theorem fB_4_4_0 : FBp [0, 0, 0, 1, 2] 4 0 (tabOf [0, 0, 0, 1, 2] 4) := fun _ => by kernel_rfl
theorem fB_4_4_1 : FBp [0, 0, 0, 1, 2] 4 1 (tabOf [0, 0, 0, 1, 2] 5) := fun _ => by kernel_rfl
theorem fB_4_5_0 : FBp [0, 0, 0, 1, 2] 5 0 (tabOf [0, 0, 0, 1, 2] 5) := fun _ => by kernel_rfl
theorem fB_4_5_1 : FBp [0, 0, 0, 1, 2] 5 1 (tabOf [0, 0, 0, 1, 2] 6) := fun _ => by kernel_rfl
theorem fB_4_6_0 : FBp [0, 0, 0, 1, 2] 6 0 (tabOf [0, 0, 0, 1, 2] 6) := fun _ => by kernel_rfl
theorem fB_4_6_1 : FBp [0, 0, 0, 1, 2] 6 1 (tabOf [0, 0, 0, 1, 2] 0) := fun _ => by kernel_rfl
theorem fB_5_0_0 : FBp [0, 0, 1, 0, 0] 0 0 (tabOf [0, 0, 1, 0, 0] 0) := fun _ => by kernel_rfl
theorem fB_5_0_1 : FBp [0, 0, 1, 0, 0] 0 1 (tabOf [0, 0, 1, 0, 0] 1) := fun _ => by kernel_rfl
theorem fB_5_1_0 : FBp [0, 0, 1, 0, 0] 1 0 (tabOf [0, 0, 1, 0, 0] 1) := fun _ => by kernel_rfl
theorem fB_5_1_1 : FBp [0, 0, 1, 0, 0] 1 1 (tabOf [0, 0, 1, 0, 0] 2) := fun _ => by kernel_rfl
theorem fB_5_2_0 : FBp [0, 0, 1, 0, 0] 2 0 (tabOf [0, 0, 1, 0, 0] 2) := fun _ => by kernel_rfl
theorem fB_5_2_1 : FBp [0, 0, 1, 0, 0] 2 1 (tabOf [0, 0, 1, 0, 0] 3) := fun _ => by kernel_rfl
theorem fB_5_3_0 : FBp [0, 0, 1, 0, 0] 3 0 (tabOf [0, 0, 1, 0, 0] 3) := fun _ => by kernel_rfl
theorem fB_5_3_1 : FBp [0, 0, 1, 0, 0] 3 1 (tabOf [0, 0, 1, 0, 0] 4) := fun _ => by kernel_rfl
theorem fB_5_4_0 : FBp [0, 0, 1, 0, 0] 4 0 (tabOf [0, 0, 1, 0, 0] 4) := fun _ => by kernel_rfl
theorem fB_5_4_1 : FBp [0, 0, 1, 0, 0] 4 1 (tabOf [0, 0, 1, 0, 0] 5) := fun _ => by kernel_rfl
theorem fB_5_5_0 : FBp [0, 0, 1, 0, 0] 5 0 (tabOf [0, 0, 1, 0, 0] 5) := fun _ => by kernel_rfl
theorem fB_5_5_1 : FBp [0, 0, 1, 0, 0] 5 1 (tabOf [0, 0, 1, 0, 0] 6) := fun _ => by kernel_rfl
theorem fB_5_6_0 : FBp [0, 0, 1, 0, 0] 6 0 (tabOf [0, 0, 1, 0, 0] 6) := fun _ => by kernel_rfl
theorem fB_5_6_1 : FBp [0, 0, 1, 0, 0] 6 1 (tabOf [0, 0, 1, 0, 0] 0) := fun _ => by kernel_rfl
theorem fB_6_0_0 : FBp [0, 0, 1, 0, 1] 0 0 (tabOf [0, 0, 1, 0, 1] 0) := fun _ => by kernel_rfl
theorem fB_6_0_1 : FBp [0, 0, 1, 0, 1] 0 1 (tabOf [0, 0, 1, 0, 1] 1) := fun _ => by kernel_rfl
theorem fB_6_1_0 : FBp [0, 0, 1, 0, 1] 1 0 (tabOf [0, 0, 1, 0, 1] 1) := fun _ => by kernel_rfl
theorem fB_6_1_1 : FBp [0, 0, 1, 0, 1] 1 1 (tabOf [0, 0, 1, 0, 1] 2) := fun _ => by kernel_rfl
theorem fB_6_2_0 : FBp [0, 0, 1, 0, 1] 2 0 (tabOf [0, 0, 1, 0, 1] 2) := fun _ => by kernel_rfl
theorem fB_6_2_1 : FBp [0, 0, 1, 0, 1] 2 1 (tabOf [0, 0, 1, 0, 1] 3) := fun _ => by kernel_rfl
theorem fB_6_3_0 : FBp [0, 0, 1, 0, 1] 3 0 (tabOf [0, 0, 1, 0, 1] 3) := fun _ => by kernel_rfl
theorem fB_6_3_1 : FBp [0, 0, 1, 0, 1] 3 1 (tabOf [0, 0, 1, 0, 1] 4) := fun _ => by kernel_rfl
theorem fB_6_4_0 : FBp [0, 0, 1, 0, 1] 4 0 (tabOf [0, 0, 1, 0, 1] 4) := fun _ => by kernel_rfl
theorem fB_6_4_1 : FBp [0, 0, 1, 0, 1] 4 1 (tabOf [0, 0, 1, 0, 1] 5) := fun _ => by kernel_rfl
theorem fB_6_5_0 : FBp [0, 0, 1, 0, 1] 5 0 (tabOf [0, 0, 1, 0, 1] 5) := fun _ => by kernel_rfl
theorem fB_6_5_1 : FBp [0, 0, 1, 0, 1] 5 1 (tabOf [0, 0, 1, 0, 1] 6) := fun _ => by kernel_rfl
theorem fB_6_6_0 : FBp [0, 0, 1, 0, 1] 6 0 (tabOf [0, 0, 1, 0, 1] 6) := fun _ => by kernel_rfl
theorem fB_6_6_1 : FBp [0, 0, 1, 0, 1] 6 1 (tabOf [0, 0, 1, 0, 1] 0) := fun _ => by kernel_rfl
theorem fB_7_0_0 : FBp [0, 0, 1, 1, 0] 0 0 (tabOf [0, 0, 1, 1, 0] 0) := fun _ => by kernel_rfl
theorem fB_7_0_1 : FBp [0, 0, 1, 1, 0] 0 1 (tabOf [0, 0, 1, 1, 0] 1) := fun _ => by kernel_rfl
theorem fB_7_1_0 : FBp [0, 0, 1, 1, 0] 1 0 (tabOf [0, 0, 1, 1, 0] 1) := fun _ => by kernel_rfl
theorem fB_7_1_1 : FBp [0, 0, 1, 1, 0] 1 1 (tabOf [0, 0, 1, 1, 0] 2) := fun _ => by kernel_rfl
theorem fB_7_2_0 : FBp [0, 0, 1, 1, 0] 2 0 (tabOf [0, 0, 1, 1, 0] 2) := fun _ => by kernel_rfl
theorem fB_7_2_1 : FBp [0, 0, 1, 1, 0] 2 1 (tabOf [0, 0, 1, 1, 0] 3) := fun _ => by kernel_rfl
theorem fB_7_3_0 : FBp [0, 0, 1, 1, 0] 3 0 (tabOf [0, 0, 1, 1, 0] 3) := fun _ => by kernel_rfl
theorem fB_7_3_1 : FBp [0, 0, 1, 1, 0] 3 1 (tabOf [0, 0, 1, 1, 0] 4) := fun _ => by kernel_rfl
theorem fB_7_4_0 : FBp [0, 0, 1, 1, 0] 4 0 (tabOf [0, 0, 1, 1, 0] 4) := fun _ => by kernel_rfl
theorem fB_7_4_1 : FBp [0, 0, 1, 1, 0] 4 1 (tabOf [0, 0, 1, 1, 0] 5) := fun _ => by kernel_rfl
theorem fB_7_5_0 : FBp [0, 0, 1, 1, 0] 5 0 (tabOf [0, 0, 1, 1, 0] 5) := fun _ => by kernel_rfl
theorem fB_7_5_1 : FBp [0, 0, 1, 1, 0] 5 1 (tabOf [0, 0, 1, 1, 0] 6) := fun _ => by kernel_rfl
theorem fB_7_6_0 : FBp [0, 0, 1, 1, 0] 6 0 (tabOf [0, 0, 1, 1, 0] 6) := fun _ => by kernel_rfl
theorem fB_7_6_1 : FBp [0, 0, 1, 1, 0] 6 1 (tabOf [0, 0, 1, 1, 0] 0) := fun _ => by kernel_rfl
theorem fB_8_0_0 : FBp [0, 0, 1, 1, 1] 0 0 (tabOf [0, 0, 1, 1, 1] 0) := fun _ => by kernel_rfl
theorem fB_8_0_1 : FBp [0, 0, 1, 1, 1] 0 1 (tabOf [0, 0, 1, 1, 1] 1) := fun _ => by kernel_rfl
theorem fB_8_1_0 : FBp [0, 0, 1, 1, 1] 1 0 (tabOf [0, 0, 1, 1, 1] 1) := fun _ => by kernel_rfl
theorem fB_8_1_1 : FBp [0, 0, 1, 1, 1] 1 1 (tabOf [0, 0, 1, 1, 1] 2) := fun _ => by kernel_rfl
theorem fB_8_2_0 : FBp [0, 0, 1, 1, 1] 2 0 (tabOf [0, 0, 1, 1, 1] 2) := fun _ => by kernel_rfl
theorem fB_8_2_1 : FBp [0, 0, 1, 1, 1] 2 1 (tabOf [0, 0, 1, 1, 1] 3) := fun _ => by kernel_rfl
theorem fB_8_3_0 : FBp [0, 0, 1, 1, 1] 3 0 (tabOf [0, 0, 1, 1, 1] 3) := fun _ => by kernel_rfl
theorem fB_8_3_1 : FBp [0, 0, 1, 1, 1] 3 1 (tabOf [0, 0, 1, 1, 1] 4) := fun _ => by kernel_rfl
theorem fB_8_4_0 : FBp [0, 0, 1, 1, 1] 4 0 (tabOf [0, 0, 1, 1, 1] 4) := fun _ => by kernel_rfl
theorem fB_8_4_1 : FBp [0, 0, 1, 1, 1] 4 1 (tabOf [0, 0, 1, 1, 1] 5) := fun _ => by kernel_rfl
theorem fB_8_5_0 : FBp [0, 0, 1, 1, 1] 5 0 (tabOf [0, 0, 1, 1, 1] 5) := fun _ => by kernel_rfl
theorem fB_8_5_1 : FBp [0, 0, 1, 1, 1] 5 1 (tabOf [0, 0, 1, 1, 1] 6) := fun _ => by kernel_rfl
theorem fB_8_6_0 : FBp [0, 0, 1, 1, 1] 6 0 (tabOf [0, 0, 1, 1, 1] 6) := fun _ => by kernel_rfl
theorem fB_8_6_1 : FBp [0, 0, 1, 1, 1] 6 1 (tabOf [0, 0, 1, 1, 1] 0) := fun _ => by kernel_rfl
theorem fB_9_0_0 : FBp [0, 0, 1, 1, 2] 0 0 (tabOf [0, 0, 1, 1, 2] 0) := fun _ => by kernel_rfl
theorem fB_9_0_1 : FBp [0, 0, 1, 1, 2] 0 1 (tabOf [0, 0, 1, 1, 2] 1) := fun _ => by kernel_rfl
theorem fB_9_1_0 : FBp [0, 0, 1, 1, 2] 1 0 (tabOf [0, 0, 1, 1, 2] 1) := fun _ => by kernel_rfl
theorem fB_9_1_1 : FBp [0, 0, 1, 1, 2] 1 1 (tabOf [0, 0, 1, 1, 2] 2) := fun _ => by kernel_rfl
theorem fB_9_2_0 : FBp [0, 0, 1, 1, 2] 2 0 (tabOf [0, 0, 1, 1, 2] 2) := fun _ => by kernel_rfl
theorem fB_9_2_1 : FBp [0, 0, 1, 1, 2] 2 1 (tabOf [0, 0, 1, 1, 2] 3) := fun _ => by kernel_rfl
theorem fB_9_3_0 : FBp [0, 0, 1, 1, 2] 3 0 (tabOf [0, 0, 1, 1, 2] 3) := fun _ => by kernel_rfl
theorem fB_9_3_1 : FBp [0, 0, 1, 1, 2] 3 1 (tabOf [0, 0, 1, 1, 2] 4) := fun _ => by kernel_rfl
theorem fB_9_4_0 : FBp [0, 0, 1, 1, 2] 4 0 (tabOf [0, 0, 1, 1, 2] 4) := fun _ => by kernel_rfl
theorem fB_9_4_1 : FBp [0, 0, 1, 1, 2] 4 1 (tabOf [0, 0, 1, 1, 2] 5) := fun _ => by kernel_rfl
theorem fB_9_5_0 : FBp [0, 0, 1, 1, 2] 5 0 (tabOf [0, 0, 1, 1, 2] 5) := fun _ => by kernel_rfl
theorem fB_9_5_1 : FBp [0, 0, 1, 1, 2] 5 1 (tabOf [0, 0, 1, 1, 2] 6) := fun _ => by kernel_rfl
theorem fB_9_6_0 : FBp [0, 0, 1, 1, 2] 6 0 (tabOf [0, 0, 1, 1, 2] 6) := fun _ => by kernel_rfl
theorem fB_9_6_1 : FBp [0, 0, 1, 1, 2] 6 1 (tabOf [0, 0, 1, 1, 2] 0) := fun _ => by kernel_rfl
theorem fB_10_0_0 : FBp [0, 0, 1, 2, 0] 0 0 (tabOf [0, 0, 1, 2, 0] 0) := fun _ => by kernel_rfl
theorem fB_10_0_1 : FBp [0, 0, 1, 2, 0] 0 1 (tabOf [0, 0, 1, 2, 0] 1) := fun _ => by kernel_rfl
theorem fB_10_1_0 : FBp [0, 0, 1, 2, 0] 1 0 (tabOf [0, 0, 1, 2, 0] 1) := fun _ => by kernel_rfl
theorem fB_10_1_1 : FBp [0, 0, 1, 2, 0] 1 1 (tabOf [0, 0, 1, 2, 0] 2) := fun _ => by kernel_rfl
theorem fB_10_2_0 : FBp [0, 0, 1, 2, 0] 2 0 (tabOf [0, 0, 1, 2, 0] 2) := fun _ => by kernel_rfl
theorem fB_10_2_1 : FBp [0, 0, 1, 2, 0] 2 1 (tabOf [0, 0, 1, 2, 0] 3) := fun _ => by kernel_rfl
theorem fB_10_3_0 : FBp [0, 0, 1, 2, 0] 3 0 (tabOf [0, 0, 1, 2, 0] 3) := fun _ => by kernel_rfl
theorem fB_10_3_1 : FBp [0, 0, 1, 2, 0] 3 1 (tabOf [0, 0, 1, 2, 0] 4) := fun _ => by kernel_rfl
theorem fB_10_4_0 : FBp [0, 0, 1, 2, 0] 4 0 (tabOf [0, 0, 1, 2, 0] 4) := fun _ => by kernel_rfl
theorem fB_10_4_1 : FBp [0, 0, 1, 2, 0] 4 1 (tabOf [0, 0, 1, 2, 0] 5) := fun _ => by kernel_rfl
theorem fB_10_5_0 : FBp [0, 0, 1, 2, 0] 5 0 (tabOf [0, 0, 1, 2, 0] 5) := fun _ => by kernel_rfl
theorem fB_10_5_1 : FBp [0, 0, 1, 2, 0] 5 1 (tabOf [0, 0, 1, 2, 0] 6) := fun _ => by kernel_rfl
theorem fB_10_6_0 : FBp [0, 0, 1, 2, 0] 6 0 (tabOf [0, 0, 1, 2, 0] 6) := fun _ => by kernel_rfl
theorem fB_10_6_1 : FBp [0, 0, 1, 2, 0] 6 1 (tabOf [0, 0, 1, 2, 0] 0) := fun _ => by kernel_rfl
theorem fB_11_0_0 : FBp [0, 0, 1, 2, 1] 0 0 (tabOf [0, 0, 1, 2, 1] 0) := fun _ => by kernel_rfl
theorem fB_11_0_1 : FBp [0, 0, 1, 2, 1] 0 1 (tabOf [0, 0, 1, 2, 1] 1) := fun _ => by kernel_rfl
theorem fB_11_1_0 : FBp [0, 0, 1, 2, 1] 1 0 (tabOf [0, 0, 1, 2, 1] 1) := fun _ => by kernel_rfl
theorem fB_11_1_1 : FBp [0, 0, 1, 2, 1] 1 1 (tabOf [0, 0, 1, 2, 1] 2) := fun _ => by kernel_rfl
theorem fB_11_2_0 : FBp [0, 0, 1, 2, 1] 2 0 (tabOf [0, 0, 1, 2, 1] 2) := fun _ => by kernel_rfl
theorem fB_11_2_1 : FBp [0, 0, 1, 2, 1] 2 1 (tabOf [0, 0, 1, 2, 1] 3) := fun _ => by kernel_rfl
theorem fB_11_3_0 : FBp [0, 0, 1, 2, 1] 3 0 (tabOf [0, 0, 1, 2, 1] 3) := fun _ => by kernel_rfl
theorem fB_11_3_1 : FBp [0, 0, 1, 2, 1] 3 1 (tabOf [0, 0, 1, 2, 1] 4) := fun _ => by kernel_rfl
theorem fB_11_4_0 : FBp [0, 0, 1, 2, 1] 4 0 (tabOf [0, 0, 1, 2, 1] 4) := fun _ => by kernel_rfl
theorem fB_11_4_1 : FBp [0, 0, 1, 2, 1] 4 1 (tabOf [0, 0, 1, 2, 1] 5) := fun _ => by kernel_rfl
theorem fB_11_5_0 : FBp [0, 0, 1, 2, 1] 5 0 (tabOf [0, 0, 1, 2, 1] 5) := fun _ => by kernel_rfl
theorem fB_11_5_1 : FBp [0, 0, 1, 2, 1] 5 1 (tabOf [0, 0, 1, 2, 1] 6) := fun _ => by kernel_rfl
theorem fB_11_6_0 : FBp [0, 0, 1, 2, 1] 6 0 (tabOf [0, 0, 1, 2, 1] 6) := fun _ => by kernel_rfl
theorem fB_11_6_1 : FBp [0, 0, 1, 2, 1] 6 1 (tabOf [0, 0, 1, 2, 1] 0) := fun _ => by kernel_rfl
theorem fB_12_0_0 : FBp [0, 0, 1, 2, 2] 0 0 (tabOf [0, 0, 1, 2, 2] 0) := fun _ => by kernel_rfl
theorem fB_12_0_1 : FBp [0, 0, 1, 2, 2] 0 1 (tabOf [0, 0, 1, 2, 2] 1) := fun _ => by kernel_rfl
theorem fB_12_1_0 : FBp [0, 0, 1, 2, 2] 1 0 (tabOf [0, 0, 1, 2, 2] 1) := fun _ => by kernel_rfl
theorem fB_12_1_1 : FBp [0, 0, 1, 2, 2] 1 1 (tabOf [0, 0, 1, 2, 2] 2) := fun _ => by kernel_rfl
theorem fB_12_2_0 : FBp [0, 0, 1, 2, 2] 2 0 (tabOf [0, 0, 1, 2, 2] 2) := fun _ => by kernel_rfl
theorem fB_12_2_1 : FBp [0, 0, 1, 2, 2] 2 1 (tabOf [0, 0, 1, 2, 2] 3) := fun _ => by kernel_rfl
theorem fB_12_3_0 : FBp [0, 0, 1, 2, 2] 3 0 (tabOf [0, 0, 1, 2, 2] 3) := fun _ => by kernel_rfl
theorem fB_12_3_1 : FBp [0, 0, 1, 2, 2] 3 1 (tabOf [0, 0, 1, 2, 2] 4) := fun _ => by kernel_rfl
theorem fB_12_4_0 : FBp [0, 0, 1, 2, 2] 4 0 (tabOf [0, 0, 1, 2, 2] 4) := fun _ => by kernel_rfl
theorem fB_12_4_1 : FBp [0, 0, 1, 2, 2] 4 1 (tabOf [0, 0, 1, 2, 2] 5) := fun _ => by kernel_rfl
theorem fB_12_5_0 : FBp [0, 0, 1, 2, 2] 5 0 (tabOf [0, 0, 1, 2, 2] 5) := fun _ => by kernel_rfl
theorem fB_12_5_1 : FBp [0, 0, 1, 2, 2] 5 1 (tabOf [0, 0, 1, 2, 2] 6) := fun _ => by kernel_rfl
theorem fB_12_6_0 : FBp [0, 0, 1, 2, 2] 6 0 (tabOf [0, 0, 1, 2, 2] 6) := fun _ => by kernel_rfl
theorem fB_12_6_1 : FBp [0, 0, 1, 2, 2] 6 1 (tabOf [0, 0, 1, 2, 2] 0) := fun _ => by kernel_rfl
theorem fB_13_0_0 : FBp [0, 0, 1, 2, 3] 0 0 (tabOf [0, 0, 1, 2, 3] 0) := fun _ => by kernel_rfl
theorem fB_13_0_1 : FBp [0, 0, 1, 2, 3] 0 1 (tabOf [0, 0, 1, 2, 3] 1) := fun _ => by kernel_rfl
theorem fB_13_1_0 : FBp [0, 0, 1, 2, 3] 1 0 (tabOf [0, 0, 1, 2, 3] 1) := fun _ => by kernel_rfl
theorem fB_13_1_1 : FBp [0, 0, 1, 2, 3] 1 1 (tabOf [0, 0, 1, 2, 3] 2) := fun _ => by kernel_rfl
theorem fB_13_2_0 : FBp [0, 0, 1, 2, 3] 2 0 (tabOf [0, 0, 1, 2, 3] 2) := fun _ => by kernel_rfl
theorem fB_13_2_1 : FBp [0, 0, 1, 2, 3] 2 1 (tabOf [0, 0, 1, 2, 3] 3) := fun _ => by kernel_rfl
theorem fB_13_3_0 : FBp [0, 0, 1, 2, 3] 3 0 (tabOf [0, 0, 1, 2, 3] 3) := fun _ => by kernel_rfl
theorem fB_13_3_1 : FBp [0, 0, 1, 2, 3] 3 1 (tabOf [0, 0, 1, 2, 3] 4) := fun _ => by kernel_rfl
theorem fB_13_4_0 : FBp [0, 0, 1, 2, 3] 4 0 (tabOf [0, 0, 1, 2, 3] 4) := fun _ => by kernel_rfl
theorem fB_13_4_1 : FBp [0, 0, 1, 2, 3] 4 1 (tabOf [0, 0, 1, 2, 3] 5) := fun _ => by kernel_rfl
theorem fB_13_5_0 : FBp [0, 0, 1, 2, 3] 5 0 (tabOf [0, 0, 1, 2, 3] 5) := fun _ => by kernel_rfl
theorem fB_13_5_1 : FBp [0, 0, 1, 2, 3] 5 1 (tabOf [0, 0, 1, 2, 3] 6) := fun _ => by kernel_rfl
theorem fB_13_6_0 : FBp [0, 0, 1, 2, 3] 6 0 (tabOf [0, 0, 1, 2, 3] 6) := fun _ => by kernel_rfl
theorem fB_13_6_1 : FBp [0, 0, 1, 2, 3] 6 1 (tabOf [0, 0, 1, 2, 3] 0) := fun _ => by kernel_rfl
theorem fB_14_0_0 : FBp [0, 1, 0, 0, 0] 0 0 (tabOf [0, 1, 0, 0, 0] 0) := fun _ => by kernel_rfl
theorem fB_14_0_1 : FBp [0, 1, 0, 0, 0] 0 1 (tabOf [0, 1, 0, 0, 0] 1) := fun _ => by kernel_rfl
theorem fB_14_1_0 : FBp [0, 1, 0, 0, 0] 1 0 (tabOf [0, 1, 0, 0, 0] 1) := fun _ => by kernel_rfl
theorem fB_14_1_1 : FBp [0, 1, 0, 0, 0] 1 1 (tabOf [0, 1, 0, 0, 0] 2) := fun _ => by kernel_rfl
theorem fB_14_2_0 : FBp [0, 1, 0, 0, 0] 2 0 (tabOf [0, 1, 0, 0, 0] 2) := fun _ => by kernel_rfl
theorem fB_14_2_1 : FBp [0, 1, 0, 0, 0] 2 1 (tabOf [0, 1, 0, 0, 0] 3) := fun _ => by kernel_rfl
theorem fB_14_3_0 : FBp [0, 1, 0, 0, 0] 3 0 (tabOf [0, 1, 0, 0, 0] 3) := fun _ => by kernel_rfl
theorem fB_14_3_1 : FBp [0, 1, 0, 0, 0] 3 1 (tabOf [0, 1, 0, 0, 0] 4) := fun _ => by kernel_rfl
theorem fB_14_4_0 : FBp [0, 1, 0, 0, 0] 4 0 (tabOf [0, 1, 0, 0, 0] 4) := fun _ => by kernel_rfl
theorem fB_14_4_1 : FBp [0, 1, 0, 0, 0] 4 1 (tabOf [0, 1, 0, 0, 0] 5) := fun _ => by kernel_rfl
theorem fB_14_5_0 : FBp [0, 1, 0, 0, 0] 5 0 (tabOf [0, 1, 0, 0, 0] 5) := fun _ => by kernel_rfl
theorem fB_14_5_1 : FBp [0, 1, 0, 0, 0] 5 1 (tabOf [0, 1, 0, 0, 0] 6) := fun _ => by kernel_rfl
theorem fB_14_6_0 : FBp [0, 1, 0, 0, 0] 6 0 (tabOf [0, 1, 0, 0, 0] 6) := fun _ => by kernel_rfl
theorem fB_14_6_1 : FBp [0, 1, 0, 0, 0] 6 1 (tabOf [0, 1, 0, 0, 0] 0) := fun _ => by kernel_rfl
theorem fB_15_0_0 : FBp [0, 1, 0, 0, 1] 0 0 (tabOf [0, 1, 0, 0, 1] 0) := fun _ => by kernel_rfl
theorem fB_15_0_1 : FBp [0, 1, 0, 0, 1] 0 1 (tabOf [0, 1, 0, 0, 1] 1) := fun _ => by kernel_rfl
theorem fB_15_1_0 : FBp [0, 1, 0, 0, 1] 1 0 (tabOf [0, 1, 0, 0, 1] 1) := fun _ => by kernel_rfl
theorem fB_15_1_1 : FBp [0, 1, 0, 0, 1] 1 1 (tabOf [0, 1, 0, 0, 1] 2) := fun _ => by kernel_rfl
theorem fB_15_2_0 : FBp [0, 1, 0, 0, 1] 2 0 (tabOf [0, 1, 0, 0, 1] 2) := fun _ => by kernel_rfl
theorem fB_15_2_1 : FBp [0, 1, 0, 0, 1] 2 1 (tabOf [0, 1, 0, 0, 1] 3) := fun _ => by kernel_rfl
theorem fB_15_3_0 : FBp [0, 1, 0, 0, 1] 3 0 (tabOf [0, 1, 0, 0, 1] 3) := fun _ => by kernel_rfl
theorem fB_15_3_1 : FBp [0, 1, 0, 0, 1] 3 1 (tabOf [0, 1, 0, 0, 1] 4) := fun _ => by kernel_rfl
theorem fB_15_4_0 : FBp [0, 1, 0, 0, 1] 4 0 (tabOf [0, 1, 0, 0, 1] 4) := fun _ => by kernel_rfl
theorem fB_15_4_1 : FBp [0, 1, 0, 0, 1] 4 1 (tabOf [0, 1, 0, 0, 1] 5) := fun _ => by kernel_rfl
theorem fB_15_5_0 : FBp [0, 1, 0, 0, 1] 5 0 (tabOf [0, 1, 0, 0, 1] 5) := fun _ => by kernel_rfl
theorem fB_15_5_1 : FBp [0, 1, 0, 0, 1] 5 1 (tabOf [0, 1, 0, 0, 1] 6) := fun _ => by kernel_rfl
theorem fB_15_6_0 : FBp [0, 1, 0, 0, 1] 6 0 (tabOf [0, 1, 0, 0, 1] 6) := fun _ => by kernel_rfl
theorem fB_15_6_1 : FBp [0, 1, 0, 0, 1] 6 1 (tabOf [0, 1, 0, 0, 1] 0) := fun _ => by kernel_rfl
theorem fB_16_0_0 : FBp [0, 1, 0, 1, 0] 0 0 (tabOf [0, 1, 0, 1, 0] 0) := fun _ => by kernel_rfl
theorem fB_16_0_1 : FBp [0, 1, 0, 1, 0] 0 1 (tabOf [0, 1, 0, 1, 0] 1) := fun _ => by kernel_rfl
theorem fB_16_1_0 : FBp [0, 1, 0, 1, 0] 1 0 (tabOf [0, 1, 0, 1, 0] 1) := fun _ => by kernel_rfl
theorem fB_16_1_1 : FBp [0, 1, 0, 1, 0] 1 1 (tabOf [0, 1, 0, 1, 0] 2) := fun _ => by kernel_rfl
theorem fB_16_2_0 : FBp [0, 1, 0, 1, 0] 2 0 (tabOf [0, 1, 0, 1, 0] 2) := fun _ => by kernel_rfl
theorem fB_16_2_1 : FBp [0, 1, 0, 1, 0] 2 1 (tabOf [0, 1, 0, 1, 0] 3) := fun _ => by kernel_rfl
theorem fB_16_3_0 : FBp [0, 1, 0, 1, 0] 3 0 (tabOf [0, 1, 0, 1, 0] 3) := fun _ => by kernel_rfl
theorem fB_16_3_1 : FBp [0, 1, 0, 1, 0] 3 1 (tabOf [0, 1, 0, 1, 0] 4) := fun _ => by kernel_rfl
theorem fB_16_4_0 : FBp [0, 1, 0, 1, 0] 4 0 (tabOf [0, 1, 0, 1, 0] 4) := fun _ => by kernel_rfl
theorem fB_16_4_1 : FBp [0, 1, 0, 1, 0] 4 1 (tabOf [0, 1, 0, 1, 0] 5) := fun _ => by kernel_rfl
theorem fB_16_5_0 : FBp [0, 1, 0, 1, 0] 5 0 (tabOf [0, 1, 0, 1, 0] 5) := fun _ => by kernel_rfl
theorem fB_16_5_1 : FBp [0, 1, 0, 1, 0] 5 1 (tabOf [0, 1, 0, 1, 0] 6) := fun _ => by kernel_rfl
theorem fB_16_6_0 : FBp [0, 1, 0, 1, 0] 6 0 (tabOf [0, 1, 0, 1, 0] 6) := fun _ => by kernel_rfl
theorem fB_16_6_1 : FBp [0, 1, 0, 1, 0] 6 1 (tabOf [0, 1, 0, 1, 0] 0) := fun _ => by kernel_rfl
theorem fB_17_0_0 : FBp [0, 1, 0, 1, 1] 0 0 (tabOf [0, 1, 0, 1, 1] 0) := fun _ => by kernel_rfl
theorem fB_17_0_1 : FBp [0, 1, 0, 1, 1] 0 1 (tabOf [0, 1, 0, 1, 1] 1) := fun _ => by kernel_rfl
theorem fB_17_1_0 : FBp [0, 1, 0, 1, 1] 1 0 (tabOf [0, 1, 0, 1, 1] 1) := fun _ => by kernel_rfl
theorem fB_17_1_1 : FBp [0, 1, 0, 1, 1] 1 1 (tabOf [0, 1, 0, 1, 1] 2) := fun _ => by kernel_rfl
theorem fB_17_2_0 : FBp [0, 1, 0, 1, 1] 2 0 (tabOf [0, 1, 0, 1, 1] 2) := fun _ => by kernel_rfl
theorem fB_17_2_1 : FBp [0, 1, 0, 1, 1] 2 1 (tabOf [0, 1, 0, 1, 1] 3) := fun _ => by kernel_rfl
theorem fB_17_3_0 : FBp [0, 1, 0, 1, 1] 3 0 (tabOf [0, 1, 0, 1, 1] 3) := fun _ => by kernel_rfl
theorem fB_17_3_1 : FBp [0, 1, 0, 1, 1] 3 1 (tabOf [0, 1, 0, 1, 1] 4) := fun _ => by kernel_rfl
theorem fB_17_4_0 : FBp [0, 1, 0, 1, 1] 4 0 (tabOf [0, 1, 0, 1, 1] 4) := fun _ => by kernel_rfl
theorem fB_17_4_1 : FBp [0, 1, 0, 1, 1] 4 1 (tabOf [0, 1, 0, 1, 1] 5) := fun _ => by kernel_rfl
theorem fB_17_5_0 : FBp [0, 1, 0, 1, 1] 5 0 (tabOf [0, 1, 0, 1, 1] 5) := fun _ => by kernel_rfl
theorem fB_17_5_1 : FBp [0, 1, 0, 1, 1] 5 1 (tabOf [0, 1, 0, 1, 1] 6) := fun _ => by kernel_rfl
theorem fB_17_6_0 : FBp [0, 1, 0, 1, 1] 6 0 (tabOf [0, 1, 0, 1, 1] 6) := fun _ => by kernel_rfl
theorem fB_17_6_1 : FBp [0, 1, 0, 1, 1] 6 1 (tabOf [0, 1, 0, 1, 1] 0) := fun _ => by kernel_rfl
theorem fB_18_0_0 : FBp [0, 1, 0, 1, 2] 0 0 (tabOf [0, 1, 0, 1, 2] 0) := fun _ => by kernel_rfl
theorem fB_18_0_1 : FBp [0, 1, 0, 1, 2] 0 1 (tabOf [0, 1, 0, 1, 2] 1) := fun _ => by kernel_rfl
theorem fB_18_1_0 : FBp [0, 1, 0, 1, 2] 1 0 (tabOf [0, 1, 0, 1, 2] 1) := fun _ => by kernel_rfl
theorem fB_18_1_1 : FBp [0, 1, 0, 1, 2] 1 1 (tabOf [0, 1, 0, 1, 2] 2) := fun _ => by kernel_rfl
theorem fB_18_2_0 : FBp [0, 1, 0, 1, 2] 2 0 (tabOf [0, 1, 0, 1, 2] 2) := fun _ => by kernel_rfl
theorem fB_18_2_1 : FBp [0, 1, 0, 1, 2] 2 1 (tabOf [0, 1, 0, 1, 2] 3) := fun _ => by kernel_rfl
theorem fB_18_3_0 : FBp [0, 1, 0, 1, 2] 3 0 (tabOf [0, 1, 0, 1, 2] 3) := fun _ => by kernel_rfl
theorem fB_18_3_1 : FBp [0, 1, 0, 1, 2] 3 1 (tabOf [0, 1, 0, 1, 2] 4) := fun _ => by kernel_rfl
theorem fB_18_4_0 : FBp [0, 1, 0, 1, 2] 4 0 (tabOf [0, 1, 0, 1, 2] 4) := fun _ => by kernel_rfl
theorem fB_18_4_1 : FBp [0, 1, 0, 1, 2] 4 1 (tabOf [0, 1, 0, 1, 2] 5) := fun _ => by kernel_rfl
theorem fB_18_5_0 : FBp [0, 1, 0, 1, 2] 5 0 (tabOf [0, 1, 0, 1, 2] 5) := fun _ => by kernel_rfl
theorem fB_18_5_1 : FBp [0, 1, 0, 1, 2] 5 1 (tabOf [0, 1, 0, 1, 2] 6) := fun _ => by kernel_rfl
theorem fB_18_6_0 : FBp [0, 1, 0, 1, 2] 6 0 (tabOf [0, 1, 0, 1, 2] 6) := fun _ => by kernel_rfl
theorem fB_18_6_1 : FBp [0, 1, 0, 1, 2] 6 1 (tabOf [0, 1, 0, 1, 2] 0) := fun _ => by kernel_rfl
theorem fB_19_0_0 : FBp [0, 1, 1, 0, 0] 0 0 (tabOf [0, 1, 1, 0, 0] 0) := fun _ => by kernel_rfl
theorem fB_19_0_1 : FBp [0, 1, 1, 0, 0] 0 1 (tabOf [0, 1, 1, 0, 0] 1) := fun _ => by kernel_rfl
theorem fB_19_1_0 : FBp [0, 1, 1, 0, 0] 1 0 (tabOf [0, 1, 1, 0, 0] 1) := fun _ => by kernel_rfl
theorem fB_19_1_1 : FBp [0, 1, 1, 0, 0] 1 1 (tabOf [0, 1, 1, 0, 0] 2) := fun _ => by kernel_rfl
theorem fB_19_2_0 : FBp [0, 1, 1, 0, 0] 2 0 (tabOf [0, 1, 1, 0, 0] 2) := fun _ => by kernel_rfl
theorem fB_19_2_1 : FBp [0, 1, 1, 0, 0] 2 1 (tabOf [0, 1, 1, 0, 0] 3) := fun _ => by kernel_rfl
theorem fB_19_3_0 : FBp [0, 1, 1, 0, 0] 3 0 (tabOf [0, 1, 1, 0, 0] 3) := fun _ => by kernel_rfl
theorem fB_19_3_1 : FBp [0, 1, 1, 0, 0] 3 1 (tabOf [0, 1, 1, 0, 0] 4) := fun _ => by kernel_rfl
theorem fB_19_4_0 : FBp [0, 1, 1, 0, 0] 4 0 (tabOf [0, 1, 1, 0, 0] 4) := fun _ => by kernel_rfl
theorem fB_19_4_1 : FBp [0, 1, 1, 0, 0] 4 1 (tabOf [0, 1, 1, 0, 0] 5) := fun _ => by kernel_rfl
theorem fB_19_5_0 : FBp [0, 1, 1, 0, 0] 5 0 (tabOf [0, 1, 1, 0, 0] 5) := fun _ => by kernel_rfl
theorem fB_19_5_1 : FBp [0, 1, 1, 0, 0] 5 1 (tabOf [0, 1, 1, 0, 0] 6) := fun _ => by kernel_rfl
theorem fB_19_6_0 : FBp [0, 1, 1, 0, 0] 6 0 (tabOf [0, 1, 1, 0, 0] 6) := fun _ => by kernel_rfl
theorem fB_19_6_1 : FBp [0, 1, 1, 0, 0] 6 1 (tabOf [0, 1, 1, 0, 0] 0) := fun _ => by kernel_rfl
theorem fB_20_0_0 : FBp [0, 1, 1, 0, 1] 0 0 (tabOf [0, 1, 1, 0, 1] 0) := fun _ => by kernel_rfl
theorem fB_20_0_1 : FBp [0, 1, 1, 0, 1] 0 1 (tabOf [0, 1, 1, 0, 1] 1) := fun _ => by kernel_rfl
theorem fB_20_1_0 : FBp [0, 1, 1, 0, 1] 1 0 (tabOf [0, 1, 1, 0, 1] 1) := fun _ => by kernel_rfl
theorem fB_20_1_1 : FBp [0, 1, 1, 0, 1] 1 1 (tabOf [0, 1, 1, 0, 1] 2) := fun _ => by kernel_rfl
theorem fB_20_2_0 : FBp [0, 1, 1, 0, 1] 2 0 (tabOf [0, 1, 1, 0, 1] 2) := fun _ => by kernel_rfl
theorem fB_20_2_1 : FBp [0, 1, 1, 0, 1] 2 1 (tabOf [0, 1, 1, 0, 1] 3) := fun _ => by kernel_rfl
theorem fB_20_3_0 : FBp [0, 1, 1, 0, 1] 3 0 (tabOf [0, 1, 1, 0, 1] 3) := fun _ => by kernel_rfl
theorem fB_20_3_1 : FBp [0, 1, 1, 0, 1] 3 1 (tabOf [0, 1, 1, 0, 1] 4) := fun _ => by kernel_rfl
theorem fB_20_4_0 : FBp [0, 1, 1, 0, 1] 4 0 (tabOf [0, 1, 1, 0, 1] 4) := fun _ => by kernel_rfl
theorem fB_20_4_1 : FBp [0, 1, 1, 0, 1] 4 1 (tabOf [0, 1, 1, 0, 1] 5) := fun _ => by kernel_rfl
theorem fB_20_5_0 : FBp [0, 1, 1, 0, 1] 5 0 (tabOf [0, 1, 1, 0, 1] 5) := fun _ => by kernel_rfl
theorem fB_20_5_1 : FBp [0, 1, 1, 0, 1] 5 1 (tabOf [0, 1, 1, 0, 1] 6) := fun _ => by kernel_rfl
theorem fB_20_6_0 : FBp [0, 1, 1, 0, 1] 6 0 (tabOf [0, 1, 1, 0, 1] 6) := fun _ => by kernel_rfl
theorem fB_20_6_1 : FBp [0, 1, 1, 0, 1] 6 1 (tabOf [0, 1, 1, 0, 1] 0) := fun _ => by kernel_rfl
theorem fB_21_0_0 : FBp [0, 1, 1, 1, 0] 0 0 (tabOf [0, 1, 1, 1, 0] 0) := fun _ => by kernel_rfl
theorem fB_21_0_1 : FBp [0, 1, 1, 1, 0] 0 1 (tabOf [0, 1, 1, 1, 0] 1) := fun _ => by kernel_rfl
theorem fB_21_1_0 : FBp [0, 1, 1, 1, 0] 1 0 (tabOf [0, 1, 1, 1, 0] 1) := fun _ => by kernel_rfl
theorem fB_21_1_1 : FBp [0, 1, 1, 1, 0] 1 1 (tabOf [0, 1, 1, 1, 0] 2) := fun _ => by kernel_rfl
theorem fB_21_2_0 : FBp [0, 1, 1, 1, 0] 2 0 (tabOf [0, 1, 1, 1, 0] 2) := fun _ => by kernel_rfl
theorem fB_21_2_1 : FBp [0, 1, 1, 1, 0] 2 1 (tabOf [0, 1, 1, 1, 0] 3) := fun _ => by kernel_rfl
theorem fB_21_3_0 : FBp [0, 1, 1, 1, 0] 3 0 (tabOf [0, 1, 1, 1, 0] 3) := fun _ => by kernel_rfl
theorem fB_21_3_1 : FBp [0, 1, 1, 1, 0] 3 1 (tabOf [0, 1, 1, 1, 0] 4) := fun _ => by kernel_rfl
theorem fB_21_4_0 : FBp [0, 1, 1, 1, 0] 4 0 (tabOf [0, 1, 1, 1, 0] 4) := fun _ => by kernel_rfl
theorem fB_21_4_1 : FBp [0, 1, 1, 1, 0] 4 1 (tabOf [0, 1, 1, 1, 0] 5) := fun _ => by kernel_rfl
theorem fB_21_5_0 : FBp [0, 1, 1, 1, 0] 5 0 (tabOf [0, 1, 1, 1, 0] 5) := fun _ => by kernel_rfl
theorem fB_21_5_1 : FBp [0, 1, 1, 1, 0] 5 1 (tabOf [0, 1, 1, 1, 0] 6) := fun _ => by kernel_rfl
theorem fB_21_6_0 : FBp [0, 1, 1, 1, 0] 6 0 (tabOf [0, 1, 1, 1, 0] 6) := fun _ => by kernel_rfl
theorem fB_21_6_1 : FBp [0, 1, 1, 1, 0] 6 1 (tabOf [0, 1, 1, 1, 0] 0) := fun _ => by kernel_rfl
theorem fB_22_0_0 : FBp [0, 1, 1, 1, 1] 0 0 (tabOf [0, 1, 1, 1, 1] 0) := fun _ => by kernel_rfl
theorem fB_22_0_1 : FBp [0, 1, 1, 1, 1] 0 1 (tabOf [0, 1, 1, 1, 1] 1) := fun _ => by kernel_rfl
theorem fB_22_1_0 : FBp [0, 1, 1, 1, 1] 1 0 (tabOf [0, 1, 1, 1, 1] 1) := fun _ => by kernel_rfl
theorem fB_22_1_1 : FBp [0, 1, 1, 1, 1] 1 1 (tabOf [0, 1, 1, 1, 1] 2) := fun _ => by kernel_rfl
theorem fB_22_2_0 : FBp [0, 1, 1, 1, 1] 2 0 (tabOf [0, 1, 1, 1, 1] 2) := fun _ => by kernel_rfl
theorem fB_22_2_1 : FBp [0, 1, 1, 1, 1] 2 1 (tabOf [0, 1, 1, 1, 1] 3) := fun _ => by kernel_rfl
theorem fB_22_3_0 : FBp [0, 1, 1, 1, 1] 3 0 (tabOf [0, 1, 1, 1, 1] 3) := fun _ => by kernel_rfl
theorem fB_22_3_1 : FBp [0, 1, 1, 1, 1] 3 1 (tabOf [0, 1, 1, 1, 1] 4) := fun _ => by kernel_rfl
theorem fB_22_4_0 : FBp [0, 1, 1, 1, 1] 4 0 (tabOf [0, 1, 1, 1, 1] 4) := fun _ => by kernel_rfl
theorem fB_22_4_1 : FBp [0, 1, 1, 1, 1] 4 1 (tabOf [0, 1, 1, 1, 1] 5) := fun _ => by kernel_rfl
theorem fB_22_5_0 : FBp [0, 1, 1, 1, 1] 5 0 (tabOf [0, 1, 1, 1, 1] 5) := fun _ => by kernel_rfl
theorem fB_22_5_1 : FBp [0, 1, 1, 1, 1] 5 1 (tabOf [0, 1, 1, 1, 1] 6) := fun _ => by kernel_rfl
theorem fB_22_6_0 : FBp [0, 1, 1, 1, 1] 6 0 (tabOf [0, 1, 1, 1, 1] 6) := fun _ => by kernel_rfl
theorem fB_22_6_1 : FBp [0, 1, 1, 1, 1] 6 1 (tabOf [0, 1, 1, 1, 1] 0) := fun _ => by kernel_rfl
theorem fB_23_0_0 : FBp [0, 1, 1, 1, 2] 0 0 (tabOf [0, 1, 1, 1, 2] 0) := fun _ => by kernel_rfl
theorem fB_23_0_1 : FBp [0, 1, 1, 1, 2] 0 1 (tabOf [0, 1, 1, 1, 2] 1) := fun _ => by kernel_rfl
theorem fB_23_1_0 : FBp [0, 1, 1, 1, 2] 1 0 (tabOf [0, 1, 1, 1, 2] 1) := fun _ => by kernel_rfl
theorem fB_23_1_1 : FBp [0, 1, 1, 1, 2] 1 1 (tabOf [0, 1, 1, 1, 2] 2) := fun _ => by kernel_rfl
theorem fB_23_2_0 : FBp [0, 1, 1, 1, 2] 2 0 (tabOf [0, 1, 1, 1, 2] 2) := fun _ => by kernel_rfl
theorem fB_23_2_1 : FBp [0, 1, 1, 1, 2] 2 1 (tabOf [0, 1, 1, 1, 2] 3) := fun _ => by kernel_rfl
theorem fB_23_3_0 : FBp [0, 1, 1, 1, 2] 3 0 (tabOf [0, 1, 1, 1, 2] 3) := fun _ => by kernel_rfl
theorem fB_23_3_1 : FBp [0, 1, 1, 1, 2] 3 1 (tabOf [0, 1, 1, 1, 2] 4) := fun _ => by kernel_rfl
theorem fB_23_4_0 : FBp [0, 1, 1, 1, 2] 4 0 (tabOf [0, 1, 1, 1, 2] 4) := fun _ => by kernel_rfl
theorem fB_23_4_1 : FBp [0, 1, 1, 1, 2] 4 1 (tabOf [0, 1, 1, 1, 2] 5) := fun _ => by kernel_rfl
theorem fB_23_5_0 : FBp [0, 1, 1, 1, 2] 5 0 (tabOf [0, 1, 1, 1, 2] 5) := fun _ => by kernel_rfl
theorem fB_23_5_1 : FBp [0, 1, 1, 1, 2] 5 1 (tabOf [0, 1, 1, 1, 2] 6) := fun _ => by kernel_rfl
theorem fB_23_6_0 : FBp [0, 1, 1, 1, 2] 6 0 (tabOf [0, 1, 1, 1, 2] 6) := fun _ => by kernel_rfl
theorem fB_23_6_1 : FBp [0, 1, 1, 1, 2] 6 1 (tabOf [0, 1, 1, 1, 2] 0) := fun _ => by kernel_rfl
theorem fB_24_0_0 : FBp [0, 1, 1, 2, 0] 0 0 (tabOf [0, 1, 1, 2, 0] 0) := fun _ => by kernel_rfl
theorem fB_24_0_1 : FBp [0, 1, 1, 2, 0] 0 1 (tabOf [0, 1, 1, 2, 0] 1) := fun _ => by kernel_rfl
theorem fB_24_1_0 : FBp [0, 1, 1, 2, 0] 1 0 (tabOf [0, 1, 1, 2, 0] 1) := fun _ => by kernel_rfl
theorem fB_24_1_1 : FBp [0, 1, 1, 2, 0] 1 1 (tabOf [0, 1, 1, 2, 0] 2) := fun _ => by kernel_rfl
theorem fB_24_2_0 : FBp [0, 1, 1, 2, 0] 2 0 (tabOf [0, 1, 1, 2, 0] 2) := fun _ => by kernel_rfl
theorem fB_24_2_1 : FBp [0, 1, 1, 2, 0] 2 1 (tabOf [0, 1, 1, 2, 0] 3) := fun _ => by kernel_rfl
theorem fB_24_3_0 : FBp [0, 1, 1, 2, 0] 3 0 (tabOf [0, 1, 1, 2, 0] 3) := fun _ => by kernel_rfl
theorem fB_24_3_1 : FBp [0, 1, 1, 2, 0] 3 1 (tabOf [0, 1, 1, 2, 0] 4) := fun _ => by kernel_rfl
theorem fB_24_4_0 : FBp [0, 1, 1, 2, 0] 4 0 (tabOf [0, 1, 1, 2, 0] 4) := fun _ => by kernel_rfl
theorem fB_24_4_1 : FBp [0, 1, 1, 2, 0] 4 1 (tabOf [0, 1, 1, 2, 0] 5) := fun _ => by kernel_rfl
theorem fB_24_5_0 : FBp [0, 1, 1, 2, 0] 5 0 (tabOf [0, 1, 1, 2, 0] 5) := fun _ => by kernel_rfl
theorem fB_24_5_1 : FBp [0, 1, 1, 2, 0] 5 1 (tabOf [0, 1, 1, 2, 0] 6) := fun _ => by kernel_rfl
theorem fB_24_6_0 : FBp [0, 1, 1, 2, 0] 6 0 (tabOf [0, 1, 1, 2, 0] 6) := fun _ => by kernel_rfl
theorem fB_24_6_1 : FBp [0, 1, 1, 2, 0] 6 1 (tabOf [0, 1, 1, 2, 0] 0) := fun _ => by kernel_rfl
theorem fB_25_0_0 : FBp [0, 1, 1, 2, 1] 0 0 (tabOf [0, 1, 1, 2, 1] 0) := fun _ => by kernel_rfl
theorem fB_25_0_1 : FBp [0, 1, 1, 2, 1] 0 1 (tabOf [0, 1, 1, 2, 1] 1) := fun _ => by kernel_rfl
theorem fB_25_1_0 : FBp [0, 1, 1, 2, 1] 1 0 (tabOf [0, 1, 1, 2, 1] 1) := fun _ => by kernel_rfl
theorem fB_25_1_1 : FBp [0, 1, 1, 2, 1] 1 1 (tabOf [0, 1, 1, 2, 1] 2) := fun _ => by kernel_rfl
theorem fB_25_2_0 : FBp [0, 1, 1, 2, 1] 2 0 (tabOf [0, 1, 1, 2, 1] 2) := fun _ => by kernel_rfl
theorem fB_25_2_1 : FBp [0, 1, 1, 2, 1] 2 1 (tabOf [0, 1, 1, 2, 1] 3) := fun _ => by kernel_rfl
theorem fB_25_3_0 : FBp [0, 1, 1, 2, 1] 3 0 (tabOf [0, 1, 1, 2, 1] 3) := fun _ => by kernel_rfl
theorem fB_25_3_1 : FBp [0, 1, 1, 2, 1] 3 1 (tabOf [0, 1, 1, 2, 1] 4) := fun _ => by kernel_rfl
theorem fB_25_4_0 : FBp [0, 1, 1, 2, 1] 4 0 (tabOf [0, 1, 1, 2, 1] 4) := fun _ => by kernel_rfl
theorem fB_25_4_1 : FBp [0, 1, 1, 2, 1] 4 1 (tabOf [0, 1, 1, 2, 1] 5) := fun _ => by kernel_rfl
theorem fB_25_5_0 : FBp [0, 1, 1, 2, 1] 5 0 (tabOf [0, 1, 1, 2, 1] 5) := fun _ => by kernel_rfl
theorem fB_25_5_1 : FBp [0, 1, 1, 2, 1] 5 1 (tabOf [0, 1, 1, 2, 1] 6) := fun _ => by kernel_rfl
theorem fB_25_6_0 : FBp [0, 1, 1, 2, 1] 6 0 (tabOf [0, 1, 1, 2, 1] 6) := fun _ => by kernel_rfl
theorem fB_25_6_1 : FBp [0, 1, 1, 2, 1] 6 1 (tabOf [0, 1, 1, 2, 1] 0) := fun _ => by kernel_rfl
theorem fB_26_0_0 : FBp [0, 1, 1, 2, 2] 0 0 (tabOf [0, 1, 1, 2, 2] 0) := fun _ => by kernel_rfl
theorem fB_26_0_1 : FBp [0, 1, 1, 2, 2] 0 1 (tabOf [0, 1, 1, 2, 2] 1) := fun _ => by kernel_rfl
theorem fB_26_1_0 : FBp [0, 1, 1, 2, 2] 1 0 (tabOf [0, 1, 1, 2, 2] 1) := fun _ => by kernel_rfl
theorem fB_26_1_1 : FBp [0, 1, 1, 2, 2] 1 1 (tabOf [0, 1, 1, 2, 2] 2) := fun _ => by kernel_rfl
theorem fB_26_2_0 : FBp [0, 1, 1, 2, 2] 2 0 (tabOf [0, 1, 1, 2, 2] 2) := fun _ => by kernel_rfl
theorem fB_26_2_1 : FBp [0, 1, 1, 2, 2] 2 1 (tabOf [0, 1, 1, 2, 2] 3) := fun _ => by kernel_rfl
theorem fB_26_3_0 : FBp [0, 1, 1, 2, 2] 3 0 (tabOf [0, 1, 1, 2, 2] 3) := fun _ => by kernel_rfl
theorem fB_26_3_1 : FBp [0, 1, 1, 2, 2] 3 1 (tabOf [0, 1, 1, 2, 2] 4) := fun _ => by kernel_rfl
theorem fB_26_4_0 : FBp [0, 1, 1, 2, 2] 4 0 (tabOf [0, 1, 1, 2, 2] 4) := fun _ => by kernel_rfl
theorem fB_26_4_1 : FBp [0, 1, 1, 2, 2] 4 1 (tabOf [0, 1, 1, 2, 2] 5) := fun _ => by kernel_rfl
theorem fB_26_5_0 : FBp [0, 1, 1, 2, 2] 5 0 (tabOf [0, 1, 1, 2, 2] 5) := fun _ => by kernel_rfl
theorem fB_26_5_1 : FBp [0, 1, 1, 2, 2] 5 1 (tabOf [0, 1, 1, 2, 2] 6) := fun _ => by kernel_rfl
theorem fB_26_6_0 : FBp [0, 1, 1, 2, 2] 6 0 (tabOf [0, 1, 1, 2, 2] 6) := fun _ => by kernel_rfl
theorem fB_26_6_1 : FBp [0, 1, 1, 2, 2] 6 1 (tabOf [0, 1, 1, 2, 2] 0) := fun _ => by kernel_rfl
theorem fB_27_0_0 : FBp [0, 1, 1, 2, 3] 0 0 (tabOf [0, 1, 1, 2, 3] 0) := fun _ => by kernel_rfl
theorem fB_27_0_1 : FBp [0, 1, 1, 2, 3] 0 1 (tabOf [0, 1, 1, 2, 3] 1) := fun _ => by kernel_rfl
theorem fB_27_1_0 : FBp [0, 1, 1, 2, 3] 1 0 (tabOf [0, 1, 1, 2, 3] 1) := fun _ => by kernel_rfl
theorem fB_27_1_1 : FBp [0, 1, 1, 2, 3] 1 1 (tabOf [0, 1, 1, 2, 3] 2) := fun _ => by kernel_rfl
theorem fB_27_2_0 : FBp [0, 1, 1, 2, 3] 2 0 (tabOf [0, 1, 1, 2, 3] 2) := fun _ => by kernel_rfl
theorem fB_27_2_1 : FBp [0, 1, 1, 2, 3] 2 1 (tabOf [0, 1, 1, 2, 3] 3) := fun _ => by kernel_rfl
theorem fB_27_3_0 : FBp [0, 1, 1, 2, 3] 3 0 (tabOf [0, 1, 1, 2, 3] 3) := fun _ => by kernel_rfl
theorem fB_27_3_1 : FBp [0, 1, 1, 2, 3] 3 1 (tabOf [0, 1, 1, 2, 3] 4) := fun _ => by kernel_rfl
theorem fB_27_4_0 : FBp [0, 1, 1, 2, 3] 4 0 (tabOf [0, 1, 1, 2, 3] 4) := fun _ => by kernel_rfl
theorem fB_27_4_1 : FBp [0, 1, 1, 2, 3] 4 1 (tabOf [0, 1, 1, 2, 3] 5) := fun _ => by kernel_rfl
theorem fB_27_5_0 : FBp [0, 1, 1, 2, 3] 5 0 (tabOf [0, 1, 1, 2, 3] 5) := fun _ => by kernel_rfl
theorem fB_27_5_1 : FBp [0, 1, 1, 2, 3] 5 1 (tabOf [0, 1, 1, 2, 3] 6) := fun _ => by kernel_rfl
theorem fB_27_6_0 : FBp [0, 1, 1, 2, 3] 6 0 (tabOf [0, 1, 1, 2, 3] 6) := fun _ => by kernel_rfl
theorem fB_27_6_1 : FBp [0, 1, 1, 2, 3] 6 1 (tabOf [0, 1, 1, 2, 3] 0) := fun _ => by kernel_rfl
theorem fB_28_0_0 : FBp [0, 1, 2, 0, 0] 0 0 (tabOf [0, 1, 2, 0, 0] 0) := fun _ => by kernel_rfl
theorem fB_28_0_1 : FBp [0, 1, 2, 0, 0] 0 1 (tabOf [0, 1, 2, 0, 0] 1) := fun _ => by kernel_rfl
theorem fB_28_1_0 : FBp [0, 1, 2, 0, 0] 1 0 (tabOf [0, 1, 2, 0, 0] 1) := fun _ => by kernel_rfl
theorem fB_28_1_1 : FBp [0, 1, 2, 0, 0] 1 1 (tabOf [0, 1, 2, 0, 0] 2) := fun _ => by kernel_rfl
theorem fB_28_2_0 : FBp [0, 1, 2, 0, 0] 2 0 (tabOf [0, 1, 2, 0, 0] 2) := fun _ => by kernel_rfl
theorem fB_28_2_1 : FBp [0, 1, 2, 0, 0] 2 1 (tabOf [0, 1, 2, 0, 0] 3) := fun _ => by kernel_rfl
theorem fB_28_3_0 : FBp [0, 1, 2, 0, 0] 3 0 (tabOf [0, 1, 2, 0, 0] 3) := fun _ => by kernel_rfl
theorem fB_28_3_1 : FBp [0, 1, 2, 0, 0] 3 1 (tabOf [0, 1, 2, 0, 0] 4) := fun _ => by kernel_rfl
theorem fB_28_4_0 : FBp [0, 1, 2, 0, 0] 4 0 (tabOf [0, 1, 2, 0, 0] 4) := fun _ => by kernel_rfl
theorem fB_28_4_1 : FBp [0, 1, 2, 0, 0] 4 1 (tabOf [0, 1, 2, 0, 0] 5) := fun _ => by kernel_rfl
theorem fB_28_5_0 : FBp [0, 1, 2, 0, 0] 5 0 (tabOf [0, 1, 2, 0, 0] 5) := fun _ => by kernel_rfl
theorem fB_28_5_1 : FBp [0, 1, 2, 0, 0] 5 1 (tabOf [0, 1, 2, 0, 0] 6) := fun _ => by kernel_rfl
theorem fB_28_6_0 : FBp [0, 1, 2, 0, 0] 6 0 (tabOf [0, 1, 2, 0, 0] 6) := fun _ => by kernel_rfl
theorem fB_28_6_1 : FBp [0, 1, 2, 0, 0] 6 1 (tabOf [0, 1, 2, 0, 0] 0) := fun _ => by kernel_rfl
theorem fB_29_0_0 : FBp [0, 1, 2, 0, 1] 0 0 (tabOf [0, 1, 2, 0, 1] 0) := fun _ => by kernel_rfl
theorem fB_29_0_1 : FBp [0, 1, 2, 0, 1] 0 1 (tabOf [0, 1, 2, 0, 1] 1) := fun _ => by kernel_rfl
theorem fB_29_1_0 : FBp [0, 1, 2, 0, 1] 1 0 (tabOf [0, 1, 2, 0, 1] 1) := fun _ => by kernel_rfl
theorem fB_29_1_1 : FBp [0, 1, 2, 0, 1] 1 1 (tabOf [0, 1, 2, 0, 1] 2) := fun _ => by kernel_rfl
theorem fB_29_2_0 : FBp [0, 1, 2, 0, 1] 2 0 (tabOf [0, 1, 2, 0, 1] 2) := fun _ => by kernel_rfl
theorem fB_29_2_1 : FBp [0, 1, 2, 0, 1] 2 1 (tabOf [0, 1, 2, 0, 1] 3) := fun _ => by kernel_rfl
theorem fB_29_3_0 : FBp [0, 1, 2, 0, 1] 3 0 (tabOf [0, 1, 2, 0, 1] 3) := fun _ => by kernel_rfl
theorem fB_29_3_1 : FBp [0, 1, 2, 0, 1] 3 1 (tabOf [0, 1, 2, 0, 1] 4) := fun _ => by kernel_rfl
theorem fB_29_4_0 : FBp [0, 1, 2, 0, 1] 4 0 (tabOf [0, 1, 2, 0, 1] 4) := fun _ => by kernel_rfl
theorem fB_29_4_1 : FBp [0, 1, 2, 0, 1] 4 1 (tabOf [0, 1, 2, 0, 1] 5) := fun _ => by kernel_rfl
theorem fB_29_5_0 : FBp [0, 1, 2, 0, 1] 5 0 (tabOf [0, 1, 2, 0, 1] 5) := fun _ => by kernel_rfl
theorem fB_29_5_1 : FBp [0, 1, 2, 0, 1] 5 1 (tabOf [0, 1, 2, 0, 1] 6) := fun _ => by kernel_rfl
theorem fB_29_6_0 : FBp [0, 1, 2, 0, 1] 6 0 (tabOf [0, 1, 2, 0, 1] 6) := fun _ => by kernel_rfl
theorem fB_29_6_1 : FBp [0, 1, 2, 0, 1] 6 1 (tabOf [0, 1, 2, 0, 1] 0) := fun _ => by kernel_rfl
theorem fB_30_0_0 : FBp [0, 1, 2, 1, 0] 0 0 (tabOf [0, 1, 2, 1, 0] 0) := fun _ => by kernel_rfl
theorem fB_30_0_1 : FBp [0, 1, 2, 1, 0] 0 1 (tabOf [0, 1, 2, 1, 0] 1) := fun _ => by kernel_rfl
theorem fB_30_1_0 : FBp [0, 1, 2, 1, 0] 1 0 (tabOf [0, 1, 2, 1, 0] 1) := fun _ => by kernel_rfl
theorem fB_30_1_1 : FBp [0, 1, 2, 1, 0] 1 1 (tabOf [0, 1, 2, 1, 0] 2) := fun _ => by kernel_rfl
theorem fB_30_2_0 : FBp [0, 1, 2, 1, 0] 2 0 (tabOf [0, 1, 2, 1, 0] 2) := fun _ => by kernel_rfl
theorem fB_30_2_1 : FBp [0, 1, 2, 1, 0] 2 1 (tabOf [0, 1, 2, 1, 0] 3) := fun _ => by kernel_rfl
theorem fB_30_3_0 : FBp [0, 1, 2, 1, 0] 3 0 (tabOf [0, 1, 2, 1, 0] 3) := fun _ => by kernel_rfl
theorem fB_30_3_1 : FBp [0, 1, 2, 1, 0] 3 1 (tabOf [0, 1, 2, 1, 0] 4) := fun _ => by kernel_rfl
theorem fB_30_4_0 : FBp [0, 1, 2, 1, 0] 4 0 (tabOf [0, 1, 2, 1, 0] 4) := fun _ => by kernel_rfl
theorem fB_30_4_1 : FBp [0, 1, 2, 1, 0] 4 1 (tabOf [0, 1, 2, 1, 0] 5) := fun _ => by kernel_rfl
theorem fB_30_5_0 : FBp [0, 1, 2, 1, 0] 5 0 (tabOf [0, 1, 2, 1, 0] 5) := fun _ => by kernel_rfl
theorem fB_30_5_1 : FBp [0, 1, 2, 1, 0] 5 1 (tabOf [0, 1, 2, 1, 0] 6) := fun _ => by kernel_rfl
theorem fB_30_6_0 : FBp [0, 1, 2, 1, 0] 6 0 (tabOf [0, 1, 2, 1, 0] 6) := fun _ => by kernel_rfl
theorem fB_30_6_1 : FBp [0, 1, 2, 1, 0] 6 1 (tabOf [0, 1, 2, 1, 0] 0) := fun _ => by kernel_rfl
theorem fB_31_0_0 : FBp [0, 1, 2, 1, 1] 0 0 (tabOf [0, 1, 2, 1, 1] 0) := fun _ => by kernel_rfl
theorem fB_31_0_1 : FBp [0, 1, 2, 1, 1] 0 1 (tabOf [0, 1, 2, 1, 1] 1) := fun _ => by kernel_rfl
theorem fB_31_1_0 : FBp [0, 1, 2, 1, 1] 1 0 (tabOf [0, 1, 2, 1, 1] 1) := fun _ => by kernel_rfl
theorem fB_31_1_1 : FBp [0, 1, 2, 1, 1] 1 1 (tabOf [0, 1, 2, 1, 1] 2) := fun _ => by kernel_rfl
theorem fB_31_2_0 : FBp [0, 1, 2, 1, 1] 2 0 (tabOf [0, 1, 2, 1, 1] 2) := fun _ => by kernel_rfl
theorem fB_31_2_1 : FBp [0, 1, 2, 1, 1] 2 1 (tabOf [0, 1, 2, 1, 1] 3) := fun _ => by kernel_rfl
theorem fB_31_3_0 : FBp [0, 1, 2, 1, 1] 3 0 (tabOf [0, 1, 2, 1, 1] 3) := fun _ => by kernel_rfl
theorem fB_31_3_1 : FBp [0, 1, 2, 1, 1] 3 1 (tabOf [0, 1, 2, 1, 1] 4) := fun _ => by kernel_rfl
theorem fB_31_4_0 : FBp [0, 1, 2, 1, 1] 4 0 (tabOf [0, 1, 2, 1, 1] 4) := fun _ => by kernel_rfl
theorem fB_31_4_1 : FBp [0, 1, 2, 1, 1] 4 1 (tabOf [0, 1, 2, 1, 1] 5) := fun _ => by kernel_rfl
theorem fB_31_5_0 : FBp [0, 1, 2, 1, 1] 5 0 (tabOf [0, 1, 2, 1, 1] 5) := fun _ => by kernel_rfl
theorem fB_31_5_1 : FBp [0, 1, 2, 1, 1] 5 1 (tabOf [0, 1, 2, 1, 1] 6) := fun _ => by kernel_rfl
theorem fB_31_6_0 : FBp [0, 1, 2, 1, 1] 6 0 (tabOf [0, 1, 2, 1, 1] 6) := fun _ => by kernel_rfl
theorem fB_31_6_1 : FBp [0, 1, 2, 1, 1] 6 1 (tabOf [0, 1, 2, 1, 1] 0) := fun _ => by kernel_rfl
theorem fB_32_0_0 : FBp [0, 1, 2, 1, 2] 0 0 (tabOf [0, 1, 2, 1, 2] 0) := fun _ => by kernel_rfl
theorem fB_32_0_1 : FBp [0, 1, 2, 1, 2] 0 1 (tabOf [0, 1, 2, 1, 2] 1) := fun _ => by kernel_rfl
theorem fB_32_1_0 : FBp [0, 1, 2, 1, 2] 1 0 (tabOf [0, 1, 2, 1, 2] 1) := fun _ => by kernel_rfl
theorem fB_32_1_1 : FBp [0, 1, 2, 1, 2] 1 1 (tabOf [0, 1, 2, 1, 2] 2) := fun _ => by kernel_rfl
theorem fB_32_2_0 : FBp [0, 1, 2, 1, 2] 2 0 (tabOf [0, 1, 2, 1, 2] 2) := fun _ => by kernel_rfl
theorem fB_32_2_1 : FBp [0, 1, 2, 1, 2] 2 1 (tabOf [0, 1, 2, 1, 2] 3) := fun _ => by kernel_rfl
theorem fB_32_3_0 : FBp [0, 1, 2, 1, 2] 3 0 (tabOf [0, 1, 2, 1, 2] 3) := fun _ => by kernel_rfl
theorem fB_32_3_1 : FBp [0, 1, 2, 1, 2] 3 1 (tabOf [0, 1, 2, 1, 2] 4) := fun _ => by kernel_rfl
theorem fB_32_4_0 : FBp [0, 1, 2, 1, 2] 4 0 (tabOf [0, 1, 2, 1, 2] 4) := fun _ => by kernel_rfl
theorem fB_32_4_1 : FBp [0, 1, 2, 1, 2] 4 1 (tabOf [0, 1, 2, 1, 2] 5) := fun _ => by kernel_rfl
theorem fB_32_5_0 : FBp [0, 1, 2, 1, 2] 5 0 (tabOf [0, 1, 2, 1, 2] 5) := fun _ => by kernel_rfl
theorem fB_32_5_1 : FBp [0, 1, 2, 1, 2] 5 1 (tabOf [0, 1, 2, 1, 2] 6) := fun _ => by kernel_rfl
theorem fB_32_6_0 : FBp [0, 1, 2, 1, 2] 6 0 (tabOf [0, 1, 2, 1, 2] 6) := fun _ => by kernel_rfl
theorem fB_32_6_1 : FBp [0, 1, 2, 1, 2] 6 1 (tabOf [0, 1, 2, 1, 2] 0) := fun _ => by kernel_rfl
theorem fB_33_0_0 : FBp [0, 1, 2, 2, 0] 0 0 (tabOf [0, 1, 2, 2, 0] 0) := fun _ => by kernel_rfl
theorem fB_33_0_1 : FBp [0, 1, 2, 2, 0] 0 1 (tabOf [0, 1, 2, 2, 0] 1) := fun _ => by kernel_rfl
theorem fB_33_1_0 : FBp [0, 1, 2, 2, 0] 1 0 (tabOf [0, 1, 2, 2, 0] 1) := fun _ => by kernel_rfl
theorem fB_33_1_1 : FBp [0, 1, 2, 2, 0] 1 1 (tabOf [0, 1, 2, 2, 0] 2) := fun _ => by kernel_rfl
theorem fB_33_2_0 : FBp [0, 1, 2, 2, 0] 2 0 (tabOf [0, 1, 2, 2, 0] 2) := fun _ => by kernel_rfl
theorem fB_33_2_1 : FBp [0, 1, 2, 2, 0] 2 1 (tabOf [0, 1, 2, 2, 0] 3) := fun _ => by kernel_rfl
theorem fB_33_3_0 : FBp [0, 1, 2, 2, 0] 3 0 (tabOf [0, 1, 2, 2, 0] 3) := fun _ => by kernel_rfl
theorem fB_33_3_1 : FBp [0, 1, 2, 2, 0] 3 1 (tabOf [0, 1, 2, 2, 0] 4) := fun _ => by kernel_rfl
theorem fB_33_4_0 : FBp [0, 1, 2, 2, 0] 4 0 (tabOf [0, 1, 2, 2, 0] 4) := fun _ => by kernel_rfl
theorem fB_33_4_1 : FBp [0, 1, 2, 2, 0] 4 1 (tabOf [0, 1, 2, 2, 0] 5) := fun _ => by kernel_rfl
theorem fB_33_5_0 : FBp [0, 1, 2, 2, 0] 5 0 (tabOf [0, 1, 2, 2, 0] 5) := fun _ => by kernel_rfl
theorem fB_33_5_1 : FBp [0, 1, 2, 2, 0] 5 1 (tabOf [0, 1, 2, 2, 0] 6) := fun _ => by kernel_rfl
theorem fB_33_6_0 : FBp [0, 1, 2, 2, 0] 6 0 (tabOf [0, 1, 2, 2, 0] 6) := fun _ => by kernel_rfl
theorem fB_33_6_1 : FBp [0, 1, 2, 2, 0] 6 1 (tabOf [0, 1, 2, 2, 0] 0) := fun _ => by kernel_rfl
theorem fB_34_0_0 : FBp [0, 1, 2, 2, 1] 0 0 (tabOf [0, 1, 2, 2, 1] 0) := fun _ => by kernel_rfl
theorem fB_34_0_1 : FBp [0, 1, 2, 2, 1] 0 1 (tabOf [0, 1, 2, 2, 1] 1) := fun _ => by kernel_rfl
theorem fB_34_1_0 : FBp [0, 1, 2, 2, 1] 1 0 (tabOf [0, 1, 2, 2, 1] 1) := fun _ => by kernel_rfl
theorem fB_34_1_1 : FBp [0, 1, 2, 2, 1] 1 1 (tabOf [0, 1, 2, 2, 1] 2) := fun _ => by kernel_rfl
theorem fB_34_2_0 : FBp [0, 1, 2, 2, 1] 2 0 (tabOf [0, 1, 2, 2, 1] 2) := fun _ => by kernel_rfl
theorem fB_34_2_1 : FBp [0, 1, 2, 2, 1] 2 1 (tabOf [0, 1, 2, 2, 1] 3) := fun _ => by kernel_rfl
theorem fB_34_3_0 : FBp [0, 1, 2, 2, 1] 3 0 (tabOf [0, 1, 2, 2, 1] 3) := fun _ => by kernel_rfl
theorem fB_34_3_1 : FBp [0, 1, 2, 2, 1] 3 1 (tabOf [0, 1, 2, 2, 1] 4) := fun _ => by kernel_rfl
theorem fB_34_4_0 : FBp [0, 1, 2, 2, 1] 4 0 (tabOf [0, 1, 2, 2, 1] 4) := fun _ => by kernel_rfl
theorem fB_34_4_1 : FBp [0, 1, 2, 2, 1] 4 1 (tabOf [0, 1, 2, 2, 1] 5) := fun _ => by kernel_rfl
theorem fB_34_5_0 : FBp [0, 1, 2, 2, 1] 5 0 (tabOf [0, 1, 2, 2, 1] 5) := fun _ => by kernel_rfl
theorem fB_34_5_1 : FBp [0, 1, 2, 2, 1] 5 1 (tabOf [0, 1, 2, 2, 1] 6) := fun _ => by kernel_rfl
theorem fB_34_6_0 : FBp [0, 1, 2, 2, 1] 6 0 (tabOf [0, 1, 2, 2, 1] 6) := fun _ => by kernel_rfl
theorem fB_34_6_1 : FBp [0, 1, 2, 2, 1] 6 1 (tabOf [0, 1, 2, 2, 1] 0) := fun _ => by kernel_rfl
theorem fB_35_0_0 : FBp [0, 1, 2, 2, 2] 0 0 (tabOf [0, 1, 2, 2, 2] 0) := fun _ => by kernel_rfl
theorem fB_35_0_1 : FBp [0, 1, 2, 2, 2] 0 1 (tabOf [0, 1, 2, 2, 2] 1) := fun _ => by kernel_rfl
theorem fB_35_1_0 : FBp [0, 1, 2, 2, 2] 1 0 (tabOf [0, 1, 2, 2, 2] 1) := fun _ => by kernel_rfl
theorem fB_35_1_1 : FBp [0, 1, 2, 2, 2] 1 1 (tabOf [0, 1, 2, 2, 2] 2) := fun _ => by kernel_rfl
theorem fB_35_2_0 : FBp [0, 1, 2, 2, 2] 2 0 (tabOf [0, 1, 2, 2, 2] 2) := fun _ => by kernel_rfl
theorem fB_35_2_1 : FBp [0, 1, 2, 2, 2] 2 1 (tabOf [0, 1, 2, 2, 2] 3) := fun _ => by kernel_rfl
theorem fB_35_3_0 : FBp [0, 1, 2, 2, 2] 3 0 (tabOf [0, 1, 2, 2, 2] 3) := fun _ => by kernel_rfl
theorem fB_35_3_1 : FBp [0, 1, 2, 2, 2] 3 1 (tabOf [0, 1, 2, 2, 2] 4) := fun _ => by kernel_rfl
theorem fB_35_4_0 : FBp [0, 1, 2, 2, 2] 4 0 (tabOf [0, 1, 2, 2, 2] 4) := fun _ => by kernel_rfl
theorem fB_35_4_1 : FBp [0, 1, 2, 2, 2] 4 1 (tabOf [0, 1, 2, 2, 2] 5) := fun _ => by kernel_rfl
theorem fB_35_5_0 : FBp [0, 1, 2, 2, 2] 5 0 (tabOf [0, 1, 2, 2, 2] 5) := fun _ => by kernel_rfl
theorem fB_35_5_1 : FBp [0, 1, 2, 2, 2] 5 1 (tabOf [0, 1, 2, 2, 2] 6) := fun _ => by kernel_rfl
theorem fB_35_6_0 : FBp [0, 1, 2, 2, 2] 6 0 (tabOf [0, 1, 2, 2, 2] 6) := fun _ => by kernel_rfl
theorem fB_35_6_1 : FBp [0, 1, 2, 2, 2] 6 1 (tabOf [0, 1, 2, 2, 2] 0) := fun _ => by kernel_rfl
theorem fB_36_0_0 : FBp [0, 1, 2, 2, 3] 0 0 (tabOf [0, 1, 2, 2, 3] 0) := fun _ => by kernel_rfl
theorem fB_36_0_1 : FBp [0, 1, 2, 2, 3] 0 1 (tabOf [0, 1, 2, 2, 3] 1) := fun _ => by kernel_rfl
theorem fB_36_1_0 : FBp [0, 1, 2, 2, 3] 1 0 (tabOf [0, 1, 2, 2, 3] 1) := fun _ => by kernel_rfl
theorem fB_36_1_1 : FBp [0, 1, 2, 2, 3] 1 1 (tabOf [0, 1, 2, 2, 3] 2) := fun _ => by kernel_rfl
theorem fB_36_2_0 : FBp [0, 1, 2, 2, 3] 2 0 (tabOf [0, 1, 2, 2, 3] 2) := fun _ => by kernel_rfl
theorem fB_36_2_1 : FBp [0, 1, 2, 2, 3] 2 1 (tabOf [0, 1, 2, 2, 3] 3) := fun _ => by kernel_rfl
theorem fB_36_3_0 : FBp [0, 1, 2, 2, 3] 3 0 (tabOf [0, 1, 2, 2, 3] 3) := fun _ => by kernel_rfl
theorem fB_36_3_1 : FBp [0, 1, 2, 2, 3] 3 1 (tabOf [0, 1, 2, 2, 3] 4) := fun _ => by kernel_rfl
theorem fB_36_4_0 : FBp [0, 1, 2, 2, 3] 4 0 (tabOf [0, 1, 2, 2, 3] 4) := fun _ => by kernel_rfl
theorem fB_36_4_1 : FBp [0, 1, 2, 2, 3] 4 1 (tabOf [0, 1, 2, 2, 3] 5) := fun _ => by kernel_rfl
theorem fB_36_5_0 : FBp [0, 1, 2, 2, 3] 5 0 (tabOf [0, 1, 2, 2, 3] 5) := fun _ => by kernel_rfl
theorem fB_36_5_1 : FBp [0, 1, 2, 2, 3] 5 1 (tabOf [0, 1, 2, 2, 3] 6) := fun _ => by kernel_rfl
theorem fB_36_6_0 : FBp [0, 1, 2, 2, 3] 6 0 (tabOf [0, 1, 2, 2, 3] 6) := fun _ => by kernel_rfl
theorem fB_36_6_1 : FBp [0, 1, 2, 2, 3] 6 1 (tabOf [0, 1, 2, 2, 3] 0) := fun _ => by kernel_rfl
theorem fB_37_0_0 : FBp [0, 1, 2, 3, 0] 0 0 (tabOf [0, 1, 2, 3, 0] 0) := fun _ => by kernel_rfl
theorem fB_37_0_1 : FBp [0, 1, 2, 3, 0] 0 1 (tabOf [0, 1, 2, 3, 0] 1) := fun _ => by kernel_rfl
theorem fB_37_1_0 : FBp [0, 1, 2, 3, 0] 1 0 (tabOf [0, 1, 2, 3, 0] 1) := fun _ => by kernel_rfl
theorem fB_37_1_1 : FBp [0, 1, 2, 3, 0] 1 1 (tabOf [0, 1, 2, 3, 0] 2) := fun _ => by kernel_rfl
theorem fB_37_2_0 : FBp [0, 1, 2, 3, 0] 2 0 (tabOf [0, 1, 2, 3, 0] 2) := fun _ => by kernel_rfl
theorem fB_37_2_1 : FBp [0, 1, 2, 3, 0] 2 1 (tabOf [0, 1, 2, 3, 0] 3) := fun _ => by kernel_rfl
theorem fB_37_3_0 : FBp [0, 1, 2, 3, 0] 3 0 (tabOf [0, 1, 2, 3, 0] 3) := fun _ => by kernel_rfl
theorem fB_37_3_1 : FBp [0, 1, 2, 3, 0] 3 1 (tabOf [0, 1, 2, 3, 0] 4) := fun _ => by kernel_rfl
theorem fB_37_4_0 : FBp [0, 1, 2, 3, 0] 4 0 (tabOf [0, 1, 2, 3, 0] 4) := fun _ => by kernel_rfl
theorem fB_37_4_1 : FBp [0, 1, 2, 3, 0] 4 1 (tabOf [0, 1, 2, 3, 0] 5) := fun _ => by kernel_rfl
theorem fB_37_5_0 : FBp [0, 1, 2, 3, 0] 5 0 (tabOf [0, 1, 2, 3, 0] 5) := fun _ => by kernel_rfl
theorem fB_37_5_1 : FBp [0, 1, 2, 3, 0] 5 1 (tabOf [0, 1, 2, 3, 0] 6) := fun _ => by kernel_rfl
theorem fB_37_6_0 : FBp [0, 1, 2, 3, 0] 6 0 (tabOf [0, 1, 2, 3, 0] 6) := fun _ => by kernel_rfl
theorem fB_37_6_1 : FBp [0, 1, 2, 3, 0] 6 1 (tabOf [0, 1, 2, 3, 0] 0) := fun _ => by kernel_rfl
theorem fB_38_0_0 : FBp [0, 1, 2, 3, 1] 0 0 (tabOf [0, 1, 2, 3, 1] 0) := fun _ => by kernel_rfl
theorem fB_38_0_1 : FBp [0, 1, 2, 3, 1] 0 1 (tabOf [0, 1, 2, 3, 1] 1) := fun _ => by kernel_rfl
theorem fB_38_1_0 : FBp [0, 1, 2, 3, 1] 1 0 (tabOf [0, 1, 2, 3, 1] 1) := fun _ => by kernel_rfl
theorem fB_38_1_1 : FBp [0, 1, 2, 3, 1] 1 1 (tabOf [0, 1, 2, 3, 1] 2) := fun _ => by kernel_rfl
theorem fB_38_2_0 : FBp [0, 1, 2, 3, 1] 2 0 (tabOf [0, 1, 2, 3, 1] 2) := fun _ => by kernel_rfl
theorem fB_38_2_1 : FBp [0, 1, 2, 3, 1] 2 1 (tabOf [0, 1, 2, 3, 1] 3) := fun _ => by kernel_rfl
theorem fB_38_3_0 : FBp [0, 1, 2, 3, 1] 3 0 (tabOf [0, 1, 2, 3, 1] 3) := fun _ => by kernel_rfl
theorem fB_38_3_1 : FBp [0, 1, 2, 3, 1] 3 1 (tabOf [0, 1, 2, 3, 1] 4) := fun _ => by kernel_rfl
theorem fB_38_4_0 : FBp [0, 1, 2, 3, 1] 4 0 (tabOf [0, 1, 2, 3, 1] 4) := fun _ => by kernel_rfl
theorem fB_38_4_1 : FBp [0, 1, 2, 3, 1] 4 1 (tabOf [0, 1, 2, 3, 1] 5) := fun _ => by kernel_rfl
theorem fB_38_5_0 : FBp [0, 1, 2, 3, 1] 5 0 (tabOf [0, 1, 2, 3, 1] 5) := fun _ => by kernel_rfl
theorem fB_38_5_1 : FBp [0, 1, 2, 3, 1] 5 1 (tabOf [0, 1, 2, 3, 1] 6) := fun _ => by kernel_rfl
theorem fB_38_6_0 : FBp [0, 1, 2, 3, 1] 6 0 (tabOf [0, 1, 2, 3, 1] 6) := fun _ => by kernel_rfl
theorem fB_38_6_1 : FBp [0, 1, 2, 3, 1] 6 1 (tabOf [0, 1, 2, 3, 1] 0) := fun _ => by kernel_rfl
theorem fB_39_0_0 : FBp [0, 1, 2, 3, 2] 0 0 (tabOf [0, 1, 2, 3, 2] 0) := fun _ => by kernel_rfl
theorem fB_39_0_1 : FBp [0, 1, 2, 3, 2] 0 1 (tabOf [0, 1, 2, 3, 2] 1) := fun _ => by kernel_rfl
theorem fB_39_1_0 : FBp [0, 1, 2, 3, 2] 1 0 (tabOf [0, 1, 2, 3, 2] 1) := fun _ => by kernel_rfl
theorem fB_39_1_1 : FBp [0, 1, 2, 3, 2] 1 1 (tabOf [0, 1, 2, 3, 2] 2) := fun _ => by kernel_rfl
theorem fB_39_2_0 : FBp [0, 1, 2, 3, 2] 2 0 (tabOf [0, 1, 2, 3, 2] 2) := fun _ => by kernel_rfl
theorem fB_39_2_1 : FBp [0, 1, 2, 3, 2] 2 1 (tabOf [0, 1, 2, 3, 2] 3) := fun _ => by kernel_rfl
theorem fB_39_3_0 : FBp [0, 1, 2, 3, 2] 3 0 (tabOf [0, 1, 2, 3, 2] 3) := fun _ => by kernel_rfl
theorem fB_39_3_1 : FBp [0, 1, 2, 3, 2] 3 1 (tabOf [0, 1, 2, 3, 2] 4) := fun _ => by kernel_rfl
theorem fB_39_4_0 : FBp [0, 1, 2, 3, 2] 4 0 (tabOf [0, 1, 2, 3, 2] 4) := fun _ => by kernel_rfl
theorem fB_39_4_1 : FBp [0, 1, 2, 3, 2] 4 1 (tabOf [0, 1, 2, 3, 2] 5) := fun _ => by kernel_rfl
theorem fB_39_5_0 : FBp [0, 1, 2, 3, 2] 5 0 (tabOf [0, 1, 2, 3, 2] 5) := fun _ => by kernel_rfl
theorem fB_39_5_1 : FBp [0, 1, 2, 3, 2] 5 1 (tabOf [0, 1, 2, 3, 2] 6) := fun _ => by kernel_rfl
theorem fB_39_6_0 : FBp [0, 1, 2, 3, 2] 6 0 (tabOf [0, 1, 2, 3, 2] 6) := fun _ => by kernel_rfl
theorem fB_39_6_1 : FBp [0, 1, 2, 3, 2] 6 1 (tabOf [0, 1, 2, 3, 2] 0) := fun _ => by kernel_rfl
theorem fB_40_0_0 : FBp [0, 1, 2, 3, 3] 0 0 (tabOf [0, 1, 2, 3, 3] 0) := fun _ => by kernel_rfl
theorem fB_40_0_1 : FBp [0, 1, 2, 3, 3] 0 1 (tabOf [0, 1, 2, 3, 3] 1) := fun _ => by kernel_rfl
theorem fB_40_1_0 : FBp [0, 1, 2, 3, 3] 1 0 (tabOf [0, 1, 2, 3, 3] 1) := fun _ => by kernel_rfl
theorem fB_40_1_1 : FBp [0, 1, 2, 3, 3] 1 1 (tabOf [0, 1, 2, 3, 3] 2) := fun _ => by kernel_rfl
theorem fB_40_2_0 : FBp [0, 1, 2, 3, 3] 2 0 (tabOf [0, 1, 2, 3, 3] 2) := fun _ => by kernel_rfl
theorem fB_40_2_1 : FBp [0, 1, 2, 3, 3] 2 1 (tabOf [0, 1, 2, 3, 3] 3) := fun _ => by kernel_rfl
theorem fB_40_3_0 : FBp [0, 1, 2, 3, 3] 3 0 (tabOf [0, 1, 2, 3, 3] 3) := fun _ => by kernel_rfl
theorem fB_40_3_1 : FBp [0, 1, 2, 3, 3] 3 1 (tabOf [0, 1, 2, 3, 3] 4) := fun _ => by kernel_rfl
theorem fB_40_4_0 : FBp [0, 1, 2, 3, 3] 4 0 (tabOf [0, 1, 2, 3, 3] 4) := fun _ => by kernel_rfl
theorem fB_40_4_1 : FBp [0, 1, 2, 3, 3] 4 1 (tabOf [0, 1, 2, 3, 3] 5) := fun _ => by kernel_rfl
theorem fB_40_5_0 : FBp [0, 1, 2, 3, 3] 5 0 (tabOf [0, 1, 2, 3, 3] 5) := fun _ => by kernel_rfl
theorem fB_40_5_1 : FBp [0, 1, 2, 3, 3] 5 1 (tabOf [0, 1, 2, 3, 3] 6) := fun _ => by kernel_rfl
theorem fB_40_6_0 : FBp [0, 1, 2, 3, 3] 6 0 (tabOf [0, 1, 2, 3, 3] 6) := fun _ => by kernel_rfl
theorem fB_40_6_1 : FBp [0, 1, 2, 3, 3] 6 1 (tabOf [0, 1, 2, 3, 3] 0) := fun _ => by kernel_rfl
theorem fB_41_0_0 : FBp [0, 1, 2, 3, 4] 0 0 (tabOf [0, 1, 2, 3, 4] 0) := fun _ => by kernel_rfl
theorem fB_41_0_1 : FBp [0, 1, 2, 3, 4] 0 1 (tabOf [0, 1, 2, 3, 4] 1) := fun _ => by kernel_rfl
theorem fB_41_1_0 : FBp [0, 1, 2, 3, 4] 1 0 (tabOf [0, 1, 2, 3, 4] 1) := fun _ => by kernel_rfl
theorem fB_41_1_1 : FBp [0, 1, 2, 3, 4] 1 1 (tabOf [0, 1, 2, 3, 4] 2) := fun _ => by kernel_rfl
theorem fB_41_2_0 : FBp [0, 1, 2, 3, 4] 2 0 (tabOf [0, 1, 2, 3, 4] 2) := fun _ => by kernel_rfl
theorem fB_41_2_1 : FBp [0, 1, 2, 3, 4] 2 1 (tabOf [0, 1, 2, 3, 4] 3) := fun _ => by kernel_rfl
theorem fB_41_3_0 : FBp [0, 1, 2, 3, 4] 3 0 (tabOf [0, 1, 2, 3, 4] 3) := fun _ => by kernel_rfl
theorem fB_41_3_1 : FBp [0, 1, 2, 3, 4] 3 1 (tabOf [0, 1, 2, 3, 4] 4) := fun _ => by kernel_rfl
theorem fB_41_4_0 : FBp [0, 1, 2, 3, 4] 4 0 (tabOf [0, 1, 2, 3, 4] 4) := fun _ => by kernel_rfl
theorem fB_41_4_1 : FBp [0, 1, 2, 3, 4] 4 1 (tabOf [0, 1, 2, 3, 4] 5) := fun _ => by kernel_rfl
theorem fB_41_5_0 : FBp [0, 1, 2, 3, 4] 5 0 (tabOf [0, 1, 2, 3, 4] 5) := fun _ => by kernel_rfl
theorem fB_41_5_1 : FBp [0, 1, 2, 3, 4] 5 1 (tabOf [0, 1, 2, 3, 4] 6) := fun _ => by kernel_rfl
theorem fB_41_6_0 : FBp [0, 1, 2, 3, 4] 6 0 (tabOf [0, 1, 2, 3, 4] 6) := fun _ => by kernel_rfl
theorem fB_41_6_1 : FBp [0, 1, 2, 3, 4] 6 1 (tabOf [0, 1, 2, 3, 4] 0) := fun _ => by kernel_rfl
def bare_0 : Sg := [40, 40, 40, 40, 40, 41, 41, 41, 41, 41]
theorem fC_0_0 : FCp (tabOf [0, 0, 0, 0, 0] 0) bare_0 := fun _ => by kernel_rfl
theorem fC_0_1 : FCp (tabOf [0, 0, 0, 0, 0] 1) bare_0 := fun _ => by kernel_rfl
theorem fC_0_2 : FCp (tabOf [0, 0, 0, 0, 0] 2) bare_0 := fun _ => by kernel_rfl
theorem fC_0_3 : FCp (tabOf [0, 0, 0, 0, 0] 3) bare_0 := fun _ => by kernel_rfl
theorem fC_0_4 : FCp (tabOf [0, 0, 0, 0, 0] 4) bare_0 := fun _ => by kernel_rfl
theorem fC_0_5 : FCp (tabOf [0, 0, 0, 0, 0] 5) bare_0 := fun _ => by kernel_rfl
theorem fC_0_6 : FCp (tabOf [0, 0, 0, 0, 0] 6) bare_0 := fun _ => by kernel_rfl
theorem fD_0 : FDp [0, 0, 0, 0, 0] bare_0 [0, 1, 2, 3, 4] := fun _ => by kernel_rfl
def bare_1 : Sg := [40, 40, 40, 40, 41, 41, 41, 41, 40, 41]
theorem fC_1_0 : FCp (tabOf [0, 0, 0, 0, 1] 0) bare_1 := fun _ => by kernel_rfl
theorem fC_1_1 : FCp (tabOf [0, 0, 0, 0, 1] 1) bare_1 := fun _ => by kernel_rfl
theorem fC_1_2 : FCp (tabOf [0, 0, 0, 0, 1] 2) bare_1 := fun _ => by kernel_rfl
theorem fC_1_3 : FCp (tabOf [0, 0, 0, 0, 1] 3) bare_1 := fun _ => by kernel_rfl
theorem fC_1_4 : FCp (tabOf [0, 0, 0, 0, 1] 4) bare_1 := fun _ => by kernel_rfl
theorem fC_1_5 : FCp (tabOf [0, 0, 0, 0, 1] 5) bare_1 := fun _ => by kernel_rfl
theorem fC_1_6 : FCp (tabOf [0, 0, 0, 0, 1] 6) bare_1 := fun _ => by kernel_rfl
theorem fD_1 : FDp [0, 0, 0, 0, 1] bare_1 [0, 1, 2, 3, 0] := fun _ => by kernel_rfl
def bare_2 : Sg := [40, 40, 40, 40, 41, 41, 41, 40, 41, 41]
theorem fC_2_0 : FCp (tabOf [0, 0, 0, 1, 0] 0) bare_2 := fun _ => by kernel_rfl
theorem fC_2_1 : FCp (tabOf [0, 0, 0, 1, 0] 1) bare_2 := fun _ => by kernel_rfl
theorem fC_2_2 : FCp (tabOf [0, 0, 0, 1, 0] 2) bare_2 := fun _ => by kernel_rfl
theorem fC_2_3 : FCp (tabOf [0, 0, 0, 1, 0] 3) bare_2 := fun _ => by kernel_rfl
theorem fC_2_4 : FCp (tabOf [0, 0, 0, 1, 0] 4) bare_2 := fun _ => by kernel_rfl
theorem fC_2_5 : FCp (tabOf [0, 0, 0, 1, 0] 5) bare_2 := fun _ => by kernel_rfl
theorem fC_2_6 : FCp (tabOf [0, 0, 0, 1, 0] 6) bare_2 := fun _ => by kernel_rfl
theorem fD_2 : FDp [0, 0, 0, 1, 0] bare_2 [0, 1, 2, 3, 1] := fun _ => by kernel_rfl
def bare_3 : Sg := [40, 40, 40, 41, 41, 41, 40, 40, 41, 41]
theorem fC_3_0 : FCp (tabOf [0, 0, 0, 1, 1] 0) bare_3 := fun _ => by kernel_rfl
theorem fC_3_1 : FCp (tabOf [0, 0, 0, 1, 1] 1) bare_3 := fun _ => by kernel_rfl
theorem fC_3_2 : FCp (tabOf [0, 0, 0, 1, 1] 2) bare_3 := fun _ => by kernel_rfl
theorem fC_3_3 : FCp (tabOf [0, 0, 0, 1, 1] 3) bare_3 := fun _ => by kernel_rfl
theorem fC_3_4 : FCp (tabOf [0, 0, 0, 1, 1] 4) bare_3 := fun _ => by kernel_rfl
theorem fC_3_5 : FCp (tabOf [0, 0, 0, 1, 1] 5) bare_3 := fun _ => by kernel_rfl
theorem fC_3_6 : FCp (tabOf [0, 0, 0, 1, 1] 6) bare_3 := fun _ => by kernel_rfl
theorem fD_3 : FDp [0, 0, 0, 1, 1] bare_3 [0, 1, 2, 0, 1] := fun _ => by kernel_rfl
def bare_4 : Sg := [40, 40, 40, 41, 41, 41, 40, 41, 40, 41]
theorem fC_4_0 : FCp (tabOf [0, 0, 0, 1, 2] 0) bare_4 := fun _ => by kernel_rfl
theorem fC_4_1 : FCp (tabOf [0, 0, 0, 1, 2] 1) bare_4 := fun _ => by kernel_rfl
theorem fC_4_2 : FCp (tabOf [0, 0, 0, 1, 2] 2) bare_4 := fun _ => by kernel_rfl
theorem fC_4_3 : FCp (tabOf [0, 0, 0, 1, 2] 3) bare_4 := fun _ => by kernel_rfl
theorem fC_4_4 : FCp (tabOf [0, 0, 0, 1, 2] 4) bare_4 := fun _ => by kernel_rfl
theorem fC_4_5 : FCp (tabOf [0, 0, 0, 1, 2] 5) bare_4 := fun _ => by kernel_rfl
theorem fC_4_6 : FCp (tabOf [0, 0, 0, 1, 2] 6) bare_4 := fun _ => by kernel_rfl
theorem fD_4 : FDp [0, 0, 0, 1, 2] bare_4 [0, 1, 2, 0, 0] := fun _ => by kernel_rfl
def bare_5 : Sg := [40, 40, 40, 40, 41, 41, 40, 41, 41, 41]
theorem fC_5_0 : FCp (tabOf [0, 0, 1, 0, 0] 0) bare_5 := fun _ => by kernel_rfl
theorem fC_5_1 : FCp (tabOf [0, 0, 1, 0, 0] 1) bare_5 := fun _ => by kernel_rfl
theorem fC_5_2 : FCp (tabOf [0, 0, 1, 0, 0] 2) bare_5 := fun _ => by kernel_rfl
theorem fC_5_3 : FCp (tabOf [0, 0, 1, 0, 0] 3) bare_5 := fun _ => by kernel_rfl
theorem fC_5_4 : FCp (tabOf [0, 0, 1, 0, 0] 4) bare_5 := fun _ => by kernel_rfl
theorem fC_5_5 : FCp (tabOf [0, 0, 1, 0, 0] 5) bare_5 := fun _ => by kernel_rfl
theorem fC_5_6 : FCp (tabOf [0, 0, 1, 0, 0] 6) bare_5 := fun _ => by kernel_rfl
theorem fD_5 : FDp [0, 0, 1, 0, 0] bare_5 [0, 1, 2, 3, 2] := fun _ => by kernel_rfl
def bare_6 : Sg := [40, 40, 40, 41, 41, 40, 41, 40, 41, 41]
theorem fC_6_0 : FCp (tabOf [0, 0, 1, 0, 1] 0) bare_6 := fun _ => by kernel_rfl
theorem fC_6_1 : FCp (tabOf [0, 0, 1, 0, 1] 1) bare_6 := fun _ => by kernel_rfl
theorem fC_6_2 : FCp (tabOf [0, 0, 1, 0, 1] 2) bare_6 := fun _ => by kernel_rfl
theorem fC_6_3 : FCp (tabOf [0, 0, 1, 0, 1] 3) bare_6 := fun _ => by kernel_rfl
theorem fC_6_4 : FCp (tabOf [0, 0, 1, 0, 1] 4) bare_6 := fun _ => by kernel_rfl
theorem fC_6_5 : FCp (tabOf [0, 0, 1, 0, 1] 5) bare_6 := fun _ => by kernel_rfl
theorem fC_6_6 : FCp (tabOf [0, 0, 1, 0, 1] 6) bare_6 := fun _ => by kernel_rfl
theorem fD_6 : FDp [0, 0, 1, 0, 1] bare_6 [0, 1, 2, 1, 1] := fun _ => by kernel_rfl
def bare_7 : Sg := [40, 40, 40, 41, 41, 40, 40, 41, 41, 41]
theorem fC_7_0 : FCp (tabOf [0, 0, 1, 1, 0] 0) bare_7 := fun _ => by kernel_rfl
theorem fC_7_1 : FCp (tabOf [0, 0, 1, 1, 0] 1) bare_7 := fun _ => by kernel_rfl
theorem fC_7_2 : FCp (tabOf [0, 0, 1, 1, 0] 2) bare_7 := fun _ => by kernel_rfl
theorem fC_7_3 : FCp (tabOf [0, 0, 1, 1, 0] 3) bare_7 := fun _ => by kernel_rfl
theorem fC_7_4 : FCp (tabOf [0, 0, 1, 1, 0] 4) bare_7 := fun _ => by kernel_rfl
theorem fC_7_5 : FCp (tabOf [0, 0, 1, 1, 0] 5) bare_7 := fun _ => by kernel_rfl
theorem fC_7_6 : FCp (tabOf [0, 0, 1, 1, 0] 6) bare_7 := fun _ => by kernel_rfl
theorem fD_7 : FDp [0, 0, 1, 1, 0] bare_7 [0, 1, 2, 1, 2] := fun _ => by kernel_rfl
def bare_8 : Sg := [40, 40, 41, 41, 40, 40, 40, 41, 41, 41]
theorem fC_8_0 : FCp (tabOf [0, 0, 1, 1, 1] 0) bare_8 := fun _ => by kernel_rfl
theorem fC_8_1 : FCp (tabOf [0, 0, 1, 1, 1] 1) bare_8 := fun _ => by kernel_rfl
theorem fC_8_2 : FCp (tabOf [0, 0, 1, 1, 1] 2) bare_8 := fun _ => by kernel_rfl
theorem fC_8_3 : FCp (tabOf [0, 0, 1, 1, 1] 3) bare_8 := fun _ => by kernel_rfl
theorem fC_8_4 : FCp (tabOf [0, 0, 1, 1, 1] 4) bare_8 := fun _ => by kernel_rfl
theorem fC_8_5 : FCp (tabOf [0, 0, 1, 1, 1] 5) bare_8 := fun _ => by kernel_rfl
theorem fC_8_6 : FCp (tabOf [0, 0, 1, 1, 1] 6) bare_8 := fun _ => by kernel_rfl
theorem fD_8 : FDp [0, 0, 1, 1, 1] bare_8 [0, 1, 0, 1, 2] := fun _ => by kernel_rfl
def bare_9 : Sg := [40, 40, 41, 41, 40, 40, 41, 41, 40, 41]
theorem fC_9_0 : FCp (tabOf [0, 0, 1, 1, 2] 0) bare_9 := fun _ => by kernel_rfl
theorem fC_9_1 : FCp (tabOf [0, 0, 1, 1, 2] 1) bare_9 := fun _ => by kernel_rfl
theorem fC_9_2 : FCp (tabOf [0, 0, 1, 1, 2] 2) bare_9 := fun _ => by kernel_rfl
theorem fC_9_3 : FCp (tabOf [0, 0, 1, 1, 2] 3) bare_9 := fun _ => by kernel_rfl
theorem fC_9_4 : FCp (tabOf [0, 0, 1, 1, 2] 4) bare_9 := fun _ => by kernel_rfl
theorem fC_9_5 : FCp (tabOf [0, 0, 1, 1, 2] 5) bare_9 := fun _ => by kernel_rfl
theorem fC_9_6 : FCp (tabOf [0, 0, 1, 1, 2] 6) bare_9 := fun _ => by kernel_rfl
theorem fD_9 : FDp [0, 0, 1, 1, 2] bare_9 [0, 1, 0, 1, 0] := fun _ => by kernel_rfl
def bare_10 : Sg := [40, 40, 40, 41, 41, 40, 41, 41, 40, 41]
theorem fC_10_0 : FCp (tabOf [0, 0, 1, 2, 0] 0) bare_10 := fun _ => by kernel_rfl
theorem fC_10_1 : FCp (tabOf [0, 0, 1, 2, 0] 1) bare_10 := fun _ => by kernel_rfl
theorem fC_10_2 : FCp (tabOf [0, 0, 1, 2, 0] 2) bare_10 := fun _ => by kernel_rfl
theorem fC_10_3 : FCp (tabOf [0, 0, 1, 2, 0] 3) bare_10 := fun _ => by kernel_rfl
theorem fC_10_4 : FCp (tabOf [0, 0, 1, 2, 0] 4) bare_10 := fun _ => by kernel_rfl
theorem fC_10_5 : FCp (tabOf [0, 0, 1, 2, 0] 5) bare_10 := fun _ => by kernel_rfl
theorem fC_10_6 : FCp (tabOf [0, 0, 1, 2, 0] 6) bare_10 := fun _ => by kernel_rfl
theorem fD_10 : FDp [0, 0, 1, 2, 0] bare_10 [0, 1, 2, 1, 0] := fun _ => by kernel_rfl
def bare_11 : Sg := [40, 40, 41, 41, 40, 40, 41, 40, 41, 41]
theorem fC_11_0 : FCp (tabOf [0, 0, 1, 2, 1] 0) bare_11 := fun _ => by kernel_rfl
theorem fC_11_1 : FCp (tabOf [0, 0, 1, 2, 1] 1) bare_11 := fun _ => by kernel_rfl
theorem fC_11_2 : FCp (tabOf [0, 0, 1, 2, 1] 2) bare_11 := fun _ => by kernel_rfl
theorem fC_11_3 : FCp (tabOf [0, 0, 1, 2, 1] 3) bare_11 := fun _ => by kernel_rfl
theorem fC_11_4 : FCp (tabOf [0, 0, 1, 2, 1] 4) bare_11 := fun _ => by kernel_rfl
theorem fC_11_5 : FCp (tabOf [0, 0, 1, 2, 1] 5) bare_11 := fun _ => by kernel_rfl
theorem fC_11_6 : FCp (tabOf [0, 0, 1, 2, 1] 6) bare_11 := fun _ => by kernel_rfl
theorem fD_11 : FDp [0, 0, 1, 2, 1] bare_11 [0, 1, 0, 1, 1] := fun _ => by kernel_rfl
def bare_12 : Sg := [40, 40, 41, 41, 40, 41, 40, 40, 41, 41]
theorem fC_12_0 : FCp (tabOf [0, 0, 1, 2, 2] 0) bare_12 := fun _ => by kernel_rfl
theorem fC_12_1 : FCp (tabOf [0, 0, 1, 2, 2] 1) bare_12 := fun _ => by kernel_rfl
theorem fC_12_2 : FCp (tabOf [0, 0, 1, 2, 2] 2) bare_12 := fun _ => by kernel_rfl
theorem fC_12_3 : FCp (tabOf [0, 0, 1, 2, 2] 3) bare_12 := fun _ => by kernel_rfl
theorem fC_12_4 : FCp (tabOf [0, 0, 1, 2, 2] 4) bare_12 := fun _ => by kernel_rfl
theorem fC_12_5 : FCp (tabOf [0, 0, 1, 2, 2] 5) bare_12 := fun _ => by kernel_rfl
theorem fC_12_6 : FCp (tabOf [0, 0, 1, 2, 2] 6) bare_12 := fun _ => by kernel_rfl
theorem fD_12 : FDp [0, 0, 1, 2, 2] bare_12 [0, 1, 0, 0, 1] := fun _ => by kernel_rfl
def bare_13 : Sg := [40, 40, 41, 41, 40, 41, 40, 41, 40, 41]
theorem fC_13_0 : FCp (tabOf [0, 0, 1, 2, 3] 0) bare_13 := fun _ => by kernel_rfl
theorem fC_13_1 : FCp (tabOf [0, 0, 1, 2, 3] 1) bare_13 := fun _ => by kernel_rfl
theorem fC_13_2 : FCp (tabOf [0, 0, 1, 2, 3] 2) bare_13 := fun _ => by kernel_rfl
theorem fC_13_3 : FCp (tabOf [0, 0, 1, 2, 3] 3) bare_13 := fun _ => by kernel_rfl
theorem fC_13_4 : FCp (tabOf [0, 0, 1, 2, 3] 4) bare_13 := fun _ => by kernel_rfl
theorem fC_13_5 : FCp (tabOf [0, 0, 1, 2, 3] 5) bare_13 := fun _ => by kernel_rfl
theorem fC_13_6 : FCp (tabOf [0, 0, 1, 2, 3] 6) bare_13 := fun _ => by kernel_rfl
theorem fD_13 : FDp [0, 0, 1, 2, 3] bare_13 [0, 1, 0, 0, 0] := fun _ => by kernel_rfl
def bare_14 : Sg := [40, 40, 40, 40, 41, 40, 41, 41, 41, 41]
theorem fC_14_0 : FCp (tabOf [0, 1, 0, 0, 0] 0) bare_14 := fun _ => by kernel_rfl
theorem fC_14_1 : FCp (tabOf [0, 1, 0, 0, 0] 1) bare_14 := fun _ => by kernel_rfl
theorem fC_14_2 : FCp (tabOf [0, 1, 0, 0, 0] 2) bare_14 := fun _ => by kernel_rfl
theorem fC_14_3 : FCp (tabOf [0, 1, 0, 0, 0] 3) bare_14 := fun _ => by kernel_rfl
theorem fC_14_4 : FCp (tabOf [0, 1, 0, 0, 0] 4) bare_14 := fun _ => by kernel_rfl
theorem fC_14_5 : FCp (tabOf [0, 1, 0, 0, 0] 5) bare_14 := fun _ => by kernel_rfl
theorem fC_14_6 : FCp (tabOf [0, 1, 0, 0, 0] 6) bare_14 := fun _ => by kernel_rfl
theorem fD_14 : FDp [0, 1, 0, 0, 0] bare_14 [0, 1, 2, 3, 3] := fun _ => by kernel_rfl
def bare_15 : Sg := [40, 40, 40, 41, 40, 41, 41, 40, 41, 41]
theorem fC_15_0 : FCp (tabOf [0, 1, 0, 0, 1] 0) bare_15 := fun _ => by kernel_rfl
theorem fC_15_1 : FCp (tabOf [0, 1, 0, 0, 1] 1) bare_15 := fun _ => by kernel_rfl
theorem fC_15_2 : FCp (tabOf [0, 1, 0, 0, 1] 2) bare_15 := fun _ => by kernel_rfl
theorem fC_15_3 : FCp (tabOf [0, 1, 0, 0, 1] 3) bare_15 := fun _ => by kernel_rfl
theorem fC_15_4 : FCp (tabOf [0, 1, 0, 0, 1] 4) bare_15 := fun _ => by kernel_rfl
theorem fC_15_5 : FCp (tabOf [0, 1, 0, 0, 1] 5) bare_15 := fun _ => by kernel_rfl
theorem fC_15_6 : FCp (tabOf [0, 1, 0, 0, 1] 6) bare_15 := fun _ => by kernel_rfl
theorem fD_15 : FDp [0, 1, 0, 0, 1] bare_15 [0, 1, 2, 2, 1] := fun _ => by kernel_rfl
def bare_16 : Sg := [40, 40, 40, 41, 40, 41, 40, 41, 41, 41]
theorem fC_16_0 : FCp (tabOf [0, 1, 0, 1, 0] 0) bare_16 := fun _ => by kernel_rfl
theorem fC_16_1 : FCp (tabOf [0, 1, 0, 1, 0] 1) bare_16 := fun _ => by kernel_rfl
theorem fC_16_2 : FCp (tabOf [0, 1, 0, 1, 0] 2) bare_16 := fun _ => by kernel_rfl
theorem fC_16_3 : FCp (tabOf [0, 1, 0, 1, 0] 3) bare_16 := fun _ => by kernel_rfl
theorem fC_16_4 : FCp (tabOf [0, 1, 0, 1, 0] 4) bare_16 := fun _ => by kernel_rfl
theorem fC_16_5 : FCp (tabOf [0, 1, 0, 1, 0] 5) bare_16 := fun _ => by kernel_rfl
theorem fC_16_6 : FCp (tabOf [0, 1, 0, 1, 0] 6) bare_16 := fun _ => by kernel_rfl
theorem fD_16 : FDp [0, 1, 0, 1, 0] bare_16 [0, 1, 2, 2, 2] := fun _ => by kernel_rfl
def bare_17 : Sg := [40, 40, 41, 40, 41, 40, 40, 41, 41, 41]
theorem fC_17_0 : FCp (tabOf [0, 1, 0, 1, 1] 0) bare_17 := fun _ => by kernel_rfl
theorem fC_17_1 : FCp (tabOf [0, 1, 0, 1, 1] 1) bare_17 := fun _ => by kernel_rfl
theorem fC_17_2 : FCp (tabOf [0, 1, 0, 1, 1] 2) bare_17 := fun _ => by kernel_rfl
theorem fC_17_3 : FCp (tabOf [0, 1, 0, 1, 1] 3) bare_17 := fun _ => by kernel_rfl
theorem fC_17_4 : FCp (tabOf [0, 1, 0, 1, 1] 4) bare_17 := fun _ => by kernel_rfl
theorem fC_17_5 : FCp (tabOf [0, 1, 0, 1, 1] 5) bare_17 := fun _ => by kernel_rfl
theorem fC_17_6 : FCp (tabOf [0, 1, 0, 1, 1] 6) bare_17 := fun _ => by kernel_rfl
theorem fD_17 : FDp [0, 1, 0, 1, 1] bare_17 [0, 1, 1, 1, 2] := fun _ => by kernel_rfl
def bare_18 : Sg := [40, 40, 41, 40, 41, 40, 41, 41, 40, 41]
theorem fC_18_0 : FCp (tabOf [0, 1, 0, 1, 2] 0) bare_18 := fun _ => by kernel_rfl
theorem fC_18_1 : FCp (tabOf [0, 1, 0, 1, 2] 1) bare_18 := fun _ => by kernel_rfl
theorem fC_18_2 : FCp (tabOf [0, 1, 0, 1, 2] 2) bare_18 := fun _ => by kernel_rfl
theorem fC_18_3 : FCp (tabOf [0, 1, 0, 1, 2] 3) bare_18 := fun _ => by kernel_rfl
theorem fC_18_4 : FCp (tabOf [0, 1, 0, 1, 2] 4) bare_18 := fun _ => by kernel_rfl
theorem fC_18_5 : FCp (tabOf [0, 1, 0, 1, 2] 5) bare_18 := fun _ => by kernel_rfl
theorem fC_18_6 : FCp (tabOf [0, 1, 0, 1, 2] 6) bare_18 := fun _ => by kernel_rfl
theorem fD_18 : FDp [0, 1, 0, 1, 2] bare_18 [0, 1, 1, 1, 0] := fun _ => by kernel_rfl
def bare_19 : Sg := [40, 40, 40, 41, 40, 40, 41, 41, 41, 41]
theorem fC_19_0 : FCp (tabOf [0, 1, 1, 0, 0] 0) bare_19 := fun _ => by kernel_rfl
theorem fC_19_1 : FCp (tabOf [0, 1, 1, 0, 0] 1) bare_19 := fun _ => by kernel_rfl
theorem fC_19_2 : FCp (tabOf [0, 1, 1, 0, 0] 2) bare_19 := fun _ => by kernel_rfl
theorem fC_19_3 : FCp (tabOf [0, 1, 1, 0, 0] 3) bare_19 := fun _ => by kernel_rfl
theorem fC_19_4 : FCp (tabOf [0, 1, 1, 0, 0] 4) bare_19 := fun _ => by kernel_rfl
theorem fC_19_5 : FCp (tabOf [0, 1, 1, 0, 0] 5) bare_19 := fun _ => by kernel_rfl
theorem fC_19_6 : FCp (tabOf [0, 1, 1, 0, 0] 6) bare_19 := fun _ => by kernel_rfl
theorem fD_19 : FDp [0, 1, 1, 0, 0] bare_19 [0, 1, 2, 2, 3] := fun _ => by kernel_rfl
def bare_20 : Sg := [40, 40, 41, 40, 40, 41, 40, 41, 41, 41]
theorem fC_20_0 : FCp (tabOf [0, 1, 1, 0, 1] 0) bare_20 := fun _ => by kernel_rfl
theorem fC_20_1 : FCp (tabOf [0, 1, 1, 0, 1] 1) bare_20 := fun _ => by kernel_rfl
theorem fC_20_2 : FCp (tabOf [0, 1, 1, 0, 1] 2) bare_20 := fun _ => by kernel_rfl
theorem fC_20_3 : FCp (tabOf [0, 1, 1, 0, 1] 3) bare_20 := fun _ => by kernel_rfl
theorem fC_20_4 : FCp (tabOf [0, 1, 1, 0, 1] 4) bare_20 := fun _ => by kernel_rfl
theorem fC_20_5 : FCp (tabOf [0, 1, 1, 0, 1] 5) bare_20 := fun _ => by kernel_rfl
theorem fC_20_6 : FCp (tabOf [0, 1, 1, 0, 1] 6) bare_20 := fun _ => by kernel_rfl
theorem fD_20 : FDp [0, 1, 1, 0, 1] bare_20 [0, 1, 1, 2, 2] := fun _ => by kernel_rfl
def bare_21 : Sg := [40, 40, 41, 40, 40, 40, 41, 41, 41, 41]
theorem fC_21_0 : FCp (tabOf [0, 1, 1, 1, 0] 0) bare_21 := fun _ => by kernel_rfl
theorem fC_21_1 : FCp (tabOf [0, 1, 1, 1, 0] 1) bare_21 := fun _ => by kernel_rfl
theorem fC_21_2 : FCp (tabOf [0, 1, 1, 1, 0] 2) bare_21 := fun _ => by kernel_rfl
theorem fC_21_3 : FCp (tabOf [0, 1, 1, 1, 0] 3) bare_21 := fun _ => by kernel_rfl
theorem fC_21_4 : FCp (tabOf [0, 1, 1, 1, 0] 4) bare_21 := fun _ => by kernel_rfl
theorem fC_21_5 : FCp (tabOf [0, 1, 1, 1, 0] 5) bare_21 := fun _ => by kernel_rfl
theorem fC_21_6 : FCp (tabOf [0, 1, 1, 1, 0] 6) bare_21 := fun _ => by kernel_rfl
theorem fD_21 : FDp [0, 1, 1, 1, 0] bare_21 [0, 1, 1, 2, 3] := fun _ => by kernel_rfl
def bare_22 : Sg := [40, 41, 40, 40, 40, 40, 41, 41, 41, 41]
theorem fC_22_0 : FCp (tabOf [0, 1, 1, 1, 1] 0) bare_22 := fun _ => by kernel_rfl
theorem fC_22_1 : FCp (tabOf [0, 1, 1, 1, 1] 1) bare_22 := fun _ => by kernel_rfl
theorem fC_22_2 : FCp (tabOf [0, 1, 1, 1, 1] 2) bare_22 := fun _ => by kernel_rfl
theorem fC_22_3 : FCp (tabOf [0, 1, 1, 1, 1] 3) bare_22 := fun _ => by kernel_rfl
theorem fC_22_4 : FCp (tabOf [0, 1, 1, 1, 1] 4) bare_22 := fun _ => by kernel_rfl
theorem fC_22_5 : FCp (tabOf [0, 1, 1, 1, 1] 5) bare_22 := fun _ => by kernel_rfl
theorem fC_22_6 : FCp (tabOf [0, 1, 1, 1, 1] 6) bare_22 := fun _ => by kernel_rfl
theorem fD_22 : FDp [0, 1, 1, 1, 1] bare_22 [0, 0, 1, 2, 3] := fun _ => by kernel_rfl
def bare_23 : Sg := [40, 41, 40, 40, 40, 41, 41, 41, 40, 41]
theorem fC_23_0 : FCp (tabOf [0, 1, 1, 1, 2] 0) bare_23 := fun _ => by kernel_rfl
theorem fC_23_1 : FCp (tabOf [0, 1, 1, 1, 2] 1) bare_23 := fun _ => by kernel_rfl
theorem fC_23_2 : FCp (tabOf [0, 1, 1, 1, 2] 2) bare_23 := fun _ => by kernel_rfl
theorem fC_23_3 : FCp (tabOf [0, 1, 1, 1, 2] 3) bare_23 := fun _ => by kernel_rfl
theorem fC_23_4 : FCp (tabOf [0, 1, 1, 1, 2] 4) bare_23 := fun _ => by kernel_rfl
theorem fC_23_5 : FCp (tabOf [0, 1, 1, 1, 2] 5) bare_23 := fun _ => by kernel_rfl
theorem fC_23_6 : FCp (tabOf [0, 1, 1, 1, 2] 6) bare_23 := fun _ => by kernel_rfl
theorem fD_23 : FDp [0, 1, 1, 1, 2] bare_23 [0, 0, 1, 2, 0] := fun _ => by kernel_rfl
def bare_24 : Sg := [40, 40, 41, 40, 40, 41, 41, 41, 40, 41]
theorem fC_24_0 : FCp (tabOf [0, 1, 1, 2, 0] 0) bare_24 := fun _ => by kernel_rfl
theorem fC_24_1 : FCp (tabOf [0, 1, 1, 2, 0] 1) bare_24 := fun _ => by kernel_rfl
theorem fC_24_2 : FCp (tabOf [0, 1, 1, 2, 0] 2) bare_24 := fun _ => by kernel_rfl
theorem fC_24_3 : FCp (tabOf [0, 1, 1, 2, 0] 3) bare_24 := fun _ => by kernel_rfl
theorem fC_24_4 : FCp (tabOf [0, 1, 1, 2, 0] 4) bare_24 := fun _ => by kernel_rfl
theorem fC_24_5 : FCp (tabOf [0, 1, 1, 2, 0] 5) bare_24 := fun _ => by kernel_rfl
theorem fC_24_6 : FCp (tabOf [0, 1, 1, 2, 0] 6) bare_24 := fun _ => by kernel_rfl
theorem fD_24 : FDp [0, 1, 1, 2, 0] bare_24 [0, 1, 1, 2, 0] := fun _ => by kernel_rfl
def bare_25 : Sg := [40, 41, 40, 40, 40, 41, 41, 40, 41, 41]
theorem fC_25_0 : FCp (tabOf [0, 1, 1, 2, 1] 0) bare_25 := fun _ => by kernel_rfl
theorem fC_25_1 : FCp (tabOf [0, 1, 1, 2, 1] 1) bare_25 := fun _ => by kernel_rfl
theorem fC_25_2 : FCp (tabOf [0, 1, 1, 2, 1] 2) bare_25 := fun _ => by kernel_rfl
theorem fC_25_3 : FCp (tabOf [0, 1, 1, 2, 1] 3) bare_25 := fun _ => by kernel_rfl
theorem fC_25_4 : FCp (tabOf [0, 1, 1, 2, 1] 4) bare_25 := fun _ => by kernel_rfl
theorem fC_25_5 : FCp (tabOf [0, 1, 1, 2, 1] 5) bare_25 := fun _ => by kernel_rfl
theorem fC_25_6 : FCp (tabOf [0, 1, 1, 2, 1] 6) bare_25 := fun _ => by kernel_rfl
theorem fD_25 : FDp [0, 1, 1, 2, 1] bare_25 [0, 0, 1, 2, 1] := fun _ => by kernel_rfl
def bare_26 : Sg := [40, 41, 40, 40, 41, 41, 40, 40, 41, 41]
theorem fC_26_0 : FCp (tabOf [0, 1, 1, 2, 2] 0) bare_26 := fun _ => by kernel_rfl
theorem fC_26_1 : FCp (tabOf [0, 1, 1, 2, 2] 1) bare_26 := fun _ => by kernel_rfl
theorem fC_26_2 : FCp (tabOf [0, 1, 1, 2, 2] 2) bare_26 := fun _ => by kernel_rfl
theorem fC_26_3 : FCp (tabOf [0, 1, 1, 2, 2] 3) bare_26 := fun _ => by kernel_rfl
theorem fC_26_4 : FCp (tabOf [0, 1, 1, 2, 2] 4) bare_26 := fun _ => by kernel_rfl
theorem fC_26_5 : FCp (tabOf [0, 1, 1, 2, 2] 5) bare_26 := fun _ => by kernel_rfl
theorem fC_26_6 : FCp (tabOf [0, 1, 1, 2, 2] 6) bare_26 := fun _ => by kernel_rfl
theorem fD_26 : FDp [0, 1, 1, 2, 2] bare_26 [0, 0, 1, 0, 1] := fun _ => by kernel_rfl
def bare_27 : Sg := [40, 41, 40, 40, 41, 41, 40, 41, 40, 41]
theorem fC_27_0 : FCp (tabOf [0, 1, 1, 2, 3] 0) bare_27 := fun _ => by kernel_rfl
theorem fC_27_1 : FCp (tabOf [0, 1, 1, 2, 3] 1) bare_27 := fun _ => by kernel_rfl
theorem fC_27_2 : FCp (tabOf [0, 1, 1, 2, 3] 2) bare_27 := fun _ => by kernel_rfl
theorem fC_27_3 : FCp (tabOf [0, 1, 1, 2, 3] 3) bare_27 := fun _ => by kernel_rfl
theorem fC_27_4 : FCp (tabOf [0, 1, 1, 2, 3] 4) bare_27 := fun _ => by kernel_rfl
theorem fC_27_5 : FCp (tabOf [0, 1, 1, 2, 3] 5) bare_27 := fun _ => by kernel_rfl
theorem fC_27_6 : FCp (tabOf [0, 1, 1, 2, 3] 6) bare_27 := fun _ => by kernel_rfl
theorem fD_27 : FDp [0, 1, 1, 2, 3] bare_27 [0, 0, 1, 0, 0] := fun _ => by kernel_rfl
def bare_28 : Sg := [40, 40, 40, 41, 40, 41, 41, 41, 40, 41]
theorem fC_28_0 : FCp (tabOf [0, 1, 2, 0, 0] 0) bare_28 := fun _ => by kernel_rfl
theorem fC_28_1 : FCp (tabOf [0, 1, 2, 0, 0] 1) bare_28 := fun _ => by kernel_rfl
theorem fC_28_2 : FCp (tabOf [0, 1, 2, 0, 0] 2) bare_28 := fun _ => by kernel_rfl
theorem fC_28_3 : FCp (tabOf [0, 1, 2, 0, 0] 3) bare_28 := fun _ => by kernel_rfl
theorem fC_28_4 : FCp (tabOf [0, 1, 2, 0, 0] 4) bare_28 := fun _ => by kernel_rfl
theorem fC_28_5 : FCp (tabOf [0, 1, 2, 0, 0] 5) bare_28 := fun _ => by kernel_rfl
theorem fC_28_6 : FCp (tabOf [0, 1, 2, 0, 0] 6) bare_28 := fun _ => by kernel_rfl
theorem fD_28 : FDp [0, 1, 2, 0, 0] bare_28 [0, 1, 2, 2, 0] := fun _ => by kernel_rfl
def bare_29 : Sg := [40, 40, 41, 40, 41, 40, 41, 40, 41, 41]
theorem fC_29_0 : FCp (tabOf [0, 1, 2, 0, 1] 0) bare_29 := fun _ => by kernel_rfl
theorem fC_29_1 : FCp (tabOf [0, 1, 2, 0, 1] 1) bare_29 := fun _ => by kernel_rfl
theorem fC_29_2 : FCp (tabOf [0, 1, 2, 0, 1] 2) bare_29 := fun _ => by kernel_rfl
theorem fC_29_3 : FCp (tabOf [0, 1, 2, 0, 1] 3) bare_29 := fun _ => by kernel_rfl
theorem fC_29_4 : FCp (tabOf [0, 1, 2, 0, 1] 4) bare_29 := fun _ => by kernel_rfl
theorem fC_29_5 : FCp (tabOf [0, 1, 2, 0, 1] 5) bare_29 := fun _ => by kernel_rfl
theorem fC_29_6 : FCp (tabOf [0, 1, 2, 0, 1] 6) bare_29 := fun _ => by kernel_rfl
theorem fD_29 : FDp [0, 1, 2, 0, 1] bare_29 [0, 1, 1, 1, 1] := fun _ => by kernel_rfl
def bare_30 : Sg := [40, 40, 41, 40, 40, 41, 41, 40, 41, 41]
theorem fC_30_0 : FCp (tabOf [0, 1, 2, 1, 0] 0) bare_30 := fun _ => by kernel_rfl
theorem fC_30_1 : FCp (tabOf [0, 1, 2, 1, 0] 1) bare_30 := fun _ => by kernel_rfl
theorem fC_30_2 : FCp (tabOf [0, 1, 2, 1, 0] 2) bare_30 := fun _ => by kernel_rfl
theorem fC_30_3 : FCp (tabOf [0, 1, 2, 1, 0] 3) bare_30 := fun _ => by kernel_rfl
theorem fC_30_4 : FCp (tabOf [0, 1, 2, 1, 0] 4) bare_30 := fun _ => by kernel_rfl
theorem fC_30_5 : FCp (tabOf [0, 1, 2, 1, 0] 5) bare_30 := fun _ => by kernel_rfl
theorem fC_30_6 : FCp (tabOf [0, 1, 2, 1, 0] 6) bare_30 := fun _ => by kernel_rfl
theorem fD_30 : FDp [0, 1, 2, 1, 0] bare_30 [0, 1, 1, 2, 1] := fun _ => by kernel_rfl
def bare_31 : Sg := [40, 41, 40, 40, 40, 41, 40, 41, 41, 41]
theorem fC_31_0 : FCp (tabOf [0, 1, 2, 1, 1] 0) bare_31 := fun _ => by kernel_rfl
theorem fC_31_1 : FCp (tabOf [0, 1, 2, 1, 1] 1) bare_31 := fun _ => by kernel_rfl
theorem fC_31_2 : FCp (tabOf [0, 1, 2, 1, 1] 2) bare_31 := fun _ => by kernel_rfl
theorem fC_31_3 : FCp (tabOf [0, 1, 2, 1, 1] 3) bare_31 := fun _ => by kernel_rfl
theorem fC_31_4 : FCp (tabOf [0, 1, 2, 1, 1] 4) bare_31 := fun _ => by kernel_rfl
theorem fC_31_5 : FCp (tabOf [0, 1, 2, 1, 1] 5) bare_31 := fun _ => by kernel_rfl
theorem fC_31_6 : FCp (tabOf [0, 1, 2, 1, 1] 6) bare_31 := fun _ => by kernel_rfl
theorem fD_31 : FDp [0, 1, 2, 1, 1] bare_31 [0, 0, 1, 2, 2] := fun _ => by kernel_rfl
def bare_32 : Sg := [40, 41, 40, 40, 41, 40, 41, 40, 41, 41]
theorem fC_32_0 : FCp (tabOf [0, 1, 2, 1, 2] 0) bare_32 := fun _ => by kernel_rfl
theorem fC_32_1 : FCp (tabOf [0, 1, 2, 1, 2] 1) bare_32 := fun _ => by kernel_rfl
theorem fC_32_2 : FCp (tabOf [0, 1, 2, 1, 2] 2) bare_32 := fun _ => by kernel_rfl
theorem fC_32_3 : FCp (tabOf [0, 1, 2, 1, 2] 3) bare_32 := fun _ => by kernel_rfl
theorem fC_32_4 : FCp (tabOf [0, 1, 2, 1, 2] 4) bare_32 := fun _ => by kernel_rfl
theorem fC_32_5 : FCp (tabOf [0, 1, 2, 1, 2] 5) bare_32 := fun _ => by kernel_rfl
theorem fC_32_6 : FCp (tabOf [0, 1, 2, 1, 2] 6) bare_32 := fun _ => by kernel_rfl
theorem fD_32 : FDp [0, 1, 2, 1, 2] bare_32 [0, 0, 1, 1, 1] := fun _ => by kernel_rfl
def bare_33 : Sg := [40, 40, 41, 40, 41, 41, 40, 40, 41, 41]
theorem fC_33_0 : FCp (tabOf [0, 1, 2, 2, 0] 0) bare_33 := fun _ => by kernel_rfl
theorem fC_33_1 : FCp (tabOf [0, 1, 2, 2, 0] 1) bare_33 := fun _ => by kernel_rfl
theorem fC_33_2 : FCp (tabOf [0, 1, 2, 2, 0] 2) bare_33 := fun _ => by kernel_rfl
theorem fC_33_3 : FCp (tabOf [0, 1, 2, 2, 0] 3) bare_33 := fun _ => by kernel_rfl
theorem fC_33_4 : FCp (tabOf [0, 1, 2, 2, 0] 4) bare_33 := fun _ => by kernel_rfl
theorem fC_33_5 : FCp (tabOf [0, 1, 2, 2, 0] 5) bare_33 := fun _ => by kernel_rfl
theorem fC_33_6 : FCp (tabOf [0, 1, 2, 2, 0] 6) bare_33 := fun _ => by kernel_rfl
theorem fD_33 : FDp [0, 1, 2, 2, 0] bare_33 [0, 1, 1, 0, 1] := fun _ => by kernel_rfl
def bare_34 : Sg := [40, 41, 40, 40, 41, 40, 40, 41, 41, 41]
theorem fC_34_0 : FCp (tabOf [0, 1, 2, 2, 1] 0) bare_34 := fun _ => by kernel_rfl
theorem fC_34_1 : FCp (tabOf [0, 1, 2, 2, 1] 1) bare_34 := fun _ => by kernel_rfl
theorem fC_34_2 : FCp (tabOf [0, 1, 2, 2, 1] 2) bare_34 := fun _ => by kernel_rfl
theorem fC_34_3 : FCp (tabOf [0, 1, 2, 2, 1] 3) bare_34 := fun _ => by kernel_rfl
theorem fC_34_4 : FCp (tabOf [0, 1, 2, 2, 1] 4) bare_34 := fun _ => by kernel_rfl
theorem fC_34_5 : FCp (tabOf [0, 1, 2, 2, 1] 5) bare_34 := fun _ => by kernel_rfl
theorem fC_34_6 : FCp (tabOf [0, 1, 2, 2, 1] 6) bare_34 := fun _ => by kernel_rfl
theorem fD_34 : FDp [0, 1, 2, 2, 1] bare_34 [0, 0, 1, 1, 2] := fun _ => by kernel_rfl
def bare_35 : Sg := [40, 41, 40, 41, 40, 40, 40, 41, 41, 41]
theorem fC_35_0 : FCp (tabOf [0, 1, 2, 2, 2] 0) bare_35 := fun _ => by kernel_rfl
theorem fC_35_1 : FCp (tabOf [0, 1, 2, 2, 2] 1) bare_35 := fun _ => by kernel_rfl
theorem fC_35_2 : FCp (tabOf [0, 1, 2, 2, 2] 2) bare_35 := fun _ => by kernel_rfl
theorem fC_35_3 : FCp (tabOf [0, 1, 2, 2, 2] 3) bare_35 := fun _ => by kernel_rfl
theorem fC_35_4 : FCp (tabOf [0, 1, 2, 2, 2] 4) bare_35 := fun _ => by kernel_rfl
theorem fC_35_5 : FCp (tabOf [0, 1, 2, 2, 2] 5) bare_35 := fun _ => by kernel_rfl
theorem fC_35_6 : FCp (tabOf [0, 1, 2, 2, 2] 6) bare_35 := fun _ => by kernel_rfl
theorem fD_35 : FDp [0, 1, 2, 2, 2] bare_35 [0, 0, 0, 1, 2] := fun _ => by kernel_rfl
def bare_36 : Sg := [40, 41, 40, 41, 40, 40, 41, 41, 40, 41]
theorem fC_36_0 : FCp (tabOf [0, 1, 2, 2, 3] 0) bare_36 := fun _ => by kernel_rfl
theorem fC_36_1 : FCp (tabOf [0, 1, 2, 2, 3] 1) bare_36 := fun _ => by kernel_rfl
theorem fC_36_2 : FCp (tabOf [0, 1, 2, 2, 3] 2) bare_36 := fun _ => by kernel_rfl
theorem fC_36_3 : FCp (tabOf [0, 1, 2, 2, 3] 3) bare_36 := fun _ => by kernel_rfl
theorem fC_36_4 : FCp (tabOf [0, 1, 2, 2, 3] 4) bare_36 := fun _ => by kernel_rfl
theorem fC_36_5 : FCp (tabOf [0, 1, 2, 2, 3] 5) bare_36 := fun _ => by kernel_rfl
theorem fC_36_6 : FCp (tabOf [0, 1, 2, 2, 3] 6) bare_36 := fun _ => by kernel_rfl
theorem fD_36 : FDp [0, 1, 2, 2, 3] bare_36 [0, 0, 0, 1, 0] := fun _ => by kernel_rfl
def bare_37 : Sg := [40, 40, 41, 40, 41, 41, 40, 41, 40, 41]
theorem fC_37_0 : FCp (tabOf [0, 1, 2, 3, 0] 0) bare_37 := fun _ => by kernel_rfl
theorem fC_37_1 : FCp (tabOf [0, 1, 2, 3, 0] 1) bare_37 := fun _ => by kernel_rfl
theorem fC_37_2 : FCp (tabOf [0, 1, 2, 3, 0] 2) bare_37 := fun _ => by kernel_rfl
theorem fC_37_3 : FCp (tabOf [0, 1, 2, 3, 0] 3) bare_37 := fun _ => by kernel_rfl
theorem fC_37_4 : FCp (tabOf [0, 1, 2, 3, 0] 4) bare_37 := fun _ => by kernel_rfl
theorem fC_37_5 : FCp (tabOf [0, 1, 2, 3, 0] 5) bare_37 := fun _ => by kernel_rfl
theorem fC_37_6 : FCp (tabOf [0, 1, 2, 3, 0] 6) bare_37 := fun _ => by kernel_rfl
theorem fD_37 : FDp [0, 1, 2, 3, 0] bare_37 [0, 1, 1, 0, 0] := fun _ => by kernel_rfl
def bare_38 : Sg := [40, 41, 40, 40, 41, 40, 41, 41, 40, 41]
theorem fC_38_0 : FCp (tabOf [0, 1, 2, 3, 1] 0) bare_38 := fun _ => by kernel_rfl
theorem fC_38_1 : FCp (tabOf [0, 1, 2, 3, 1] 1) bare_38 := fun _ => by kernel_rfl
theorem fC_38_2 : FCp (tabOf [0, 1, 2, 3, 1] 2) bare_38 := fun _ => by kernel_rfl
theorem fC_38_3 : FCp (tabOf [0, 1, 2, 3, 1] 3) bare_38 := fun _ => by kernel_rfl
theorem fC_38_4 : FCp (tabOf [0, 1, 2, 3, 1] 4) bare_38 := fun _ => by kernel_rfl
theorem fC_38_5 : FCp (tabOf [0, 1, 2, 3, 1] 5) bare_38 := fun _ => by kernel_rfl
theorem fC_38_6 : FCp (tabOf [0, 1, 2, 3, 1] 6) bare_38 := fun _ => by kernel_rfl
theorem fD_38 : FDp [0, 1, 2, 3, 1] bare_38 [0, 0, 1, 1, 0] := fun _ => by kernel_rfl
def bare_39 : Sg := [40, 41, 40, 41, 40, 40, 41, 40, 41, 41]
theorem fC_39_0 : FCp (tabOf [0, 1, 2, 3, 2] 0) bare_39 := fun _ => by kernel_rfl
theorem fC_39_1 : FCp (tabOf [0, 1, 2, 3, 2] 1) bare_39 := fun _ => by kernel_rfl
theorem fC_39_2 : FCp (tabOf [0, 1, 2, 3, 2] 2) bare_39 := fun _ => by kernel_rfl
theorem fC_39_3 : FCp (tabOf [0, 1, 2, 3, 2] 3) bare_39 := fun _ => by kernel_rfl
theorem fC_39_4 : FCp (tabOf [0, 1, 2, 3, 2] 4) bare_39 := fun _ => by kernel_rfl
theorem fC_39_5 : FCp (tabOf [0, 1, 2, 3, 2] 5) bare_39 := fun _ => by kernel_rfl
theorem fC_39_6 : FCp (tabOf [0, 1, 2, 3, 2] 6) bare_39 := fun _ => by kernel_rfl
theorem fD_39 : FDp [0, 1, 2, 3, 2] bare_39 [0, 0, 0, 1, 1] := fun _ => by kernel_rfl
def bare_40 : Sg := [40, 41, 40, 41, 40, 41, 40, 40, 41, 41]
theorem fC_40_0 : FCp (tabOf [0, 1, 2, 3, 3] 0) bare_40 := fun _ => by kernel_rfl
theorem fC_40_1 : FCp (tabOf [0, 1, 2, 3, 3] 1) bare_40 := fun _ => by kernel_rfl
theorem fC_40_2 : FCp (tabOf [0, 1, 2, 3, 3] 2) bare_40 := fun _ => by kernel_rfl
theorem fC_40_3 : FCp (tabOf [0, 1, 2, 3, 3] 3) bare_40 := fun _ => by kernel_rfl
theorem fC_40_4 : FCp (tabOf [0, 1, 2, 3, 3] 4) bare_40 := fun _ => by kernel_rfl
theorem fC_40_5 : FCp (tabOf [0, 1, 2, 3, 3] 5) bare_40 := fun _ => by kernel_rfl
theorem fC_40_6 : FCp (tabOf [0, 1, 2, 3, 3] 6) bare_40 := fun _ => by kernel_rfl
theorem fD_40 : FDp [0, 1, 2, 3, 3] bare_40 [0, 0, 0, 0, 1] := fun _ => by kernel_rfl
def bare_41 : Sg := [40, 41, 40, 41, 40, 41, 40, 41, 40, 41]
theorem fC_41_0 : FCp (tabOf [0, 1, 2, 3, 4] 0) bare_41 := fun _ => by kernel_rfl
theorem fC_41_1 : FCp (tabOf [0, 1, 2, 3, 4] 1) bare_41 := fun _ => by kernel_rfl
theorem fC_41_2 : FCp (tabOf [0, 1, 2, 3, 4] 2) bare_41 := fun _ => by kernel_rfl
theorem fC_41_3 : FCp (tabOf [0, 1, 2, 3, 4] 3) bare_41 := fun _ => by kernel_rfl
theorem fC_41_4 : FCp (tabOf [0, 1, 2, 3, 4] 4) bare_41 := fun _ => by kernel_rfl
theorem fC_41_5 : FCp (tabOf [0, 1, 2, 3, 4] 5) bare_41 := fun _ => by kernel_rfl
theorem fC_41_6 : FCp (tabOf [0, 1, 2, 3, 4] 6) bare_41 := fun _ => by kernel_rfl
theorem fD_41 : FDp [0, 1, 2, 3, 4] bare_41 [0, 0, 0, 0, 0] := fun _ => by kernel_rfl
theorem lvs_eq : lvsOf = [[0, 0, 0, 0, 0], [0, 0, 0, 0, 1], [0, 0, 0, 1, 0], [0, 0, 0, 1, 1], [0, 0, 0, 1, 2], [0, 0, 1, 0, 0], [0, 0, 1, 0, 1], [0, 0, 1, 1, 0], [0, 0, 1, 1, 1], [0, 0, 1, 1, 2], [0, 0, 1, 2, 0], [0, 0, 1, 2, 1], [0, 0, 1, 2, 2], [0, 0, 1, 2, 3], [0, 1, 0, 0, 0], [0, 1, 0, 0, 1], [0, 1, 0, 1, 0], [0, 1, 0, 1, 1], [0, 1, 0, 1, 2], [0, 1, 1, 0, 0], [0, 1, 1, 0, 1], [0, 1, 1, 1, 0], [0, 1, 1, 1, 1], [0, 1, 1, 1, 2], [0, 1, 1, 2, 0], [0, 1, 1, 2, 1], [0, 1, 1, 2, 2], [0, 1, 1, 2, 3], [0, 1, 2, 0, 0], [0, 1, 2, 0, 1], [0, 1, 2, 1, 0], [0, 1, 2, 1, 1], [0, 1, 2, 1, 2], [0, 1, 2, 2, 0], [0, 1, 2, 2, 1], [0, 1, 2, 2, 2], [0, 1, 2, 2, 3], [0, 1, 2, 3, 0], [0, 1, 2, 3, 1], [0, 1, 2, 3, 2], [0, 1, 2, 3, 3], [0, 1, 2, 3, 4]] := by decide +kernel
theorem pl_0 : ∀ t ∈ List.range 7, okLaw (m_law (sig [0, 0, 0, 0, 0] (t : Nat))) = true := by
  rw [show List.range 7 = [0, 1, 2, 3, 4, 5, 6] from rfl]
  exact List.forall_mem_cons.mpr ⟨law_of fA_0_0 (lap_of fB_0_0_0 fC_0_0 fD_0) (lap_of fB_41_0_1 fC_41_1 fD_41), List.forall_mem_cons.mpr ⟨law_of fA_0_1 (lap_of fB_0_1_0 fC_0_1 fD_0) (lap_of fB_41_1_1 fC_41_2 fD_41), List.forall_mem_cons.mpr ⟨law_of fA_0_2 (lap_of fB_0_2_0 fC_0_2 fD_0) (lap_of fB_41_2_1 fC_41_3 fD_41), List.forall_mem_cons.mpr ⟨law_of fA_0_3 (lap_of fB_0_3_0 fC_0_3 fD_0) (lap_of fB_41_3_1 fC_41_4 fD_41), List.forall_mem_cons.mpr ⟨law_of fA_0_4 (lap_of fB_0_4_0 fC_0_4 fD_0) (lap_of fB_41_4_1 fC_41_5 fD_41), List.forall_mem_cons.mpr ⟨law_of fA_0_5 (lap_of fB_0_5_0 fC_0_5 fD_0) (lap_of fB_41_5_1 fC_41_6 fD_41), List.forall_mem_cons.mpr ⟨law_of fA_0_6 (lap_of fB_0_6_0 fC_0_6 fD_0) (lap_of fB_41_6_1 fC_41_0 fD_41), fun _ h => nomatch h⟩⟩⟩⟩⟩⟩⟩
theorem pl_1 : ∀ t ∈ List.range 7, okLaw (m_law (sig [0, 0, 0, 0, 1] (t : Nat))) = true := by
  rw [show List.range 7 = [0, 1, 2, 3, 4, 5, 6] from rfl]
  exact List.forall_mem_cons.mpr ⟨law_of fA_1_0 (lap_of fB_1_0_0 fC_1_0 fD_1) (lap_of fB_37_0_1 fC_37_1 fD_37), List.forall_mem_cons.mpr ⟨law_of fA_1_1 (lap_of fB_1_1_0 fC_1_1 fD_1) (lap_of fB_37_1_1 fC_37_2 fD_37), List.forall_mem_cons.mpr ⟨law_of fA_1_2 (lap_of fB_1_2_0 fC_1_2 fD_1) (lap_of fB_37_2_1 fC_37_3 fD_37), List.forall_mem_cons.mpr ⟨law_of fA_1_3 (lap_of fB_1_3_0 fC_1_3 fD_1) (lap_of fB_37_3_1 fC_37_4 fD_37), List.forall_mem_cons.mpr ⟨law_of fA_1_4 (lap_of fB_1_4_0 fC_1_4 fD_1) (lap_of fB_37_4_1 fC_37_5 fD_37), List.forall_mem_cons.mpr ⟨law_of fA_1_5 (lap_of fB_1_5_0 fC_1_5 fD_1) (lap_of fB_37_5_1 fC_37_6 fD_37), List.forall_mem_cons.mpr ⟨law_of fA_1_6 (lap_of fB_1_6_0 fC_1_6 fD_1) (lap_of fB_37_6_1 fC_37_0 fD_37), fun _ h => nomatch h⟩⟩⟩⟩⟩⟩⟩
theorem pl_2 : ∀ t ∈ List.range 7, okLaw (m_law (sig [0, 0, 0, 1, 0] (t : Nat))) = true := by
  rw [show List.range 7 = [0, 1, 2, 3, 4, 5, 6] from rfl]
  exact List.forall_mem_cons.mpr ⟨law_of fA_2_0 (lap_of fB_2_0_0 fC_2_0 fD_2) (lap_of fB_38_0_1 fC_38_1 fD_38), List.forall_mem_cons.mpr ⟨law_of fA_2_1 (lap_of fB_2_1_0 fC_2_1 fD_2) (lap_of fB_38_1_1 fC_38_2 fD_38), List.forall_mem_cons.mpr ⟨law_of fA_2_2 (lap_of fB_2_2_0 fC_2_2 fD_2) (lap_of fB_38_2_1 fC_38_3 fD_38), List.forall_mem_cons.mpr ⟨law_of fA_2_3 (lap_of fB_2_3_0 fC_2_3 fD_2) (lap_of fB_38_3_1 fC_38_4 fD_38), List.forall_mem_cons.mpr ⟨law_of fA_2_4 (lap_of fB_2_4_0 fC_2_4 fD_2) (lap_of fB_38_4_1 fC_38_5 fD_38), List.forall_mem_cons.mpr ⟨law_of fA_2_5 (lap_of fB_2_5_0 fC_2_5 fD_2) (lap_of fB_38_5_1 fC_38_6 fD_38), List.forall_mem_cons.mpr ⟨law_of fA_2_6 (lap_of fB_2_6_0 fC_2_6 fD_2) (lap_of fB_38_6_1 fC_38_0 fD_38), fun _ h => nomatch h⟩⟩⟩⟩⟩⟩⟩
theorem pl_3 : ∀ t ∈ List.range 7, okLaw (m_law (sig [0, 0, 0, 1, 1] (t : Nat))) = true := by
  rw [show List.range 7 = [0, 1, 2, 3, 4, 5, 6] from rfl]
  exact List.forall_mem_cons.mpr ⟨law_of fA_3_0 (lap_of fB_3_0_0 fC_3_0 fD_3) (lap_of fB_29_0_1 fC_29_1 fD_29), List.forall_mem_cons.mpr ⟨law_of fA_3_1 (lap_of fB_3_1_0 fC_3_1 fD_3) (lap_of fB_29_1_1 fC_29_2 fD_29), List.forall_mem_cons.mpr ⟨law_of fA_3_2 (lap_of fB_3_2_0 fC_3_2 fD_3) (lap_of fB_29_2_1 fC_29_3 fD_29), List.forall_mem_cons.mpr ⟨law_of fA_3_3 (lap_of fB_3_3_0 fC_3_3 fD_3) (lap_of fB_29_3_1 fC_29_4 fD_29), List.forall_mem_cons.mpr ⟨law_of fA_3_4 (lap_of fB_3_4_0 fC_3_4 fD_3) (lap_of fB_29_4_1 fC_29_5 fD_29), List.forall_mem_cons.mpr ⟨law_of fA_3_5 (lap_of fB_3_5_0 fC_3_5 fD_3) (lap_of fB_29_5_1 fC_29_6 fD_29), List.forall_mem_cons.mpr ⟨law_of fA_3_6 (lap_of fB_3_6_0 fC_3_6 fD_3) (lap_of fB_29_6_1 fC_29_0 fD_29), fun _ h => nomatch h⟩⟩⟩⟩⟩⟩⟩
theorem pl_4 : ∀ t ∈ List.range 7, okLaw (m_law (sig [0, 0, 0, 1, 2] (t : Nat))) = true := by
  rw [show List.range 7 = [0, 1, 2, 3, 4, 5, 6] from rfl]
  exact List.forall_mem_cons.mpr ⟨law_of fA_4_0 (lap_of fB_4_0_0 fC_4_0 fD_4) (lap_of fB_28_0_1 fC_28_1 fD_28), List.forall_mem_cons.mpr ⟨law_of fA_4_1 (lap_of fB_4_1_0 fC_4_1 fD_4) (lap_of fB_28_1_1 fC_28_2 fD_28), List.forall_mem_cons.mpr ⟨law_of fA_4_2 (lap_of fB_4_2_0 fC_4_2 fD_4) (lap_of fB_28_2_1 fC_28_3 fD_28), List.forall_mem_cons.mpr ⟨law_of fA_4_3 (lap_of fB_4_3_0 fC_4_3 fD_4) (lap_of fB_28_3_1 fC_28_4 fD_28), List.forall_mem_cons.mpr ⟨law_of fA_4_4 (lap_of fB_4_4_0 fC_4_4 fD_4) (lap_of fB_28_4_1 fC_28_5 fD_28), List.forall_mem_cons.mpr ⟨law_of fA_4_5 (lap_of fB_4_5_0 fC_4_5 fD_4) (lap_of fB_28_5_1 fC_28_6 fD_28), List.forall_mem_cons.mpr ⟨law_of fA_4_6 (lap_of fB_4_6_0 fC_4_6 fD_4) (lap_of fB_28_6_1 fC_28_0 fD_28), fun _ h => nomatch h⟩⟩⟩⟩⟩⟩⟩
theorem pl_5 : ∀ t ∈ List.range 7, okLaw (m_law (sig [0, 0, 1, 0, 0] (t : Nat))) = true := by
  rw [show List.range 7 = [0, 1, 2, 3, 4, 5, 6] from rfl]
  exact List.forall_mem_cons.mpr ⟨law_of fA_5_0 (lap_of fB_5_0_0 fC_5_0 fD_5) (lap_of fB_39_0_1 fC_39_1 fD_39), List.forall_mem_cons.mpr ⟨law_of fA_5_1 (lap_of fB_5_1_0 fC_5_1 fD_5) (lap_of fB_39_1_1 fC_39_2 fD_39), List.forall_mem_cons.mpr ⟨law_of fA_5_2 (lap_of fB_5_2_0 fC_5_2 fD_5) (lap_of fB_39_2_1 fC_39_3 fD_39), List.forall_mem_cons.mpr ⟨law_of fA_5_3 (lap_of fB_5_3_0 fC_5_3 fD_5) (lap_of fB_39_3_1 fC_39_4 fD_39), List.forall_mem_cons.mpr ⟨law_of fA_5_4 (lap_of fB_5_4_0 fC_5_4 fD_5) (lap_of fB_39_4_1 fC_39_5 fD_39), List.forall_mem_cons.mpr ⟨law_of fA_5_5 (lap_of fB_5_5_0 fC_5_5 fD_5) (lap_of fB_39_5_1 fC_39_6 fD_39), List.forall_mem_cons.mpr ⟨law_of fA_5_6 (lap_of fB_5_6_0 fC_5_6 fD_5) (lap_of fB_39_6_1 fC_39_0 fD_39), fun _ h => nomatch h⟩⟩⟩⟩⟩⟩⟩
theorem pl_6 : ∀ t ∈ List.range 7, okLaw (m_law (sig [0, 0, 1, 0, 1] (t : Nat))) = true := by
  rw [show List.range 7 = [0, 1, 2, 3, 4, 5, 6] from rfl]
  exact List.forall_mem_cons.mpr ⟨law_of fA_6_0 (lap_of fB_6_0_0 fC_6_0 fD_6) (lap_of fB_31_0_1 fC_31_1 fD_31), List.forall_mem_cons.mpr ⟨law_of fA_6_1 (lap_of fB_6_1_0 fC_6_1 fD_6) (lap_of fB_31_1_1 fC_31_2 fD_31), List.forall_mem_cons.mpr ⟨law_of fA_6_2 (lap_of fB_6_2_0 fC_6_2 fD_6) (lap_of fB_31_2_1 fC_31_3 fD_31), List.forall_mem_cons.mpr ⟨law_of fA_6_3 (lap_of fB_6_3_0 fC_6_3 fD_6) (lap_of fB_31_3_1 fC_31_4 fD_31), List.forall_mem_cons.mpr ⟨law_of fA_6_4 (lap_of fB_6_4_0 fC_6_4 fD_6) (lap_of fB_31_4_1 fC_31_5 fD_31), List.forall_mem_cons.mpr ⟨law_of fA_6_5 (lap_of fB_6_5_0 fC_6_5 fD_6) (lap_of fB_31_5_1 fC_31_6 fD_31), List.forall_mem_cons.mpr ⟨law_of fA_6_6 (lap_of fB_6_6_0 fC_6_6 fD_6) (lap_of fB_31_6_1 fC_31_0 fD_31), fun _ h => nomatch h⟩⟩⟩⟩⟩⟩⟩
theorem pl_7 : ∀ t ∈ List.range 7, okLaw (m_law (sig [0, 0, 1, 1, 0] (t : Nat))) = true := by
  rw [show List.range 7 = [0, 1, 2, 3, 4, 5, 6] from rfl]
  exact List.forall_mem_cons.mpr ⟨law_of fA_7_0 (lap_of fB_7_0_0 fC_7_0 fD_7) (lap_of fB_32_0_1 fC_32_1 fD_32), List.forall_mem_cons.mpr ⟨law_of fA_7_1 (lap_of fB_7_1_0 fC_7_1 fD_7) (lap_of fB_32_1_1 fC_32_2 fD_32), List.forall_mem_cons.mpr ⟨law_of fA_7_2 (lap_of fB_7_2_0 fC_7_2 fD_7) (lap_of fB_32_2_1 fC_32_3 fD_32), List.forall_mem_cons.mpr ⟨law_of fA_7_3 (lap_of fB_7_3_0 fC_7_3 fD_7) (lap_of fB_32_3_1 fC_32_4 fD_32), List.forall_mem_cons.mpr ⟨law_of fA_7_4 (lap_of fB_7_4_0 fC_7_4 fD_7) (lap_of fB_32_4_1 fC_32_5 fD_32), List.forall_mem_cons.mpr ⟨law_of fA_7_5 (lap_of fB_7_5_0 fC_7_5 fD_7) (lap_of fB_32_5_1 fC_32_6 fD_32), List.forall_mem_cons.mpr ⟨law_of fA_7_6 (lap_of fB_7_6_0 fC_7_6 fD_7) (lap_of fB_32_6_1 fC_32_0 fD_32), fun _ h => nomatch h⟩⟩⟩⟩⟩⟩⟩
theorem pl_8 : ∀ t ∈ List.range 7, okLaw (m_law (sig [0, 0, 1, 1, 1] (t : Nat))) = true := by
  rw [show List.range 7 = [0, 1, 2, 3, 4, 5, 6] from rfl]
  exact List.forall_mem_cons.mpr ⟨law_of fA_8_0 (lap_of fB_8_0_0 fC_8_0 fD_8) (lap_of fB_18_0_1 fC_18_1 fD_18), List.forall_mem_cons.mpr ⟨law_of fA_8_1 (lap_of fB_8_1_0 fC_8_1 fD_8) (lap_of fB_18_1_1 fC_18_2 fD_18), List.forall_mem_cons.mpr ⟨law_of fA_8_2 (lap_of fB_8_2_0 fC_8_2 fD_8) (lap_of fB_18_2_1 fC_18_3 fD_18), List.forall_mem_cons.mpr ⟨law_of fA_8_3 (lap_of fB_8_3_0 fC_8_3 fD_8) (lap_of fB_18_3_1 fC_18_4 fD_18), List.forall_mem_cons.mpr ⟨law_of fA_8_4 (lap_of fB_8_4_0 fC_8_4 fD_8) (lap_of fB_18_4_1 fC_18_5 fD_18), List.forall_mem_cons.mpr ⟨law_of fA_8_5 (lap_of fB_8_5_0 fC_8_5 fD_8) (lap_of fB_18_5_1 fC_18_6 fD_18), List.forall_mem_cons.mpr ⟨law_of fA_8_6 (lap_of fB_8_6_0 fC_8_6 fD_8) (lap_of fB_18_6_1 fC_18_0 fD_18), fun _ h => nomatch h⟩⟩⟩⟩⟩⟩⟩
theorem pl_9 : ∀ t ∈ List.range 7, okLaw (m_law (sig [0, 0, 1, 1, 2] (t : Nat))) = true := by
  rw [show List.range 7 = [0, 1, 2, 3, 4, 5, 6] from rfl]
  exact List.forall_mem_cons.mpr ⟨law_of fA_9_0 (lap_of fB_9_0_0 fC_9_0 fD_9) (lap_of fB_16_0_1 fC_16_1 fD_16), List.forall_mem_cons.mpr ⟨law_of fA_9_1 (lap_of fB_9_1_0 fC_9_1 fD_9) (lap_of fB_16_1_1 fC_16_2 fD_16), List.forall_mem_cons.mpr ⟨law_of fA_9_2 (lap_of fB_9_2_0 fC_9_2 fD_9) (lap_of fB_16_2_1 fC_16_3 fD_16), List.forall_mem_cons.mpr ⟨law_of fA_9_3 (lap_of fB_9_3_0 fC_9_3 fD_9) (lap_of fB_16_3_1 fC_16_4 fD_16), List.forall_mem_cons.mpr ⟨law_of fA_9_4 (lap_of fB_9_4_0 fC_9_4 fD_9) (lap_of fB_16_4_1 fC_16_5 fD_16), List.forall_mem_cons.mpr ⟨law_of fA_9_5 (lap_of fB_9_5_0 fC_9_5 fD_9) (lap_of fB_16_5_1 fC_16_6 fD_16), List.forall_mem_cons.mpr ⟨law_of fA_9_6 (lap_of fB_9_6_0 fC_9_6 fD_9) (lap_of fB_16_6_1 fC_16_0 fD_16), fun _ h => nomatch h⟩⟩⟩⟩⟩⟩⟩
theorem pl_10 : ∀ t ∈ List.range 7, okLaw (m_law (sig [0, 0, 1, 2, 0] (t : Nat))) = true := by
  rw [show List.range 7 = [0, 1, 2, 3, 4, 5, 6] from rfl]
  exact List.forall_mem_cons.mpr ⟨law_of fA_10_0 (lap_of fB_10_0_0 fC_10_0 fD_10) (lap_of fB_30_0_1 fC_30_1 fD_30), List.forall_mem_cons.mpr ⟨law_of fA_10_1 (lap_of fB_10_1_0 fC_10_1 fD_10) (lap_of fB_30_1_1 fC_30_2 fD_30), List.forall_mem_cons.mpr ⟨law_of fA_10_2 (lap_of fB_10_2_0 fC_10_2 fD_10) (lap_of fB_30_2_1 fC_30_3 fD_30), List.forall_mem_cons.mpr ⟨law_of fA_10_3 (lap_of fB_10_3_0 fC_10_3 fD_10) (lap_of fB_30_3_1 fC_30_4 fD_30), List.forall_mem_cons.mpr ⟨law_of fA_10_4 (lap_of fB_10_4_0 fC_10_4 fD_10) (lap_of fB_30_4_1 fC_30_5 fD_30), List.forall_mem_cons.mpr ⟨law_of fA_10_5 (lap_of fB_10_5_0 fC_10_5 fD_10) (lap_of fB_30_5_1 fC_30_6 fD_30), List.forall_mem_cons.mpr ⟨law_of fA_10_6 (lap_of fB_10_6_0 fC_10_6 fD_10) (lap_of fB_30_6_1 fC_30_0 fD_30), fun _ h => nomatch h⟩⟩⟩⟩⟩⟩⟩
theorem pl_11 : ∀ t ∈ List.range 7, okLaw (m_law (sig [0, 0, 1, 2, 1] (t : Nat))) = true := by
  rw [show List.range 7 = [0, 1, 2, 3, 4, 5, 6] from rfl]
  exact List.forall_mem_cons.mpr ⟨law_of fA_11_0 (lap_of fB_11_0_0 fC_11_0 fD_11) (lap_of fB_17_0_1 fC_17_1 fD_17), List.forall_mem_cons.mpr ⟨law_of fA_11_1 (lap_of fB_11_1_0 fC_11_1 fD_11) (lap_of fB_17_1_1 fC_17_2 fD_17), List.forall_mem_cons.mpr ⟨law_of fA_11_2 (lap_of fB_11_2_0 fC_11_2 fD_11) (lap_of fB_17_2_1 fC_17_3 fD_17), List.forall_mem_cons.mpr ⟨law_of fA_11_3 (lap_of fB_11_3_0 fC_11_3 fD_11) (lap_of fB_17_3_1 fC_17_4 fD_17), List.forall_mem_cons.mpr ⟨law_of fA_11_4 (lap_of fB_11_4_0 fC_11_4 fD_11) (lap_of fB_17_4_1 fC_17_5 fD_17), List.forall_mem_cons.mpr ⟨law_of fA_11_5 (lap_of fB_11_5_0 fC_11_5 fD_11) (lap_of fB_17_5_1 fC_17_6 fD_17), List.forall_mem_cons.mpr ⟨law_of fA_11_6 (lap_of fB_11_6_0 fC_11_6 fD_11) (lap_of fB_17_6_1 fC_17_0 fD_17), fun _ h => nomatch h⟩⟩⟩⟩⟩⟩⟩
theorem pl_12 : ∀ t ∈ List.range 7, okLaw (m_law (sig [0, 0, 1, 2, 2] (t : Nat))) = true := by
  rw [show List.range 7 = [0, 1, 2, 3, 4, 5, 6] from rfl]
  exact List.forall_mem_cons.mpr ⟨law_of fA_12_0 (lap_of fB_12_0_0 fC_12_0 fD_12) (lap_of fB_15_0_1 fC_15_1 fD_15), List.forall_mem_cons.mpr ⟨law_of fA_12_1 (lap_of fB_12_1_0 fC_12_1 fD_12) (lap_of fB_15_1_1 fC_15_2 fD_15), List.forall_mem_cons.mpr ⟨law_of fA_12_2 (lap_of fB_12_2_0 fC_12_2 fD_12) (lap_of fB_15_2_1 fC_15_3 fD_15), List.forall_mem_cons.mpr ⟨law_of fA_12_3 (lap_of fB_12_3_0 fC_12_3 fD_12) (lap_of fB_15_3_1 fC_15_4 fD_15), List.forall_mem_cons.mpr ⟨law_of fA_12_4 (lap_of fB_12_4_0 fC_12_4 fD_12) (lap_of fB_15_4_1 fC_15_5 fD_15), List.forall_mem_cons.mpr ⟨law_of fA_12_5 (lap_of fB_12_5_0 fC_12_5 fD_12) (lap_of fB_15_5_1 fC_15_6 fD_15), List.forall_mem_cons.mpr ⟨law_of fA_12_6 (lap_of fB_12_6_0 fC_12_6 fD_12) (lap_of fB_15_6_1 fC_15_0 fD_15), fun _ h => nomatch h⟩⟩⟩⟩⟩⟩⟩
theorem pl_13 : ∀ t ∈ List.range 7, okLaw (m_law (sig [0, 0, 1, 2, 3] (t : Nat))) = true := by
  rw [show List.range 7 = [0, 1, 2, 3, 4, 5, 6] from rfl]
  exact List.forall_mem_cons.mpr ⟨law_of fA_13_0 (lap_of fB_13_0_0 fC_13_0 fD_13) (lap_of fB_14_0_1 fC_14_1 fD_14), List.forall_mem_cons.mpr ⟨law_of fA_13_1 (lap_of fB_13_1_0 fC_13_1 fD_13) (lap_of fB_14_1_1 fC_14_2 fD_14), List.forall_mem_cons.mpr ⟨law_of fA_13_2 (lap_of fB_13_2_0 fC_13_2 fD_13) (lap_of fB_14_2_1 fC_14_3 fD_14), List.forall_mem_cons.mpr ⟨law_of fA_13_3 (lap_of fB_13_3_0 fC_13_3 fD_13) (lap_of fB_14_3_1 fC_14_4 fD_14), List.forall_mem_cons.mpr ⟨law_of fA_13_4 (lap_of fB_13_4_0 fC_13_4 fD_13) (lap_of fB_14_4_1 fC_14_5 fD_14), List.forall_mem_cons.mpr ⟨law_of fA_13_5 (lap_of fB_13_5_0 fC_13_5 fD_13) (lap_of fB_14_5_1 fC_14_6 fD_14), List.forall_mem_cons.mpr ⟨law_of fA_13_6 (lap_of fB_13_6_0 fC_13_6 fD_13) (lap_of fB_14_6_1 fC_14_0 fD_14), fun _ h => nomatch h⟩⟩⟩⟩⟩⟩⟩
theorem pl_14 : ∀ t ∈ List.range 7, okLaw (m_law (sig [0, 1, 0, 0, 0] (t : Nat))) = true := by
  rw [show List.range 7 = [0, 1, 2, 3, 4, 5, 6] from rfl]
  exact List.forall_mem_cons.mpr ⟨law_of fA_14_0 (lap_of fB_14_0_0 fC_14_0 fD_14) (lap_of fB_40_0_1 fC_40_1 fD_40), List.forall_mem_cons.mpr ⟨law_of fA_14_1 (lap_of fB_14_1_0 fC_14_1 fD_14) (lap_of fB_40_1_1 fC_40_2 fD_40), List.forall_mem_cons.mpr ⟨law_of fA_14_2 (lap_of fB_14_2_0 fC_14_2 fD_14) (lap_of fB_40_2_1 fC_40_3 fD_40), List.forall_mem_cons.mpr ⟨law_of fA_14_3 (lap_of fB_14_3_0 fC_14_3 fD_14) (lap_of fB_40_3_1 fC_40_4 fD_40), List.forall_mem_cons.mpr ⟨law_of fA_14_4 (lap_of fB_14_4_0 fC_14_4 fD_14) (lap_of fB_40_4_1 fC_40_5 fD_40), List.forall_mem_cons.mpr ⟨law_of fA_14_5 (lap_of fB_14_5_0 fC_14_5 fD_14) (lap_of fB_40_5_1 fC_40_6 fD_40), List.forall_mem_cons.mpr ⟨law_of fA_14_6 (lap_of fB_14_6_0 fC_14_6 fD_14) (lap_of fB_40_6_1 fC_40_0 fD_40), fun _ h => nomatch h⟩⟩⟩⟩⟩⟩⟩
theorem pl_15 : ∀ t ∈ List.range 7, okLaw (m_law (sig [0, 1, 0, 0, 1] (t : Nat))) = true := by
  rw [show List.range 7 = [0, 1, 2, 3, 4, 5, 6] from rfl]
  exact List.forall_mem_cons.mpr ⟨law_of fA_15_0 (lap_of fB_15_0_0 fC_15_0 fD_15) (lap_of fB_34_0_1 fC_34_1 fD_34), List.forall_mem_cons.mpr ⟨law_of fA_15_1 (lap_of fB_15_1_0 fC_15_1 fD_15) (lap_of fB_34_1_1 fC_34_2 fD_34), List.forall_mem_cons.mpr ⟨law_of fA_15_2 (lap_of fB_15_2_0 fC_15_2 fD_15) (lap_of fB_34_2_1 fC_34_3 fD_34), List.forall_mem_cons.mpr ⟨law_of fA_15_3 (lap_of fB_15_3_0 fC_15_3 fD_15) (lap_of fB_34_3_1 fC_34_4 fD_34), List.forall_mem_cons.mpr ⟨law_of fA_15_4 (lap_of fB_15_4_0 fC_15_4 fD_15) (lap_of fB_34_4_1 fC_34_5 fD_34), List.forall_mem_cons.mpr ⟨law_of fA_15_5 (lap_of fB_15_5_0 fC_15_5 fD_15) (lap_of fB_34_5_1 fC_34_6 fD_34), List.forall_mem_cons.mpr ⟨law_of fA_15_6 (lap_of fB_15_6_0 fC_15_6 fD_15) (lap_of fB_34_6_1 fC_34_0 fD_34), fun _ h => nomatch h⟩⟩⟩⟩⟩⟩⟩
theorem pl_16 : ∀ t ∈ List.range 7, okLaw (m_law (sig [0, 1, 0, 1, 0] (t : Nat))) = true := by
  rw [show List.range 7 = [0, 1, 2, 3, 4, 5, 6] from rfl]
  exact List.forall_mem_cons.mpr ⟨law_of fA_16_0 (lap_of fB_16_0_0 fC_16_0 fD_16) (lap_of fB_35_0_1 fC_35_1 fD_35), List.forall_mem_cons.mpr ⟨law_of fA_16_1 (lap_of fB_16_1_0 fC_16_1 fD_16) (lap_of fB_35_1_1 fC_35_2 fD_35), List.forall_mem_cons.mpr ⟨law_of fA_16_2 (lap_of fB_16_2_0 fC_16_2 fD_16) (lap_of fB_35_2_1 fC_35_3 fD_35), List.forall_mem_cons.mpr ⟨law_of fA_16_3 (lap_of fB_16_3_0 fC_16_3 fD_16) (lap_of fB_35_3_1 fC_35_4 fD_35), List.forall_mem_cons.mpr ⟨law_of fA_16_4 (lap_of fB_16_4_0 fC_16_4 fD_16) (lap_of fB_35_4_1 fC_35_5 fD_35), List.forall_mem_cons.mpr ⟨law_of fA_16_5 (lap_of fB_16_5_0 fC_16_5 fD_16) (lap_of fB_35_5_1 fC_35_6 fD_35), List.forall_mem_cons.mpr ⟨law_of fA_16_6 (lap_of fB_16_6_0 fC_16_6 fD_16) (lap_of fB_35_6_1 fC_35_0 fD_35), fun _ h => nomatch h⟩⟩⟩⟩⟩⟩⟩
theorem pl_17 : ∀ t ∈ List.range 7, okLaw (m_law (sig [0, 1, 0, 1, 1] (t : Nat))) = true := by
  rw [show List.range 7 = [0, 1, 2, 3, 4, 5, 6] from rfl]
  exact List.forall_mem_cons.mpr ⟨law_of fA_17_0 (lap_of fB_17_0_0 fC_17_0 fD_17) (lap_of fB_23_0_1 fC_23_1 fD_23), List.forall_mem_cons.mpr ⟨law_of fA_17_1 (lap_of fB_17_1_0 fC_17_1 fD_17) (lap_of fB_23_1_1 fC_23_2 fD_23), List.forall_mem_cons.mpr ⟨law_of fA_17_2 (lap_of fB_17_2_0 fC_17_2 fD_17) (lap_of fB_23_2_1 fC_23_3 fD_23), List.forall_mem_cons.mpr ⟨law_of fA_17_3 (lap_of fB_17_3_0 fC_17_3 fD_17) (lap_of fB_23_3_1 fC_23_4 fD_23), List.forall_mem_cons.mpr ⟨law_of fA_17_4 (lap_of fB_17_4_0 fC_17_4 fD_17) (lap_of fB_23_4_1 fC_23_5 fD_23), List.forall_mem_cons.mpr ⟨law_of fA_17_5 (lap_of fB_17_5_0 fC_17_5 fD_17) (lap_of fB_23_5_1 fC_23_6 fD_23), List.forall_mem_cons.mpr ⟨law_of fA_17_6 (lap_of fB_17_6_0 fC_17_6 fD_17) (lap_of fB_23_6_1 fC_23_0 fD_23), fun _ h => nomatch h⟩⟩⟩⟩⟩⟩⟩
theorem pl_18 : ∀ t ∈ List.range 7, okLaw (m_law (sig [0, 1, 0, 1, 2] (t : Nat))) = true := by
  rw [show List.range 7 = [0, 1, 2, 3, 4, 5, 6] from rfl]
  exact List.forall_mem_cons.mpr ⟨law_of fA_18_0 (lap_of fB_18_0_0 fC_18_0 fD_18) (lap_of fB_21_0_1 fC_21_1 fD_21), List.forall_mem_cons.mpr ⟨law_of fA_18_1 (lap_of fB_18_1_0 fC_18_1 fD_18) (lap_of fB_21_1_1 fC_21_2 fD_21), List.forall_mem_cons.mpr ⟨law_of fA_18_2 (lap_of fB_18_2_0 fC_18_2 fD_18) (lap_of fB_21_2_1 fC_21_3 fD_21), List.forall_mem_cons.mpr ⟨law_of fA_18_3 (lap_of fB_18_3_0 fC_18_3 fD_18) (lap_of fB_21_3_1 fC_21_4 fD_21), List.forall_mem_cons.mpr ⟨law_of fA_18_4 (lap_of fB_18_4_0 fC_18_4 fD_18) (lap_of fB_21_4_1 fC_21_5 fD_21), List.forall_mem_cons.mpr ⟨law_of fA_18_5 (lap_of fB_18_5_0 fC_18_5 fD_18) (lap_of fB_21_5_1 fC_21_6 fD_21), List.forall_mem_cons.mpr ⟨law_of fA_18_6 (lap_of fB_18_6_0 fC_18_6 fD_18) (lap_of fB_21_6_1 fC_21_0 fD_21), fun _ h => nomatch h⟩⟩⟩⟩⟩⟩⟩
theorem pl_19 : ∀ t ∈ List.range 7, okLaw (m_law (sig [0, 1, 1, 0, 0] (t : Nat))) = true := by
  rw [show List.range 7 = [0, 1, 2, 3, 4, 5, 6] from rfl]
  exact List.forall_mem_cons.mpr ⟨law_of fA_19_0 (lap_of fB_19_0_0 fC_19_0 fD_19) (lap_of fB_36_0_1 fC_36_1 fD_36), List.forall_mem_cons.mpr ⟨law_of fA_19_1 (lap_of fB_19_1_0 fC_19_1 fD_19) (lap_of fB_36_1_1 fC_36_2 fD_36), List.forall_mem_cons.mpr ⟨law_of fA_19_2 (lap_of fB_19_2_0 fC_19_2 fD_19) (lap_of fB_36_2_1 fC_36_3 fD_36), List.forall_mem_cons.mpr ⟨law_of fA_19_3 (lap_of fB_19_3_0 fC_19_3 fD_19) (lap_of fB_36_3_1 fC_36_4 fD_36), List.forall_mem_cons.mpr ⟨law_of fA_19_4 (lap_of fB_19_4_0 fC_19_4 fD_19) (lap_of fB_36_4_1 fC_36_5 fD_36), List.forall_mem_cons.mpr ⟨law_of fA_19_5 (lap_of fB_19_5_0 fC_19_5 fD_19) (lap_of fB_36_5_1 fC_36_6 fD_36), List.forall_mem_cons.mpr ⟨law_of fA_19_6 (lap_of fB_19_6_0 fC_19_6 fD_19) (lap_of fB_36_6_1 fC_36_0 fD_36), fun _ h => nomatch h⟩⟩⟩⟩⟩⟩⟩
theorem pl_20 : ∀ t ∈ List.range 7, okLaw (m_law (sig [0, 1, 1, 0, 1] (t : Nat))) = true := by
  rw [show List.range 7 = [0, 1, 2, 3, 4, 5, 6] from rfl]
  exact List.forall_mem_cons.mpr ⟨law_of fA_20_0 (lap_of fB_20_0_0 fC_20_0 fD_20) (lap_of fB_26_0_1 fC_26_1 fD_26), List.forall_mem_cons.mpr ⟨law_of fA_20_1 (lap_of fB_20_1_0 fC_20_1 fD_20) (lap_of fB_26_1_1 fC_26_2 fD_26), List.forall_mem_cons.mpr ⟨law_of fA_20_2 (lap_of fB_20_2_0 fC_20_2 fD_20) (lap_of fB_26_2_1 fC_26_3 fD_26), List.forall_mem_cons.mpr ⟨law_of fA_20_3 (lap_of fB_20_3_0 fC_20_3 fD_20) (lap_of fB_26_3_1 fC_26_4 fD_26), List.forall_mem_cons.mpr ⟨law_of fA_20_4 (lap_of fB_20_4_0 fC_20_4 fD_20) (lap_of fB_26_4_1 fC_26_5 fD_26), List.forall_mem_cons.mpr ⟨law_of fA_20_5 (lap_of fB_20_5_0 fC_20_5 fD_20) (lap_of fB_26_5_1 fC_26_6 fD_26), List.forall_mem_cons.mpr ⟨law_of fA_20_6 (lap_of fB_20_6_0 fC_20_6 fD_20) (lap_of fB_26_6_1 fC_26_0 fD_26), fun _ h => nomatch h⟩⟩⟩⟩⟩⟩⟩
theorem pl_21 : ∀ t ∈ List.range 7, okLaw (m_law (sig [0, 1, 1, 1, 0] (t : Nat))) = true := by
  rw [show List.range 7 = [0, 1, 2, 3, 4, 5, 6] from rfl]
  exact List.forall_mem_cons.mpr ⟨law_of fA_21_0 (lap_of fB_21_0_0 fC_21_0 fD_21) (lap_of fB_27_0_1 fC_27_1 fD_27), List.forall_mem_cons.mpr ⟨law_of fA_21_1 (lap_of fB_21_1_0 fC_21_1 fD_21) (lap_of fB_27_1_1 fC_27_2 fD_27), List.forall_mem_cons.mpr ⟨law_of fA_21_2 (lap_of fB_21_2_0 fC_21_2 fD_21) (lap_of fB_27_2_1 fC_27_3 fD_27), List.forall_mem_cons.mpr ⟨law_of fA_21_3 (lap_of fB_21_3_0 fC_21_3 fD_21) (lap_of fB_27_3_1 fC_27_4 fD_27), List.forall_mem_cons.mpr ⟨law_of fA_21_4 (lap_of fB_21_4_0 fC_21_4 fD_21) (lap_of fB_27_4_1 fC_27_5 fD_27), List.forall_mem_cons.mpr ⟨law_of fA_21_5 (lap_of fB_21_5_0 fC_21_5 fD_21) (lap_of fB_27_5_1 fC_27_6 fD_27), List.forall_mem_cons.mpr ⟨law_of fA_21_6 (lap_of fB_21_6_0 fC_21_6 fD_21) (lap_of fB_27_6_1 fC_27_0 fD_27), fun _ h => nomatch h⟩⟩⟩⟩⟩⟩⟩
theorem pl_22 : ∀ t ∈ List.range 7, okLaw (m_law (sig [0, 1, 1, 1, 1] (t : Nat))) = true := by
  rw [show List.range 7 = [0, 1, 2, 3, 4, 5, 6] from rfl]
  exact List.forall_mem_cons.mpr ⟨law_of fA_22_0 (lap_of fB_22_0_0 fC_22_0 fD_22) (lap_of fB_13_0_1 fC_13_1 fD_13), List.forall_mem_cons.mpr ⟨law_of fA_22_1 (lap_of fB_22_1_0 fC_22_1 fD_22) (lap_of fB_13_1_1 fC_13_2 fD_13), List.forall_mem_cons.mpr ⟨law_of fA_22_2 (lap_of fB_22_2_0 fC_22_2 fD_22) (lap_of fB_13_2_1 fC_13_3 fD_13), List.forall_mem_cons.mpr ⟨law_of fA_22_3 (lap_of fB_22_3_0 fC_22_3 fD_22) (lap_of fB_13_3_1 fC_13_4 fD_13), List.forall_mem_cons.mpr ⟨law_of fA_22_4 (lap_of fB_22_4_0 fC_22_4 fD_22) (lap_of fB_13_4_1 fC_13_5 fD_13), List.forall_mem_cons.mpr ⟨law_of fA_22_5 (lap_of fB_22_5_0 fC_22_5 fD_22) (lap_of fB_13_5_1 fC_13_6 fD_13), List.forall_mem_cons.mpr ⟨law_of fA_22_6 (lap_of fB_22_6_0 fC_22_6 fD_22) (lap_of fB_13_6_1 fC_13_0 fD_13), fun _ h => nomatch h⟩⟩⟩⟩⟩⟩⟩
theorem pl_23 : ∀ t ∈ List.range 7, okLaw (m_law (sig [0, 1, 1, 1, 2] (t : Nat))) = true := by
  rw [show List.range 7 = [0, 1, 2, 3, 4, 5, 6] from rfl]
  exact List.forall_mem_cons.mpr ⟨law_of fA_23_0 (lap_of fB_23_0_0 fC_23_0 fD_23) (lap_of fB_10_0_1 fC_10_1 fD_10), List.forall_mem_cons.mpr ⟨law_of fA_23_1 (lap_of fB_23_1_0 fC_23_1 fD_23) (lap_of fB_10_1_1 fC_10_2 fD_10), List.forall_mem_cons.mpr ⟨law_of fA_23_2 (lap_of fB_23_2_0 fC_23_2 fD_23) (lap_of fB_10_2_1 fC_10_3 fD_10), List.forall_mem_cons.mpr ⟨law_of fA_23_3 (lap_of fB_23_3_0 fC_23_3 fD_23) (lap_of fB_10_3_1 fC_10_4 fD_10), List.forall_mem_cons.mpr ⟨law_of fA_23_4 (lap_of fB_23_4_0 fC_23_4 fD_23) (lap_of fB_10_4_1 fC_10_5 fD_10), List.forall_mem_cons.mpr ⟨law_of fA_23_5 (lap_of fB_23_5_0 fC_23_5 fD_23) (lap_of fB_10_5_1 fC_10_6 fD_10), List.forall_mem_cons.mpr ⟨law_of fA_23_6 (lap_of fB_23_6_0 fC_23_6 fD_23) (lap_of fB_10_6_1 fC_10_0 fD_10), fun _ h => nomatch h⟩⟩⟩⟩⟩⟩⟩
theorem pl_24 : ∀ t ∈ List.range 7, okLaw (m_law (sig [0, 1, 1, 2, 0] (t : Nat))) = true := by
  rw [show List.range 7 = [0, 1, 2, 3, 4, 5, 6] from rfl]
  exact List.forall_mem_cons.mpr ⟨law_of fA_24_0 (lap_of fB_24_0_0 fC_24_0 fD_24) (lap_of fB_24_0_1 fC_24_1 fD_24), List.forall_mem_cons.mpr ⟨law_of fA_24_1 (lap_of fB_24_1_0 fC_24_1 fD_24) (lap_of fB_24_1_1 fC_24_2 fD_24), List.forall_mem_cons.mpr ⟨law_of fA_24_2 (lap_of fB_24_2_0 fC_24_2 fD_24) (lap_of fB_24_2_1 fC_24_3 fD_24), List.forall_mem_cons.mpr ⟨law_of fA_24_3 (lap_of fB_24_3_0 fC_24_3 fD_24) (lap_of fB_24_3_1 fC_24_4 fD_24), List.forall_mem_cons.mpr ⟨law_of fA_24_4 (lap_of fB_24_4_0 fC_24_4 fD_24) (lap_of fB_24_4_1 fC_24_5 fD_24), List.forall_mem_cons.mpr ⟨law_of fA_24_5 (lap_of fB_24_5_0 fC_24_5 fD_24) (lap_of fB_24_5_1 fC_24_6 fD_24), List.forall_mem_cons.mpr ⟨law_of fA_24_6 (lap_of fB_24_6_0 fC_24_6 fD_24) (lap_of fB_24_6_1 fC_24_0 fD_24), fun _ h => nomatch h⟩⟩⟩⟩⟩⟩⟩
theorem pl_25 : ∀ t ∈ List.range 7, okLaw (m_law (sig [0, 1, 1, 2, 1] (t : Nat))) = true := by
  rw [show List.range 7 = [0, 1, 2, 3, 4, 5, 6] from rfl]
  exact List.forall_mem_cons.mpr ⟨law_of fA_25_0 (lap_of fB_25_0_0 fC_25_0 fD_25) (lap_of fB_11_0_1 fC_11_1 fD_11), List.forall_mem_cons.mpr ⟨law_of fA_25_1 (lap_of fB_25_1_0 fC_25_1 fD_25) (lap_of fB_11_1_1 fC_11_2 fD_11), List.forall_mem_cons.mpr ⟨law_of fA_25_2 (lap_of fB_25_2_0 fC_25_2 fD_25) (lap_of fB_11_2_1 fC_11_3 fD_11), List.forall_mem_cons.mpr ⟨law_of fA_25_3 (lap_of fB_25_3_0 fC_25_3 fD_25) (lap_of fB_11_3_1 fC_11_4 fD_11), List.forall_mem_cons.mpr ⟨law_of fA_25_4 (lap_of fB_25_4_0 fC_25_4 fD_25) (lap_of fB_11_4_1 fC_11_5 fD_11), List.forall_mem_cons.mpr ⟨law_of fA_25_5 (lap_of fB_25_5_0 fC_25_5 fD_25) (lap_of fB_11_5_1 fC_11_6 fD_11), List.forall_mem_cons.mpr ⟨law_of fA_25_6 (lap_of fB_25_6_0 fC_25_6 fD_25) (lap_of fB_11_6_1 fC_11_0 fD_11), fun _ h => nomatch h⟩⟩⟩⟩⟩⟩⟩
theorem pl_26 : ∀ t ∈ List.range 7, okLaw (m_law (sig [0, 1, 1, 2, 2] (t : Nat))) = true := by
  rw [show List.range 7 = [0, 1, 2, 3, 4, 5, 6] from rfl]
  exact List.forall_mem_cons.mpr ⟨law_of fA_26_0 (lap_of fB_26_0_0 fC_26_0 fD_26) (lap_of fB_6_0_1 fC_6_1 fD_6), List.forall_mem_cons.mpr ⟨law_of fA_26_1 (lap_of fB_26_1_0 fC_26_1 fD_26) (lap_of fB_6_1_1 fC_6_2 fD_6), List.forall_mem_cons.mpr ⟨law_of fA_26_2 (lap_of fB_26_2_0 fC_26_2 fD_26) (lap_of fB_6_2_1 fC_6_3 fD_6), List.forall_mem_cons.mpr ⟨law_of fA_26_3 (lap_of fB_26_3_0 fC_26_3 fD_26) (lap_of fB_6_3_1 fC_6_4 fD_6), List.forall_mem_cons.mpr ⟨law_of fA_26_4 (lap_of fB_26_4_0 fC_26_4 fD_26) (lap_of fB_6_4_1 fC_6_5 fD_6), List.forall_mem_cons.mpr ⟨law_of fA_26_5 (lap_of fB_26_5_0 fC_26_5 fD_26) (lap_of fB_6_5_1 fC_6_6 fD_6), List.forall_mem_cons.mpr ⟨law_of fA_26_6 (lap_of fB_26_6_0 fC_26_6 fD_26) (lap_of fB_6_6_1 fC_6_0 fD_6), fun _ h => nomatch h⟩⟩⟩⟩⟩⟩⟩
theorem pl_27 : ∀ t ∈ List.range 7, okLaw (m_law (sig [0, 1, 1, 2, 3] (t : Nat))) = true := by
  rw [show List.range 7 = [0, 1, 2, 3, 4, 5, 6] from rfl]
  exact List.forall_mem_cons.mpr ⟨law_of fA_27_0 (lap_of fB_27_0_0 fC_27_0 fD_27) (lap_of fB_5_0_1 fC_5_1 fD_5), List.forall_mem_cons.mpr ⟨law_of fA_27_1 (lap_of fB_27_1_0 fC_27_1 fD_27) (lap_of fB_5_1_1 fC_5_2 fD_5), List.forall_mem_cons.mpr ⟨law_of fA_27_2 (lap_of fB_27_2_0 fC_27_2 fD_27) (lap_of fB_5_2_1 fC_5_3 fD_5), List.forall_mem_cons.mpr ⟨law_of fA_27_3 (lap_of fB_27_3_0 fC_27_3 fD_27) (lap_of fB_5_3_1 fC_5_4 fD_5), List.forall_mem_cons.mpr ⟨law_of fA_27_4 (lap_of fB_27_4_0 fC_27_4 fD_27) (lap_of fB_5_4_1 fC_5_5 fD_5), List.forall_mem_cons.mpr ⟨law_of fA_27_5 (lap_of fB_27_5_0 fC_27_5 fD_27) (lap_of fB_5_5_1 fC_5_6 fD_5), List.forall_mem_cons.mpr ⟨law_of fA_27_6 (lap_of fB_27_6_0 fC_27_6 fD_27) (lap_of fB_5_6_1 fC_5_0 fD_5), fun _ h => nomatch h⟩⟩⟩⟩⟩⟩⟩
theorem pl_28 : ∀ t ∈ List.range 7, okLaw (m_law (sig [0, 1, 2, 0, 0] (t : Nat))) = true := by
  rw [show List.range 7 = [0, 1, 2, 3, 4, 5, 6] from rfl]
  exact List.forall_mem_cons.mpr ⟨law_of fA_28_0 (lap_of fB_28_0_0 fC_28_0 fD_28) (lap_of fB_33_0_1 fC_33_1 fD_33), List.forall_mem_cons.mpr ⟨law_of fA_28_1 (lap_of fB_28_1_0 fC_28_1 fD_28) (lap_of fB_33_1_1 fC_33_2 fD_33), List.forall_mem_cons.mpr ⟨law_of fA_28_2 (lap_of fB_28_2_0 fC_28_2 fD_28) (lap_of fB_33_2_1 fC_33_3 fD_33), List.forall_mem_cons.mpr ⟨law_of fA_28_3 (lap_of fB_28_3_0 fC_28_3 fD_28) (lap_of fB_33_3_1 fC_33_4 fD_33), List.forall_mem_cons.mpr ⟨law_of fA_28_4 (lap_of fB_28_4_0 fC_28_4 fD_28) (lap_of fB_33_4_1 fC_33_5 fD_33), List.forall_mem_cons.mpr ⟨law_of fA_28_5 (lap_of fB_28_5_0 fC_28_5 fD_28) (lap_of fB_33_5_1 fC_33_6 fD_33), List.forall_mem_cons.mpr ⟨law_of fA_28_6 (lap_of fB_28_6_0 fC_28_6 fD_28) (lap_of fB_33_6_1 fC_33_0 fD_33), fun _ h => nomatch h⟩⟩⟩⟩⟩⟩⟩
theorem pl_29 : ∀ t ∈ List.range 7, okLaw (m_law (sig [0, 1, 2, 0, 1] (t : Nat))) = true := by
  rw [show List.range 7 = [0, 1, 2, 3, 4, 5, 6] from rfl]
  exact List.forall_mem_cons.mpr ⟨law_of fA_29_0 (lap_of fB_29_0_0 fC_29_0 fD_29) (lap_of fB_22_0_1 fC_22_1 fD_22), List.forall_mem_cons.mpr ⟨law_of fA_29_1 (lap_of fB_29_1_0 fC_29_1 fD_29) (lap_of fB_22_1_1 fC_22_2 fD_22), List.forall_mem_cons.mpr ⟨law_of fA_29_2 (lap_of fB_29_2_0 fC_29_2 fD_29) (lap_of fB_22_2_1 fC_22_3 fD_22), List.forall_mem_cons.mpr ⟨law_of fA_29_3 (lap_of fB_29_3_0 fC_29_3 fD_29) (lap_of fB_22_3_1 fC_22_4 fD_22), List.forall_mem_cons.mpr ⟨law_of fA_29_4 (lap_of fB_29_4_0 fC_29_4 fD_29) (lap_of fB_22_4_1 fC_22_5 fD_22), List.forall_mem_cons.mpr ⟨law_of fA_29_5 (lap_of fB_29_5_0 fC_29_5 fD_29) (lap_of fB_22_5_1 fC_22_6 fD_22), List.forall_mem_cons.mpr ⟨law_of fA_29_6 (lap_of fB_29_6_0 fC_29_6 fD_29) (lap_of fB_22_6_1 fC_22_0 fD_22), fun _ h => nomatch h⟩⟩⟩⟩⟩⟩⟩
theorem pl_30 : ∀ t ∈ List.range 7, okLaw (m_law (sig [0, 1, 2, 1, 0] (t : Nat))) = true := by
  rw [show List.range 7 = [0, 1, 2, 3, 4, 5, 6] from rfl]
  exact List.forall_mem_cons.mpr ⟨law_of fA_30_0 (lap_of fB_30_0_0 fC_30_0 fD_30) (lap_of fB_25_0_1 fC_25_1 fD_25), List.forall_mem_cons.mpr ⟨law_of fA_30_1 (lap_of fB_30_1_0 fC_30_1 fD_30) (lap_of fB_25_1_1 fC_25_2 fD_25), List.forall_mem_cons.mpr ⟨law_of fA_30_2 (lap_of fB_30_2_0 fC_30_2 fD_30) (lap_of fB_25_2_1 fC_25_3 fD_25), List.forall_mem_cons.mpr ⟨law_of fA_30_3 (lap_of fB_30_3_0 fC_30_3 fD_30) (lap_of fB_25_3_1 fC_25_4 fD_25), List.forall_mem_cons.mpr ⟨law_of fA_30_4 (lap_of fB_30_4_0 fC_30_4 fD_30) (lap_of fB_25_4_1 fC_25_5 fD_25), List.forall_mem_cons.mpr ⟨law_of fA_30_5 (lap_of fB_30_5_0 fC_30_5 fD_30) (lap_of fB_25_5_1 fC_25_6 fD_25), List.forall_mem_cons.mpr ⟨law_of fA_30_6 (lap_of fB_30_6_0 fC_30_6 fD_30) (lap_of fB_25_6_1 fC_25_0 fD_25), fun _ h => nomatch h⟩⟩⟩⟩⟩⟩⟩
theorem pl_31 : ∀ t ∈ List.range 7, okLaw (m_law (sig [0, 1, 2, 1, 1] (t : Nat))) = true := by
  rw [show List.range 7 = [0, 1, 2, 3, 4, 5, 6] from rfl]
  exact List.forall_mem_cons.mpr ⟨law_of fA_31_0 (lap_of fB_31_0_0 fC_31_0 fD_31) (lap_of fB_12_0_1 fC_12_1 fD_12), List.forall_mem_cons.mpr ⟨law_of fA_31_1 (lap_of fB_31_1_0 fC_31_1 fD_31) (lap_of fB_12_1_1 fC_12_2 fD_12), List.forall_mem_cons.mpr ⟨law_of fA_31_2 (lap_of fB_31_2_0 fC_31_2 fD_31) (lap_of fB_12_2_1 fC_12_3 fD_12), List.forall_mem_cons.mpr ⟨law_of fA_31_3 (lap_of fB_31_3_0 fC_31_3 fD_31) (lap_of fB_12_3_1 fC_12_4 fD_12), List.forall_mem_cons.mpr ⟨law_of fA_31_4 (lap_of fB_31_4_0 fC_31_4 fD_31) (lap_of fB_12_4_1 fC_12_5 fD_12), List.forall_mem_cons.mpr ⟨law_of fA_31_5 (lap_of fB_31_5_0 fC_31_5 fD_31) (lap_of fB_12_5_1 fC_12_6 fD_12), List.forall_mem_cons.mpr ⟨law_of fA_31_6 (lap_of fB_31_6_0 fC_31_6 fD_31) (lap_of fB_12_6_1 fC_12_0 fD_12), fun _ h => nomatch h⟩⟩⟩⟩⟩⟩⟩
theorem pl_32 : ∀ t ∈ List.range 7, okLaw (m_law (sig [0, 1, 2, 1, 2] (t : Nat))) = true := by
  rw [show List.range 7 = [0, 1, 2, 3, 4, 5, 6] from rfl]
  exact List.forall_mem_cons.mpr ⟨law_of fA_32_0 (lap_of fB_32_0_0 fC_32_0 fD_32) (lap_of fB_8_0_1 fC_8_1 fD_8), List.forall_mem_cons.mpr ⟨law_of fA_32_1 (lap_of fB_32_1_0 fC_32_1 fD_32) (lap_of fB_8_1_1 fC_8_2 fD_8), List.forall_mem_cons.mpr ⟨law_of fA_32_2 (lap_of fB_32_2_0 fC_32_2 fD_32) (lap_of fB_8_2_1 fC_8_3 fD_8), List.forall_mem_cons.mpr ⟨law_of fA_32_3 (lap_of fB_32_3_0 fC_32_3 fD_32) (lap_of fB_8_3_1 fC_8_4 fD_8), List.forall_mem_cons.mpr ⟨law_of fA_32_4 (lap_of fB_32_4_0 fC_32_4 fD_32) (lap_of fB_8_4_1 fC_8_5 fD_8), List.forall_mem_cons.mpr ⟨law_of fA_32_5 (lap_of fB_32_5_0 fC_32_5 fD_32) (lap_of fB_8_5_1 fC_8_6 fD_8), List.forall_mem_cons.mpr ⟨law_of fA_32_6 (lap_of fB_32_6_0 fC_32_6 fD_32) (lap_of fB_8_6_1 fC_8_0 fD_8), fun _ h => nomatch h⟩⟩⟩⟩⟩⟩⟩
theorem pl_33 : ∀ t ∈ List.range 7, okLaw (m_law (sig [0, 1, 2, 2, 0] (t : Nat))) = true := by
  rw [show List.range 7 = [0, 1, 2, 3, 4, 5, 6] from rfl]
  exact List.forall_mem_cons.mpr ⟨law_of fA_33_0 (lap_of fB_33_0_0 fC_33_0 fD_33) (lap_of fB_20_0_1 fC_20_1 fD_20), List.forall_mem_cons.mpr ⟨law_of fA_33_1 (lap_of fB_33_1_0 fC_33_1 fD_33) (lap_of fB_20_1_1 fC_20_2 fD_20), List.forall_mem_cons.mpr ⟨law_of fA_33_2 (lap_of fB_33_2_0 fC_33_2 fD_33) (lap_of fB_20_2_1 fC_20_3 fD_20), List.forall_mem_cons.mpr ⟨law_of fA_33_3 (lap_of fB_33_3_0 fC_33_3 fD_33) (lap_of fB_20_3_1 fC_20_4 fD_20), List.forall_mem_cons.mpr ⟨law_of fA_33_4 (lap_of fB_33_4_0 fC_33_4 fD_33) (lap_of fB_20_4_1 fC_20_5 fD_20), List.forall_mem_cons.mpr ⟨law_of fA_33_5 (lap_of fB_33_5_0 fC_33_5 fD_33) (lap_of fB_20_5_1 fC_20_6 fD_20), List.forall_mem_cons.mpr ⟨law_of fA_33_6 (lap_of fB_33_6_0 fC_33_6 fD_33) (lap_of fB_20_6_1 fC_20_0 fD_20), fun _ h => nomatch h⟩⟩⟩⟩⟩⟩⟩
theorem pl_34 : ∀ t ∈ List.range 7, okLaw (m_law (sig [0, 1, 2, 2, 1] (t : Nat))) = true := by
  rw [show List.range 7 = [0, 1, 2, 3, 4, 5, 6] from rfl]
  exact List.forall_mem_cons.mpr ⟨law_of fA_34_0 (lap_of fB_34_0_0 fC_34_0 fD_34) (lap_of fB_9_0_1 fC_9_1 fD_9), List.forall_mem_cons.mpr ⟨law_of fA_34_1 (lap_of fB_34_1_0 fC_34_1 fD_34) (lap_of fB_9_1_1 fC_9_2 fD_9), List.forall_mem_cons.mpr ⟨law_of fA_34_2 (lap_of fB_34_2_0 fC_34_2 fD_34) (lap_of fB_9_2_1 fC_9_3 fD_9), List.forall_mem_cons.mpr ⟨law_of fA_34_3 (lap_of fB_34_3_0 fC_34_3 fD_34) (lap_of fB_9_3_1 fC_9_4 fD_9), List.forall_mem_cons.mpr ⟨law_of fA_34_4 (lap_of fB_34_4_0 fC_34_4 fD_34) (lap_of fB_9_4_1 fC_9_5 fD_9), List.forall_mem_cons.mpr ⟨law_of fA_34_5 (lap_of fB_34_5_0 fC_34_5 fD_34) (lap_of fB_9_5_1 fC_9_6 fD_9), List.forall_mem_cons.mpr ⟨law_of fA_34_6 (lap_of fB_34_6_0 fC_34_6 fD_34) (lap_of fB_9_6_1 fC_9_0 fD_9), fun _ h => nomatch h⟩⟩⟩⟩⟩⟩⟩
theorem pl_35 : ∀ t ∈ List.range 7, okLaw (m_law (sig [0, 1, 2, 2, 2] (t : Nat))) = true := by
  rw [show List.range 7 = [0, 1, 2, 3, 4, 5, 6] from rfl]
  exact List.forall_mem_cons.mpr ⟨law_of fA_35_0 (lap_of fB_35_0_0 fC_35_0 fD_35) (lap_of fB_4_0_1 fC_4_1 fD_4), List.forall_mem_cons.mpr ⟨law_of fA_35_1 (lap_of fB_35_1_0 fC_35_1 fD_35) (lap_of fB_4_1_1 fC_4_2 fD_4), List.forall_mem_cons.mpr ⟨law_of fA_35_2 (lap_of fB_35_2_0 fC_35_2 fD_35) (lap_of fB_4_2_1 fC_4_3 fD_4), List.forall_mem_cons.mpr ⟨law_of fA_35_3 (lap_of fB_35_3_0 fC_35_3 fD_35) (lap_of fB_4_3_1 fC_4_4 fD_4), List.forall_mem_cons.mpr ⟨law_of fA_35_4 (lap_of fB_35_4_0 fC_35_4 fD_35) (lap_of fB_4_4_1 fC_4_5 fD_4), List.forall_mem_cons.mpr ⟨law_of fA_35_5 (lap_of fB_35_5_0 fC_35_5 fD_35) (lap_of fB_4_5_1 fC_4_6 fD_4), List.forall_mem_cons.mpr ⟨law_of fA_35_6 (lap_of fB_35_6_0 fC_35_6 fD_35) (lap_of fB_4_6_1 fC_4_0 fD_4), fun _ h => nomatch h⟩⟩⟩⟩⟩⟩⟩
theorem pl_36 : ∀ t ∈ List.range 7, okLaw (m_law (sig [0, 1, 2, 2, 3] (t : Nat))) = true := by
  rw [show List.range 7 = [0, 1, 2, 3, 4, 5, 6] from rfl]
  exact List.forall_mem_cons.mpr ⟨law_of fA_36_0 (lap_of fB_36_0_0 fC_36_0 fD_36) (lap_of fB_2_0_1 fC_2_1 fD_2), List.forall_mem_cons.mpr ⟨law_of fA_36_1 (lap_of fB_36_1_0 fC_36_1 fD_36) (lap_of fB_2_1_1 fC_2_2 fD_2), List.forall_mem_cons.mpr ⟨law_of fA_36_2 (lap_of fB_36_2_0 fC_36_2 fD_36) (lap_of fB_2_2_1 fC_2_3 fD_2), List.forall_mem_cons.mpr ⟨law_of fA_36_3 (lap_of fB_36_3_0 fC_36_3 fD_36) (lap_of fB_2_3_1 fC_2_4 fD_2), List.forall_mem_cons.mpr ⟨law_of fA_36_4 (lap_of fB_36_4_0 fC_36_4 fD_36) (lap_of fB_2_4_1 fC_2_5 fD_2), List.forall_mem_cons.mpr ⟨law_of fA_36_5 (lap_of fB_36_5_0 fC_36_5 fD_36) (lap_of fB_2_5_1 fC_2_6 fD_2), List.forall_mem_cons.mpr ⟨law_of fA_36_6 (lap_of fB_36_6_0 fC_36_6 fD_36) (lap_of fB_2_6_1 fC_2_0 fD_2), fun _ h => nomatch h⟩⟩⟩⟩⟩⟩⟩
theorem pl_37 : ∀ t ∈ List.range 7, okLaw (m_law (sig [0, 1, 2, 3, 0] (t : Nat))) = true := by
  rw [show List.range 7 = [0, 1, 2, 3, 4, 5, 6] from rfl]
  exact List.forall_mem_cons.mpr ⟨law_of fA_37_0 (lap_of fB_37_0_0 fC_37_0 fD_37) (lap_of fB_19_0_1 fC_19_1 fD_19), List.forall_mem_cons.mpr ⟨law_of fA_37_1 (lap_of fB_37_1_0 fC_37_1 fD_37) (lap_of fB_19_1_1 fC_19_2 fD_19), List.forall_mem_cons.mpr ⟨law_of fA_37_2 (lap_of fB_37_2_0 fC_37_2 fD_37) (lap_of fB_19_2_1 fC_19_3 fD_19), List.forall_mem_cons.mpr ⟨law_of fA_37_3 (lap_of fB_37_3_0 fC_37_3 fD_37) (lap_of fB_19_3_1 fC_19_4 fD_19), List.forall_mem_cons.mpr ⟨law_of fA_37_4 (lap_of fB_37_4_0 fC_37_4 fD_37) (lap_of fB_19_4_1 fC_19_5 fD_19), List.forall_mem_cons.mpr ⟨law_of fA_37_5 (lap_of fB_37_5_0 fC_37_5 fD_37) (lap_of fB_19_5_1 fC_19_6 fD_19), List.forall_mem_cons.mpr ⟨law_of fA_37_6 (lap_of fB_37_6_0 fC_37_6 fD_37) (lap_of fB_19_6_1 fC_19_0 fD_19), fun _ h => nomatch h⟩⟩⟩⟩⟩⟩⟩
theorem pl_38 : ∀ t ∈ List.range 7, okLaw (m_law (sig [0, 1, 2, 3, 1] (t : Nat))) = true := by
  rw [show List.range 7 = [0, 1, 2, 3, 4, 5, 6] from rfl]
  exact List.forall_mem_cons.mpr ⟨law_of fA_38_0 (lap_of fB_38_0_0 fC_38_0 fD_38) (lap_of fB_7_0_1 fC_7_1 fD_7), List.forall_mem_cons.mpr ⟨law_of fA_38_1 (lap_of fB_38_1_0 fC_38_1 fD_38) (lap_of fB_7_1_1 fC_7_2 fD_7), List.forall_mem_cons.mpr ⟨law_of fA_38_2 (lap_of fB_38_2_0 fC_38_2 fD_38) (lap_of fB_7_2_1 fC_7_3 fD_7), List.forall_mem_cons.mpr ⟨law_of fA_38_3 (lap_of fB_38_3_0 fC_38_3 fD_38) (lap_of fB_7_3_1 fC_7_4 fD_7), List.forall_mem_cons.mpr ⟨law_of fA_38_4 (lap_of fB_38_4_0 fC_38_4 fD_38) (lap_of fB_7_4_1 fC_7_5 fD_7), List.forall_mem_cons.mpr ⟨law_of fA_38_5 (lap_of fB_38_5_0 fC_38_5 fD_38) (lap_of fB_7_5_1 fC_7_6 fD_7), List.forall_mem_cons.mpr ⟨law_of fA_38_6 (lap_of fB_38_6_0 fC_38_6 fD_38) (lap_of fB_7_6_1 fC_7_0 fD_7), fun _ h => nomatch h⟩⟩⟩⟩⟩⟩⟩
theorem pl_39 : ∀ t ∈ List.range 7, okLaw (m_law (sig [0, 1, 2, 3, 2] (t : Nat))) = true := by
  rw [show List.range 7 = [0, 1, 2, 3, 4, 5, 6] from rfl]
  exact List.forall_mem_cons.mpr ⟨law_of fA_39_0 (lap_of fB_39_0_0 fC_39_0 fD_39) (lap_of fB_3_0_1 fC_3_1 fD_3), List.forall_mem_cons.mpr ⟨law_of fA_39_1 (lap_of fB_39_1_0 fC_39_1 fD_39) (lap_of fB_3_1_1 fC_3_2 fD_3), List.forall_mem_cons.mpr ⟨law_of fA_39_2 (lap_of fB_39_2_0 fC_39_2 fD_39) (lap_of fB_3_2_1 fC_3_3 fD_3), List.forall_mem_cons.mpr ⟨law_of fA_39_3 (lap_of fB_39_3_0 fC_39_3 fD_39) (lap_of fB_3_3_1 fC_3_4 fD_3), List.forall_mem_cons.mpr ⟨law_of fA_39_4 (lap_of fB_39_4_0 fC_39_4 fD_39) (lap_of fB_3_4_1 fC_3_5 fD_3), List.forall_mem_cons.mpr ⟨law_of fA_39_5 (lap_of fB_39_5_0 fC_39_5 fD_39) (lap_of fB_3_5_1 fC_3_6 fD_3), List.forall_mem_cons.mpr ⟨law_of fA_39_6 (lap_of fB_39_6_0 fC_39_6 fD_39) (lap_of fB_3_6_1 fC_3_0 fD_3), fun _ h => nomatch h⟩⟩⟩⟩⟩⟩⟩
theorem pl_40 : ∀ t ∈ List.range 7, okLaw (m_law (sig [0, 1, 2, 3, 3] (t : Nat))) = true := by
  rw [show List.range 7 = [0, 1, 2, 3, 4, 5, 6] from rfl]
  exact List.forall_mem_cons.mpr ⟨law_of fA_40_0 (lap_of fB_40_0_0 fC_40_0 fD_40) (lap_of fB_1_0_1 fC_1_1 fD_1), List.forall_mem_cons.mpr ⟨law_of fA_40_1 (lap_of fB_40_1_0 fC_40_1 fD_40) (lap_of fB_1_1_1 fC_1_2 fD_1), List.forall_mem_cons.mpr ⟨law_of fA_40_2 (lap_of fB_40_2_0 fC_40_2 fD_40) (lap_of fB_1_2_1 fC_1_3 fD_1), List.forall_mem_cons.mpr ⟨law_of fA_40_3 (lap_of fB_40_3_0 fC_40_3 fD_40) (lap_of fB_1_3_1 fC_1_4 fD_1), List.forall_mem_cons.mpr ⟨law_of fA_40_4 (lap_of fB_40_4_0 fC_40_4 fD_40) (lap_of fB_1_4_1 fC_1_5 fD_1), List.forall_mem_cons.mpr ⟨law_of fA_40_5 (lap_of fB_40_5_0 fC_40_5 fD_40) (lap_of fB_1_5_1 fC_1_6 fD_1), List.forall_mem_cons.mpr ⟨law_of fA_40_6 (lap_of fB_40_6_0 fC_40_6 fD_40) (lap_of fB_1_6_1 fC_1_0 fD_1), fun _ h => nomatch h⟩⟩⟩⟩⟩⟩⟩
theorem pl_41 : ∀ t ∈ List.range 7, okLaw (m_law (sig [0, 1, 2, 3, 4] (t : Nat))) = true := by
  rw [show List.range 7 = [0, 1, 2, 3, 4, 5, 6] from rfl]
  exact List.forall_mem_cons.mpr ⟨law_of fA_41_0 (lap_of fB_41_0_0 fC_41_0 fD_41) (lap_of fB_0_0_1 fC_0_1 fD_0), List.forall_mem_cons.mpr ⟨law_of fA_41_1 (lap_of fB_41_1_0 fC_41_1 fD_41) (lap_of fB_0_1_1 fC_0_2 fD_0), List.forall_mem_cons.mpr ⟨law_of fA_41_2 (lap_of fB_41_2_0 fC_41_2 fD_41) (lap_of fB_0_2_1 fC_0_3 fD_0), List.forall_mem_cons.mpr ⟨law_of fA_41_3 (lap_of fB_41_3_0 fC_41_3 fD_41) (lap_of fB_0_3_1 fC_0_4 fD_0), List.forall_mem_cons.mpr ⟨law_of fA_41_4 (lap_of fB_41_4_0 fC_41_4 fD_41) (lap_of fB_0_4_1 fC_0_5 fD_0), List.forall_mem_cons.mpr ⟨law_of fA_41_5 (lap_of fB_41_5_0 fC_41_5 fD_41) (lap_of fB_0_5_1 fC_0_6 fD_0), List.forall_mem_cons.mpr ⟨law_of fA_41_6 (lap_of fB_41_6_0 fC_41_6 fD_41) (lap_of fB_0_6_1 fC_0_0 fD_0), fun _ h => nomatch h⟩⟩⟩⟩⟩⟩⟩
theorem plain : ∀ lv ∈ lvsOf, ∀ t ∈ List.range 7, okLaw (m_law (sig lv (t : Nat))) = true := by
  rw [lvs_eq]
  exact List.forall_mem_cons.mpr ⟨pl_0, List.forall_mem_cons.mpr ⟨pl_1, List.forall_mem_cons.mpr ⟨pl_2, List.forall_mem_cons.mpr ⟨pl_3, List.forall_mem_cons.mpr ⟨pl_4, List.forall_mem_cons.mpr ⟨pl_5, List.forall_mem_cons.mpr ⟨pl_6, List.forall_mem_cons.mpr ⟨pl_7, List.forall_mem_cons.mpr ⟨pl_8, List.forall_mem_cons.mpr ⟨pl_9, List.forall_mem_cons.mpr ⟨pl_10, List.forall_mem_cons.mpr ⟨pl_11, List.forall_mem_cons.mpr ⟨pl_12, List.forall_mem_cons.mpr ⟨pl_13, List.forall_mem_cons.mpr ⟨pl_14, List.forall_mem_cons.mpr ⟨pl_15, List.forall_mem_cons.mpr ⟨pl_16, List.forall_mem_cons.mpr ⟨pl_17, List.forall_mem_cons.mpr ⟨pl_18, List.forall_mem_cons.mpr ⟨pl_19, List.forall_mem_cons.mpr ⟨pl_20, List.forall_mem_cons.mpr ⟨pl_21, List.forall_mem_cons.mpr ⟨pl_22, List.forall_mem_cons.mpr ⟨pl_23, List.forall_mem_cons.mpr ⟨pl_24, List.forall_mem_cons.mpr ⟨pl_25, List.forall_mem_cons.mpr ⟨pl_26, List.forall_mem_cons.mpr ⟨pl_27, List.forall_mem_cons.mpr ⟨pl_28, List.forall_mem_cons.mpr ⟨pl_29, List.forall_mem_cons.mpr ⟨pl_30, List.forall_mem_cons.mpr ⟨pl_31, List.forall_mem_cons.mpr ⟨pl_32, List.forall_mem_cons.mpr ⟨pl_33, List.forall_mem_cons.mpr ⟨pl_34, List.forall_mem_cons.mpr ⟨pl_35, List.forall_mem_cons.mpr ⟨pl_36, List.forall_mem_cons.mpr ⟨pl_37, List.forall_mem_cons.mpr ⟨pl_38, List.forall_mem_cons.mpr ⟨pl_39, List.forall_mem_cons.mpr ⟨pl_40, List.forall_mem_cons.mpr ⟨pl_41, fun _ h => nomatch h⟩⟩⟩⟩⟩⟩⟩⟩⟩⟩⟩⟩⟩⟩⟩⟩⟩⟩⟩⟩⟩⟩⟩⟩⟩⟩⟩⟩⟩⟩⟩⟩⟩⟩⟩⟩⟩⟩⟩⟩⟩⟩
end Mine

set_option maxHeartbeats 8000000 in
theorem PySem.Challenge.cw_re0159_01_holds : PySem.Challenge.rw_re0159_01.Holds := by
  w_on; o_law; k_head; (case hw => w_witness2)
  intro w s₀ s₁ mg mb G Y fa o pm cd doc dV kV ho hdd hcd hD hmg hg args vals as hpre hlay hrd hwl hlo
  have KX := kIn_of Y
  refine Ground.open G ?_
  intro T B D TE TW
  obtain rfl := Dflts.pos_none hD rfl
  obtain rfl := Dflts.kw_none hD rfl
  wrow_args hpre hlay hrd hwl hlo
  refine enter_call ?_
  rename (List Int) => xs
  rename (¬ _ < _) => hlen
  rename (IntsAre _ _) => hI
  rename (Heap.IsList _ _ _) => hL
  have hlen : xs.length ≤ 63 := by omega
  obtain ⟨σ', hσ⟩ := Mine.run_ok Mine.plain _ xs hlen
  refine Mine.fin (W := ⟨PySem.Challenge.rw_re0159_01.row.prog, w, s₁.heap, 230, mg, mb⟩) ⟨T.g, T.b, T.builtins, T.nolimit⟩ KX ?_ rfl hg ho hdd hcd hL hI hlen hσ fun s' hk hos hb => ?_
  · exact {
      bl := ⟨_, _, _, _, _, _, _, _, _, _, _, by rfl, ⟨by rfl, by rfl, by rfl⟩, fun _ _ _ => by rfl, fun _ _ _ _ _ => by rfl⟩
      br := ⟨_, _, _, _, _, _, _, _, _, _, _, by rfl, ⟨by rfl, by rfl, by rfl⟩, fun _ _ _ => by rfl, fun _ _ _ _ _ => by rfl⟩
      ins := ⟨_, _, _, _, _, _, _, _, _, _, _, by rfl, ⟨by rfl, by rfl, by rfl⟩, fun _ _ _ => by rfl, fun _ _ _ _ _ => by rfl⟩
      it := ⟨_, _, _, _, _, _, _, _, by rfl, ⟨by rfl, by rfl, by rfl⟩⟩
      st := ⟨_, _, _, _, _, _, _, _, by rfl, ⟨by rfl, by rfl, by rfl⟩⟩
      ck := ⟨_, _, _, _, _, _, _, _, by rfl, ⟨by rfl, by rfl, by rfl⟩⟩
      ba := ⟨_, _, _, _, _, _, _, _, by rfl, ⟨by rfl, by rfl, by rfl⟩⟩
      lv := ⟨_, _, _, _, _, _, _, _, by rfl, ⟨by rfl, by rfl, by rfl⟩⟩
      hm := ⟨_, _, _, _, _, _, _, _, by rfl, ⟨by rfl, by rfl, by rfl⟩⟩
      cls := by rfl
      free := fun x hx => by
        simp only [List.mem_cons, List.not_mem_nil, or_false] at hx
        rcases hx with rfl | rfl | rfl | rfl | rfl | rfl | rfl | rfl <;> rfl
      ini := ⟨_, _, _, _, _, _, _, _, _, _, by rfl, by rfl, ⟨by rfl, by rfl, by rfl⟩, fun _ _ => by rfl⟩
      cv := ⟨_, _, _, _, _, _, _, _, _, by rfl, by rfl, ⟨by rfl, by rfl, by rfl⟩⟩
      get := ⟨_, _, _, _, _, _, _, _, _, by rfl, by rfl, ⟨by rfl, by rfl, by rfl⟩⟩
      add := ⟨_, _, _, _, _, _, _, _, _, by rfl, by rfl, ⟨by rfl, by rfl, by rfl⟩⟩
      pats := ⟨_, _, ⟨_, _, _, _, _, _, _, by rfl, by rfl, by rfl, by rfl, by kernel_rfl⟩, ⟨_, _, _, _, _, _, _, by rfl, by rfl, by rfl, by rfl, by kernel_rfl⟩, by decide⟩
      ga := by rfl
      gt := by rfl
      dict := by rfl
      own := by rfl
      mkC := by rfl
      sa := by rfl
      po := by rfl
      tk := by rfl
      keep := by rfl }
  · exact ⟨.inl ⟨_, _, [], rfl, fun _ => rfl, ReadsW.bool true, by first | rfl | wrow_post, fun _ => ⟨List.nodup_nil, fun _ hm => (nomatch hm)⟩⟩, .of_keep hk, hos, hb⟩
