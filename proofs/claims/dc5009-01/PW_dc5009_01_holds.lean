import PyProof.Rows.All
import Wide.All
import OpenK.AllK
import Wide.FinOn
import PySem.Challenge.RW_dc5009_01
set_option Elab.async false
set_option linter.all false

-- Hd
section
open PySem PySem.W PyProof.Rows
set_option maxRecDepth 100000
set_option maxHeartbeats 8000000
open_top Mine.hdTop for PySem.Challenge.rw_dc5009_01
end

-- J0
section
open PySem PySem.W PyProof.Rows PySem.Calls
namespace Mine

abbrev PM := Addr → Option Obj
def Le (F G : PM) : Prop := ∀ a o, F a = some o → G a = some o
def Sub (F : PM) (h : Heap) : Prop := ∀ a o, F a = some o → h.get? a = some o
def Kp (h h' : Heap) : Prop := ∀ b o, h.get? b = some o → h'.get? b = some o
theorem Le.refl (F : PM) : Le F F := fun _ _ e => e
theorem Le.trans {F G H : PM} (x : Le F G) (y : Le G H) : Le F H := fun a o e => y a o (x a o e)
theorem Kp.refl (h : Heap) : Kp h h := fun _ _ e => e
theorem Kp.trans {h₁ h₂ h₃ : Heap} (x : Kp h₁ h₂) (y : Kp h₂ h₃) : Kp h₁ h₃ := fun a o e => y a o (x a o e)
theorem Sub.kp {F : PM} {h h' : Heap} (x : Sub F h) (y : Kp h h') : Sub F h' := fun a o e => y a o (x a o e)
theorem Sub.le {F G : PM} {h : Heap} (x : Le F G) (y : Sub G h) : Sub F h := fun a o e => y a o (x a o e)
theorem Kp.push (h : Heap) (o : Obj) : Kp h (h.push o) := fun _ _ e => Heap.get?_push_of_some o e

/-- put an object -/
def put (F : PM) (a : Addr) (o : Obj) : PM := fun b => if b = a then some o else F b
theorem put_self (F : PM) (a : Addr) (o : Obj) : put F a o a = some o := if_pos rfl
theorem put_ne {F : PM} {a b : Addr} {o : Obj} (h : b ≠ a) : put F a o b = F b := if_neg h
theorem Le.put {F : PM} {a : Addr} {o : Obj} (h : F a = none) : Le F (put F a o) := fun b x e => by
  unfold Mine.put
  split
  · rename_i q; subst q; rw [h] at e; cases e
  · exact e

/-- F' comes of F by things that h had not -/
structure Ext (F F' : PM) (h h' : Heap) : Prop where
  le : Le F F'
  sub : Sub F' h'
  new : ∀ a o, F' a = some o → F a = some o ∨ h.get? a = none
theorem Ext.refl {F : PM} {h : Heap} (s : Sub F h) : Ext F F h h := ⟨Le.refl F, s, fun _ _ e => .inl e⟩
theorem Ext.keep {F : PM} {h h' : Heap} (s : Sub F h) (k : Kp h h') : Ext F F h h' := ⟨Le.refl F, s.kp k, fun _ _ e => .inl e⟩

inductive Kd | and | or | not | xor | imp | eqv
deriving DecidableEq
inductive Fm | sym (i : Fin 3) | node (k : Kd) (as : List Fm)

def nm : Fin 3 → Str
  | 0 => "a" | 1 => "b" | 2 => "c"
def label : Kd → Str
  | .and => "And" | .or => "Or" | .not => "Not" | .xor => "Xor" | .imp => "Implies" | .eqv => "Equivalent"
def joinT : List Str → Str
  | [] => Str.empty
  | [x] => x
  | x :: y :: r => x ++ (", " : Str) ++ joinT (y :: r)
mutual
def text : Fm → Str
  | .sym i => nm i
  | .node k as => label k ++ ("(" : Str) ++ joinT (texts as) ++ (")" : Str)
def texts : List Fm → List Str
  | [] => []
  | f :: fs => text f :: texts fs
end

inductive PV
  | none | bool (b : Bool) | int (i : Int) | str (s : Str) | val (v : Value)
  | tup (xs : List PV) | lst (xs : List PV) | fm (f : Fm) | raw (o : Obj)

abbrev tupObj (vs : List Value) (n : Nat) : Obj := { cls := .type "tuple", data := .seq vs.toArray n }
abbrev lstObj (vs : List Value) (n : Nat) : Obj := { cls := .type "list", data := .seq vs.toArray n }
abbrev symC : Addr := 124
abbrev boolC : Addr := 89
abbrev funC : Addr := 219
abbrev latC : Addr := 247
def kC : Kd → Addr
  | .and => 268 | .or => 349 | .not => 385 | .xor => 409 | .imp => 448 | .eqv => 481

/-- an object with its dict -/
def Inst (F : PM) (x : Addr) (C : Addr) (es : List DictEntry) : Prop := ∃ d n, F x = some (instObj C d) ∧ F d = some (dictOf es n)
theorem Inst.mono {F G : PM} (l : Le F G) {x C : Addr} {es : List DictEntry} (i : Inst F x C es) : Inst G x C es :=
  let ⟨d, n, a, b⟩ := i; ⟨d, n, l _ _ a, l _ _ b⟩

mutual
def RepF (F : PM) : Fm → Value → Prop
  | .sym i, v => ∃ x h1 h2 t1 t2 t3 t4, v = .ref x ∧ Inst F x symC [⟨h1, .str "name" t1, .str (nm i) t3⟩, ⟨h2, .str "text" t2, .str (nm i) t4⟩]
  | .node k as, v => ∃ x a vs n h1 h2 t1 t2 t3, v = .ref x ∧ Inst F x (kC k) [⟨h1, .str "args" t1, .ref a⟩, ⟨h2, .str "text" t2, .str (text (.node k as)) t3⟩] ∧ F a = some (tupObj vs n) ∧ RepFs F as vs
def RepFs (F : PM) : List Fm → List Value → Prop
  | [], vs => vs = []
  | f :: fs, vs => ∃ v vs', vs = v :: vs' ∧ RepF F f v ∧ RepFs F fs vs'
end
mutual
theorem RepF.mono {F G : PM} (l : Le F G) : ∀ {f : Fm} {v : Value}, RepF F f v → RepF G f v
  | .sym i, v, ⟨x, h1, h2, t1, t2, t3, t4, e, i'⟩ => ⟨x, h1, h2, t1, t2, t3, t4, e, i'.mono l⟩
  | .node k as, v, ⟨x, a, vs, n, h1, h2, t1, t2, t3, e, i, ha, r⟩ => ⟨x, a, vs, n, h1, h2, t1, t2, t3, e, i.mono l, l _ _ ha, RepFs.mono l r⟩
theorem RepFs.mono {F G : PM} (l : Le F G) : ∀ {fs : List Fm} {vs : List Value}, RepFs F fs vs → RepFs G fs vs
  | [], _, e => e
  | _ :: _, _, ⟨v, vs', e, r, rs⟩ => ⟨v, vs', e, RepF.mono l r, RepFs.mono l rs⟩
end
mutual
def Rep (F : PM) : PV → Value → Prop
  | .none, v => v = .none
  | .bool b, v => v = .bool b
  | .int i, v => ∃ t, v = .int i t
  | .str s, v => ∃ t, v = .str s t
  | .val w, v => v = w
  | .tup xs, v => ∃ a vs n, v = .ref a ∧ F a = some (tupObj vs n) ∧ Reps F xs vs
  | .lst xs, v => ∃ a vs n, v = .ref a ∧ F a = some (lstObj vs n) ∧ Reps F xs vs
  | .fm f, v => RepF F f v
  | .raw o, v => ∃ a, v = .ref a ∧ F a = some o
def Reps (F : PM) : List PV → List Value → Prop
  | [], vs => vs = []
  | p :: ps, vs => ∃ v vs', vs = v :: vs' ∧ Rep F p v ∧ Reps F ps vs'
end
mutual
theorem Rep.mono {F G : PM} (l : Le F G) : ∀ {p : PV} {v : Value}, Rep F p v → Rep G p v
  | .none, _, e => e
  | .bool _, _, e => e
  | .int _, _, e => e
  | .str _, _, e => e
  | .val _, _, e => e
  | .tup _, _, ⟨a, vs, n, e, ha, r⟩ => ⟨a, vs, n, e, l _ _ ha, Reps.mono l r⟩
  | .lst _, _, ⟨a, vs, n, e, ha, r⟩ => ⟨a, vs, n, e, l _ _ ha, Reps.mono l r⟩
  | .fm _, _, r => RepF.mono l r
  | .raw _, _, ⟨a, e, ha⟩ => ⟨a, e, l _ _ ha⟩
theorem Reps.mono {F G : PM} (l : Le F G) : ∀ {ps : List PV} {vs : List Value}, Reps F ps vs → Reps G ps vs
  | [], _, e => e
  | _ :: _, _, ⟨v, vs', e, r, rs⟩ => ⟨v, vs', e, Rep.mono l r, Reps.mono l rs⟩
end
theorem Reps.nil {F : PM} : Reps F [] [] := rfl
theorem Reps.cons {F : PM} {p : PV} {ps : List PV} {v : Value} {vs : List Value} (r : Rep F p v) (rs : Reps F ps vs) : Reps F (p :: ps) (v :: vs) := ⟨v, vs, rfl, r, rs⟩
theorem Reps.length {F : PM} : ∀ {ps : List PV} {vs : List Value}, Reps F ps vs → vs.length = ps.length
  | [], _, e => by rw [e]; rfl
  | _ :: _, _, ⟨v, vs', e, _, rs⟩ => by rw [e, List.length_cons, List.length_cons, Reps.length rs]
theorem Reps.append {F : PM} : ∀ {ps qs : List PV} {vs ws : List Value}, Reps F ps vs → Reps F qs ws → Reps F (ps ++ qs) (vs ++ ws)
  | [], _, _, _, e, r => by rw [e]; exact r
  | _ :: _, _, _, _, ⟨v, vs', e, r, rs⟩, q => by rw [e]; exact ⟨v, vs' ++ _, rfl, r, Reps.append rs q⟩
theorem Reps.get {F : PM} : ∀ {ps : List PV} {vs : List Value} {i : Nat} {p : PV}, Reps F ps vs → ps[i]? = some p → ∃ v, vs[i]? = some v ∧ Rep F p v
  | [], _, i, p, _, e => by simp at e
  | q :: ps, _, i, p, ⟨v, vs', e, r, rs⟩, h => by
    subst e
    cases i with
    | zero => simp at h; subst h; exact ⟨v, rfl, r⟩
    | succ i => simp only [List.getElem?_cons_succ] at h ⊢; exact Reps.get rs h
theorem RepFs.reps {F : PM} : ∀ {fs : List Fm} {vs : List Value}, RepFs F fs vs → Reps F (fs.map .fm) vs
  | [], _, e => e
  | _ :: _, _, ⟨v, vs', e, r, rs⟩ => ⟨v, vs', e, r, RepFs.reps rs⟩
theorem Reps.repFs {F : PM} : ∀ {fs : List Fm} {vs : List Value}, Reps F (fs.map .fm) vs → RepFs F fs vs
  | [], _, e => e
  | _ :: _, _, ⟨v, vs', e, r, rs⟩ => ⟨v, vs', e, r, Reps.repFs rs⟩

end Mine
end

-- J1
section
open PySem PySem.W PyProof.Rows PySem.Calls
namespace Mine

abbrev P0 : Program := PySem.Challenge.pw_dc5009_01
noncomputable abbrev KK (w : World) : Frag := Mine.hdTop.heap_39 w.params
/-- the world and the heap behind the top -/
structure Cx where
  w : World
  H : Heap
  mg : Str → Option Value
  mb : Str → Option Value
  X : (KK w).In H
  g : H.Ns mainGlobals mg
  b : H.Ns builtinsNs mb
  nolimit : H.NoLimit
  builtins : ∀ x : Str, x ≠ "__name__" → mb x = bootBuiltins x
abbrev Cx.M (c : Cx) : Model := model P0 c.w

def Base (c : Cx) (F : PM) : Prop := ∀ a o, c.H.get? a = some o → F a = some o
theorem Base.mono {c : Cx} {F G : PM} (x : Base c F) (l : Le F G) : Base c G := fun a o e => l a o (x a o e)
theorem Base.kp {c : Cx} {F : PM} {h : Heap} (x : Base c F) (s : Sub F h) : Kp c.H h := fun a o e => s a o (x a o e)
theorem Base.inK {c : Cx} {F : PM} {h : Heap} (x : Base c F) (s : Sub F h) : (KK c.w).In h := c.X.keeps (x.kp s)

def Room (n : Nat) (A : Around) : Prop := A.depth + 2 * n < 1000 ∧ A.units + 30 * n < 9900 ∧ A.handled = none

/-- nothing changed, but for the slots of namespaces -/
def Kw (l : List Env) (h h' : Heap) : Prop := ∀ b o, h.get? b = some o → h'.get? b = some o ∨ ((∃ env ∈ l, env.frame = some b) ∧ (∃ es k, o.data = .dict es k) ∧ ∃ sl, h'.get? b = some { o with slots := sl })
/-- the frames about a call: their namespaces stand -/
def StkL (l : List Env) (F : PM) (h : Heap) : Prop := ∀ env ∈ l, env.scope.kind ≠ .module ∧ ∃ L o, env.frame = some L ∧ F L = none ∧ h.get? L = some o ∧ ∃ es k, o.data = .dict es k
/-- how a frame keeps what stood: wholly, or (where the frames about it are known) but for the slots of namespaces -/
def Keep (m : Option (List Env)) (h h' : Heap) : Prop := match m with
  | none => Kp h h'
  | some l => Kw l h h'
def Rm (n : Nat) (env : Env) (stk : Option (List Env)) (A : Around) : Prop := Room n A ∧ ∀ l, stk = some l → A.frames = some (env :: l)
structure Fc where
  s₀ : Shared
  F₀ : PM
  env : Env
  mc : List (Str × Addr)
  pin : List (Addr × Obj)
  stk : Option (List Env)
def NoDict (o : Obj) : Prop := ∀ es k, o.data ≠ .dict es k

structure AS where
  ρ : List (Str × PV)
  own : Option (Str × Addr × List PV)
  κ : List (Value × PV)
abbrev AS.push (σ : AS) (v : Value) (p : PV) : AS := ⟨σ.ρ, σ.own, (v, p) :: σ.κ⟩

def Val (fr : Fc) (m cm : Str → Option Value) (x : Str) (v : Value) : Prop :=
  (fr.env.kindOf x = some .local ∧ m x = some v) ∨
  (fr.env.kindOf x = some .cell ∧ ∃ c, fr.env.cells.lookup x = some c ∧ fr.mc.lookup x = some c ∧ cm x = some v) ∨
  ((fr.env.kindOf x = some .cell ∨ fr.env.kindOf x = some .free) ∧ ∃ c, fr.env.cells.lookup x = some c ∧ fr.s₀.heap.IsCell c (some v))

structure Loc (fr : Fc) (F : PM) (σ : AS) (h : Heap) (m cm : Str → Option Value) : Prop where
  ns : h.Ns fr.env.locals m
  offL : F fr.env.locals = none
  fresh : fr.s₀.heap.get? fr.env.locals = none
  cell : ∀ x d, fr.mc.lookup x = some d → h.IsCell d (cm x) ∧ d ≠ fr.env.locals ∧ F d = none ∧ fr.s₀.heap.get? d = none
  apart : ∀ x y d, fr.mc.lookup x = some d → fr.mc.lookup y = some d → x = y
  val : ∀ x p, σ.ρ.lookup x = some p → ∃ v, Rep F p v ∧ Val fr m cm x v
  own : ∀ x l ps, σ.own = some (x, l, ps) → fr.env.kindOf x = some .local ∧ m x = some (.ref l) ∧ (∃ vs n, h.get? l = some (lstObj vs n) ∧ Reps F ps vs) ∧ F l = none ∧ fr.s₀.heap.get? l = none ∧ l ≠ fr.env.locals ∧ ∀ x d, fr.mc.lookup x = some d → l ≠ d
  pin : ∀ q ∈ fr.pin, h.get? q.1 = some q.2 ∧ F q.1 = none ∧ q.1 ≠ fr.env.locals ∧ fr.s₀.heap.get? q.1 = none ∧ (∀ x d, fr.mc.lookup x = some d → q.1 ≠ d) ∧ ∀ x l ps, σ.own = some (x, l, ps) → q.1 ≠ l
  pinD : ∀ q ∈ fr.pin, fr.stk = none ∨ NoDict q.2

structure Holds (c : Cx) (fr : Fc) (F : PM) (σ : AS) (h : Heap) : Prop where
  base : Base c fr.F₀
  kind : fr.env.scope.kind = .function
  outer : ∀ l, fr.stk = some l → StkL l fr.F₀ fr.s₀.heap ∧ fr.env.frame = some fr.env.locals
  le : Le fr.F₀ F
  sub : Sub F h
  keep : Keep fr.stk fr.s₀.heap h
  new : ∀ a o, F a = some o → fr.F₀ a = some o ∨ fr.s₀.heap.get? a = none
  loc : ∃ m cm, Loc fr F σ h m cm
  tmp : ∀ q ∈ σ.κ, Rep F q.2 q.1

theorem Kw.of {l : List Env} {h h' : Heap} (k : Kp h h') : Kw l h h' := fun b o e => .inl (k b o e)
theorem Kw.refl (l : List Env) (h : Heap) : Kw l h h := fun _ _ e => .inl e
theorem Kw.trans {l : List Env} {h₁ h₂ h₃ : Heap} (x : Kw l h₁ h₂) (y : Kw l h₂ h₃) : Kw l h₁ h₃ := fun b o e => by
  rcases x b o e with e1 | ⟨m, d, sl, e1⟩
  · exact y b o e1
  · rcases y b _ e1 with e2 | ⟨_, _, sl', e2⟩
    · exact .inr ⟨m, d, sl, e2⟩
    · exact .inr ⟨m, d, sl', e2⟩
theorem Kw.exact {l : List Env} {h h' : Heap} (k : Kw l h h') {b : Addr} {o : Obj} (n : NoDict o) (e : h.get? b = some o) : h'.get? b = some o := by
  rcases k b o e with z | ⟨_, ⟨es, kk, d⟩, _⟩
  · exact z
  · exact absurd d (n es kk)
theorem Kw.some {l : List Env} {h h' : Heap} (k : Kw l h h') {b : Addr} {o : Obj} (e : h.get? b = some o) : ∃ o', h'.get? b = some o' ∧ o'.data = o.data := by
  rcases k b o e with z | ⟨_, _, sl, z⟩
  · exact ⟨o, z, rfl⟩
  · exact ⟨_, z, rfl⟩
theorem Kw.ns {l : List Env} {h h' : Heap} (k : Kw l h h') {a : Addr} {m : Str → Option Value} (n : h.Ns a m) : h'.Ns a m := by
  obtain ⟨o, es, ep, ho, hd, r⟩ := n
  obtain ⟨o', ho', hd'⟩ := k.some ho
  exact ⟨o', es, ep, ho', hd'.trans hd, r⟩
theorem Kw.cell {l : List Env} {h h' : Heap} (k : Kw l h h') {a : Addr} {v : Option Value} (n : h.IsCell a v) : h'.IsCell a v := by
  obtain ⟨o, ho, hd⟩ := n
  obtain ⟨o', ho', hd'⟩ := k.some ho
  exact ⟨o', ho', hd'.trans hd⟩
theorem Keep.w {m : Option (List Env)} {h h' : Heap} (k : Keep m h h') : Kw (m.getD []) h h' := by
  cases m with
  | none => exact Kw.of k
  | some l => exact k
theorem Keep.of {m : Option (List Env)} {h h' : Heap} (k : Kp h h') : Keep m h h' := by
  cases m with
  | none => exact k
  | some l => exact Kw.of k
theorem Keep.refl (m : Option (List Env)) (h : Heap) : Keep m h h := Keep.of (Kp.refl h)
theorem Keep.trans {m : Option (List Env)} {h₁ h₂ h₃ : Heap} (x : Keep m h₁ h₂) (y : Keep m h₂ h₃) : Keep m h₁ h₃ := by
  cases m with
  | none => exact Kp.trans x y
  | some l => exact Kw.trans x y
theorem Kw.none {l : List Env} {h h' : Heap} (k : Kw l h h') {a : Addr} (e : h'.get? a = none) : h.get? a = none := by
  cases q : h.get? a with
  | none => rfl
  | some o => obtain ⟨o', z, _⟩ := k.some q; rw [z] at e; cases e
theorem Keep.none {m : Option (List Env)} {h h' : Heap} (k : Keep m h h') {a : Addr} (e : h'.get? a = none) : h.get? a = none := k.w.none e
/-- a change that spares what stood at first -/
theorem Keep.more {m : Option (List Env)} {h₀ h h' : Heap} (k : Keep m h₀ h) (e : ∀ b o₀ o, h₀.get? b = some o₀ → h.get? b = some o → h'.get? b = some o) : Keep m h₀ h' := by
  cases m with
  | none => exact fun b o q => e b o o q (k b o q)
  | some l =>
    intro b o q
    rcases k b o q with z | ⟨m, d, sl, z⟩
    · exact .inl (e b o o q z)
    · exact .inr ⟨m, d, sl, e b o _ q z⟩
theorem StkL.step {l l' : List Env} {F F' : PM} {h h' : Heap} (s : StkL l F h) (k : Kw l' h h') (n : ∀ a o, F' a = some o → F a = some o ∨ h.get? a = none) : StkL l F' h' := fun env he => by
  obtain ⟨h1, L, o, h2, h3, h4, es, kk, h5⟩ := s env he
  obtain ⟨o', z, d⟩ := k.some h4
  refine ⟨h1, L, o', h2, ?_, z, es, kk, d.trans h5⟩
  cases q : F' L with
  | none => rfl
  | some x =>
    rcases n L x q with w | w
    · rw [h3] at w; cases w
    · rw [h4] at w; cases w
theorem Rm.mono {m n : Nat} {env : Env} {stk : Option (List Env)} {A : Around} (h : m ≤ n) (r : Rm n env stk A) : Room m A := ⟨by have := r.1.1; omega, by have := r.1.2.1; omega, r.1.2.2⟩
theorem Rm.up {m n : Nat} {env : Env} {stk : Option (List Env)} {A : Around} (h : m ≤ n) (r : Rm n env stk A) : Rm m env stk A := ⟨r.mono h, r.2⟩
theorem Rm.strong {n : Nat} {env : Env} {A : Around} (r : Room n A) : Rm n env none A := ⟨r, fun _ z => by cases z⟩
section
variable {c : Cx} {fr : Fc} {F F' : PM} {σ : AS} {h h' : Heap}
theorem Holds.baseF (x : Holds c fr F σ h) : Base c F := x.base.mono x.le
theorem Holds.inK (x : Holds c fr F σ h) : (KK c.w).In h := x.baseF.inK x.sub
theorem Holds.kpH (x : Holds c fr F σ h) : Kp c.H h := x.baseF.kp x.sub
theorem Kp.none (k : Kp h h') {a : Addr} (e : h'.get? a = none) : h.get? a = none := by
  cases q : h.get? a with
  | none => rfl
  | some o => rw [k _ _ q] at e; cases e
theorem Ext.off {a : Addr} {o : Obj} (e : Ext F F' h h') (n : F a = none) (l : h.get? a = some o) : F' a = none := by
  cases q : F' a with
  | none => rfl
  | some o =>
    rcases e.new a o q with z | z
    · rw [n] at z; cases z
    · rw [l] at z; cases z
theorem Holds.step (x : Holds c fr F σ h) (k : Kp h h') (e : Ext F F' h h') : Holds c fr F' σ h' := by
  obtain ⟨m, cm, L⟩ := x.loc
  refine ⟨x.base, x.kind, x.outer, x.le.trans e.le, e.sub, x.keep.trans (.of k), fun a o q => ?_, ⟨m, cm, ⟨L.ns.keeps k, ?_, L.fresh, fun y d q => ?_, L.apart, fun y p q => ?_, fun y l ps q => ?_, fun z hz => ?_, L.pinD⟩⟩, fun q hq => (x.tmp q hq).mono e.le⟩
  · rcases e.new a o q with z | z
    · exact x.new a o z
    · exact .inr (x.keep.none z)
  · obtain ⟨oL, _, _, hL, _⟩ := L.ns
    exact e.off L.offL hL
  · obtain ⟨q1, q2, q3, q4⟩ := L.cell y d q
    obtain ⟨oo, ho, _⟩ := id q1
    exact ⟨q1.keeps k, q2, e.off q3 ho, q4⟩
  · obtain ⟨v, r, z⟩ := L.val y p q
    exact ⟨v, r.mono e.le, z⟩
  · obtain ⟨q1, q2, ⟨vs, n, q3, q4⟩, q5, q6, q7, q8⟩ := L.own y l ps q
    exact ⟨q1, q2, ⟨vs, n, k _ _ q3, q4.mono e.le⟩, e.off q5 q3, q6, q7, q8⟩
  · obtain ⟨q1, q2, q3⟩ := L.pin z hz
    exact ⟨k _ _ q1, e.off q2 q1, q3⟩
/-- a step that may have turned the slots of namespaces -/
theorem Holds.stepW {l : List Env} (x : Holds c fr F σ h) (hs : fr.stk = some l) (k : Kw (fr.env :: l) h h') (e : Ext F F' h h') : Holds c fr F' σ h' := by
  obtain ⟨m, cm, L⟩ := x.loc
  refine ⟨x.base, x.kind, x.outer, x.le.trans e.le, e.sub, (by
      rw [hs]
      intro b o q
      have hk := x.keep
      rw [hs] at hk
      rcases hk b o q with z | ⟨m, d, sl, z⟩
      · rcases k b o z with w | ⟨⟨env, hm, hf⟩, d, sl, w⟩
        · exact .inl w
        · rcases List.mem_cons.mp hm with rfl | hm
          · rw [(x.outer l hs).2] at hf
            cases hf
            rw [L.fresh] at q
            cases q
          · exact .inr ⟨⟨env, hm, hf⟩, d, sl, w⟩
      · rcases k b _ z with w | ⟨_, _, sl', w⟩
        · exact .inr ⟨m, d, sl, w⟩
        · exact .inr ⟨m, d, sl', w⟩), fun a o q => ?_, ⟨m, cm, ⟨k.ns L.ns, ?_, L.fresh, fun y d q => ?_, L.apart, fun y p q => ?_, fun y l ps q => ?_, fun z hz => ?_, L.pinD⟩⟩, fun q hq => (x.tmp q hq).mono e.le⟩
  · rcases e.new a o q with z | z
    · exact x.new a o z
    · exact .inr (x.keep.none z)
  · obtain ⟨oL, _, _, hL, _⟩ := L.ns
    exact e.off L.offL hL
  · obtain ⟨q1, q2, q3, q4⟩ := L.cell y d q
    obtain ⟨oo, ho, _⟩ := id q1
    exact ⟨k.cell q1, q2, e.off q3 ho, q4⟩
  · obtain ⟨v, r, z⟩ := L.val y p q
    exact ⟨v, r.mono e.le, z⟩
  · obtain ⟨q1, q2, ⟨vs, n, q3, q4⟩, q5, q6, q7, q8⟩ := L.own y l ps q
    exact ⟨q1, q2, ⟨vs, n, k.exact (by intro es kk z; cases z) q3, q4.mono e.le⟩, e.off q5 q3, q6, q7, q8⟩
  · obtain ⟨q1, q2, q3⟩ := L.pin z hz
    rcases L.pinD z hz with w | w
    · rw [hs] at w; cases w
    · exact ⟨k.exact w q1, e.off q2 q1, q3⟩
theorem Holds.stkAt {l : List Env} (x : Holds c fr F σ h) (hs : fr.stk = some l) : StkL (fr.env :: l) F h := by
  obtain ⟨x1, x2⟩ := x.outer l hs
  intro env he
  rcases List.mem_cons.mp he with rfl | he
  · obtain ⟨m, cm, L⟩ := x.loc
    obtain ⟨o, es, ep, ho, hd, _⟩ := L.ns
    exact ⟨by rw [x.kind]; decide, fr.env.locals, o, x2, L.offL, ho, es, ep, hd⟩
  · exact x1.step x.keep.w x.new env he
theorem Holds.push (x : Holds c fr F σ h) {v : Value} {p : PV} (r : Rep F p v) : Holds c fr F (σ.push v p) h :=
  ⟨x.base, x.kind, x.outer, x.le, x.sub, x.keep, x.new, x.loc.imp fun m y => y.imp fun cm L => ⟨L.ns, L.offL, L.fresh, L.cell, L.apart, L.val, L.own, L.pin, L.pinD⟩, fun q hq => by
    rcases List.mem_cons.mp hq with rfl | hq
    · exact r
    · exact x.tmp q hq⟩
theorem Holds.drop {κ : List (Value × PV)} (x : Holds c fr F σ h) (hκ : ∀ q ∈ κ, q ∈ σ.κ) : Holds c fr F ⟨σ.ρ, σ.own, κ⟩ h :=
  ⟨x.base, x.kind, x.outer, x.le, x.sub, x.keep, x.new, x.loc.imp fun m y => y.imp fun cm L => ⟨L.ns, L.offL, L.fresh, L.cell, L.apart, L.val, L.own, L.pin, L.pinD⟩, fun q hq => x.tmp q (hκ q hq)⟩
end

/-- a step that changes nothing that stood -/
def Steps (c : Cx) {α : Type} (n : Nat) (t : Sem α) (P : PM → Heap → Prop) (R : PM → Heap → α → Prop) : Prop :=
  ∀ A, Room n A → ∀ F s, Base c F → Sub F s.heap → P F s.heap → ∀ Q : α → Shared → Prop,
    (∀ a F' h' tk, Kp s.heap h' → Ext F F' s.heap h' → R F' h' a → Q a { s with heap := h', toks := tk }) → wpAny c.M A t Q (fun _ _ => False) s

def J (c : Cx) {α : Type} (n : Nat) (fr : Fc) (σ : AS) (t : Sem α) (Φ : α → AS → Prop) : Prop :=
  ∀ A, Rm n fr.env fr.stk A → ∀ F s, Holds c fr F σ s.heap → ∀ Q : α → Shared → Prop,
    (∀ a σ' F' h' tk, Φ a σ' → Holds c fr F' σ' h' → Q a { s with heap := h', toks := tk }) → wpAny c.M A t Q (fun _ _ => False) s

section
variable {c : Cx} {α β : Type} {n : Nat} {fr : Fc} {σ : AS} {Φ : α → AS → Prop}
theorem J_pure {a : α} (h : Φ a σ) : J c n fr σ (pure a) Φ := fun A r F s H Q k => wpAny_pure (k a σ F s.heap s.toks h H)
theorem J_mono {t : Sem α} {Ψ : α → AS → Prop} (h : J c n fr σ t Φ) (i : ∀ a σ', Φ a σ' → Ψ a σ') : J c n fr σ t Ψ :=
  fun A r F s H Q k => h A r F s H Q fun a σ' F' h' tk q => k a σ' F' h' tk (i a σ' q)
theorem J_bind {m : Sem α} {f : α → Sem β} {Ψ : β → AS → Prop} (h : J c n fr σ m fun a σ' => J c n fr σ' (f a) Ψ) : J c n fr σ (m >>= f) Ψ :=
  fun A r F s H Q k => wpAny_bind (h A r F s H _ fun a σ' F' h' tk q H' => q A r F' _ H' Q fun b σ'' F'' h'' tk' z H'' => k b σ'' F'' h'' tk' z H'')
theorem J_map {m : Sem α} {f : α → β} {Ψ : β → AS → Prop} (h : J c n fr σ m fun a σ' => Ψ (f a) σ') : J c n fr σ (f <$> m) Ψ :=
  fun A r F s H Q k => wpAny_map (h A r F s H _ fun a σ' F' h' tk q H' => k (f a) σ' F' h' tk q H')
theorem J_eq {t t' : Sem α} (e : t = t') (h : J c n fr σ t' Φ) : J c n fr σ t Φ := e ▸ h
theorem J_holding {vs : List Value} {m : Sem α} (h : J c n fr σ m Φ) : J c n fr σ (holding vs m) Φ := fun A r F s H Q k => wpAny_holding (h A r F s H Q k)
theorem J_keep {vs : List Value} {m : Sem α} (h : J c n fr σ m Φ) : J c n fr σ (m.keep vs) Φ := fun A r F s H Q k => wpAny_keep (h A r F s H Q k)
theorem J_operate {vs : List Value} {m : Sem Value} {Φ : Value → AS → Prop} (h : J c n fr σ m Φ) : J c n fr σ (operate vs m) Φ := fun A r F s H Q k => wpAny_operating (h A r F s H Q k)
theorem J_standAt {pos : Pos} {Φ : Unit → AS → Prop} (h : Φ () σ) : J c n fr σ (standAt pos) Φ := fun A r F s H Q k => wpAny_standAt (k () σ F s.heap s.toks h H)
theorem J_rule {tag : String} {Φ : Unit → AS → Prop} (h : Φ () σ) : J c n fr σ (rule tag) Φ := fun A r F s H Q k => wpAny_rule (k () σ F s.heap s.toks h H)
theorem J_point {Φ : Unit → AS → Prop} (h : Φ () σ) : J c n fr σ point Φ := fun A r F s H Q k => wpAny_point (k () σ F s.heap s.toks h H)
theorem J_release {vs keep : List Value} {Φ : Unit → AS → Prop} (h : Φ () σ) : J c n fr σ (release vs keep) Φ := fun A r F s H Q k => wpAny_release (k () σ F s.heap s.toks h H)
theorem J_looks {t : Sem α} {a : α} (l : ∀ F h, Holds c fr F σ h → Looks c.M h t a) (h : Φ a σ) : J c n fr σ t Φ :=
  fun A r F s H Q k => (l F s.heap H).here (k a σ F s.heap s.toks h H)
theorem J_drop {t : Sem α} {κ : List (Value × PV)} (hκ : ∀ q ∈ κ, q ∈ σ.κ) (h : J c n fr ⟨σ.ρ, σ.own, κ⟩ t Φ) : J c n fr σ t Φ :=
  fun A r F s H Q k => h A r F s (H.drop hκ) Q k
/-- value v represents p wherever σ holds -/
def Has (c : Cx) (σ : AS) (v : Value) (p : PV) : Prop := ∀ fr F h, Holds c fr F σ h → Rep F p v
theorem Has.mem {v : Value} {p : PV} (h : (v, p) ∈ σ.κ) : Has c σ v p := fun _ _ _ H => H.tmp _ h
theorem Has.bool {b : Bool} : Has c σ (.bool b) (.bool b) := fun _ _ _ _ => rfl
theorem Has.none : Has c σ .none .none := fun _ _ _ _ => rfl
theorem Has.int {i : Int} {t : Tok} : Has c σ (.int i t) (.int i) := fun _ _ _ _ => ⟨t, rfl⟩
theorem Has.str {x : Str} {t : Tok} : Has c σ (.str x t) (.str x) := fun _ _ _ _ => ⟨t, rfl⟩
theorem Has.val {v : Value} : Has c σ v (.val v) := fun _ _ _ _ => rfl
inductive HasAll (c : Cx) (σ : AS) : List Value → List PV → Prop
  | nil : HasAll c σ [] []
  | cons {v p vs ps} : Has c σ v p → HasAll c σ vs ps → HasAll c σ (v :: vs) (p :: ps)
theorem HasAll.reps {vs : List Value} {ps : List PV} (x : HasAll c σ vs ps) {F : PM} {h : Heap} (H : Holds c fr F σ h) : Reps F ps vs := by
  induction x with
  | nil => rfl
  | cons a _ ih => exact ⟨_, _, rfl, a _ _ _ H, ih⟩
theorem J_steps {t : Sem α} {P : PM → Heap → Prop} {R : PM → Heap → α → Prop} (f : α → AS) (h : Steps c n t P R) (hp : ∀ F h, Holds c fr F σ h → P F h)
    (hf : ∀ F h a, Holds c fr F σ h → R F h a → Holds c fr F (f a) h) (k : ∀ a, Φ a (f a)) : J c n fr σ t Φ :=
  fun A r F s H Q q => h A r.1 F s H.baseF H.sub (hp F s.heap H) Q fun a F' h' tk kp e ra => q a (f a) F' h' tk (k a) (hf F' h' a (H.step kp e) ra)
/-- a step whose value represents p -/
theorem J_val {t : Sem Value} {P : PM → Heap → Prop} {p : PV} {Φ : Value → AS → Prop} (h : Steps c n t P fun F _ v => Rep F p v) (hp : ∀ F h, Holds c fr F σ h → P F h)
    (k : ∀ v, Φ v (σ.push v p)) : J c n fr σ t Φ :=
  fun A r F s H Q q => h A r.1 F s H.baseF H.sub (hp F s.heap H) Q fun a F' h' tk kp e ra => q a (σ.push a p) F' h' tk (k a) ((H.step kp e).push ra)
end

end Mine
end

-- J2
section
open PySem PySem.W PyProof.Rows PySem.Calls
namespace Mine

def KReps (F : PM) (kws : List (Str × PV)) (kvs : List (Str × Value)) : Prop := kvs.map (·.1) = kws.map (·.1) ∧ Reps F (kws.map (·.2)) (kvs.map (·.2))
theorem KReps.nil {F : PM} : KReps F [] [] := ⟨rfl, rfl⟩
/-- what a code's end is asked -/
def EndC (Q : Value → Shared → Prop) : Result → Shared → Prop := fun r s' => match r with
  | .ok (.ret v) => Q v s'
  | _ => False
/-- the contract of a call -/
def CT (c : Cx) (n : Nat) (f : Value) (ps : List PV) (kws : List (Str × PV)) (p : PV) : Prop :=
  ∀ vs kvs A, Room n A → ∀ F s, Base c F → Sub F s.heap → Reps F ps vs → KReps F kws kvs → ∀ Q : Value → Shared → Prop,
    (∀ v F' h' tk, Kp s.heap h' → Ext F F' s.heap h' → Rep F' p v → Q v { s with heap := h', toks := tk }) → codeAny c.M A (.call f ⟨vs, kvs⟩) (EndC Q) s

theorem Room.mono {m n : Nat} {A : Around} (h : m ≤ n) (r : Room n A) : Room m A := ⟨by have := r.1; omega, by have := r.2.1; omega, r.2.2⟩
theorem Steps.mono {c : Cx} {α : Type} {m n : Nat} {t : Sem α} {P : PM → Heap → Prop} {R : PM → Heap → α → Prop} (h : m ≤ n) (x : Steps c m t P R) : Steps c n t P R :=
  fun A r => x A (r.mono h)
theorem CT.mono {c : Cx} {m n : Nat} {f : Value} {ps : List PV} {kws : List (Str × PV)} {p : PV} (h : m ≤ n) (x : CT c m f ps kws p) : CT c n f ps kws p := fun vs kvs A r => x vs kvs A (r.mono h)
theorem J.room {c : Cx} {α : Type} {m n : Nat} {fr : Fc} {σ : AS} {t : Sem α} {Φ : α → AS → Prop} (h : m ≤ n) (x : J c m fr σ t Φ) : J c n fr σ t Φ := fun A r => x A (r.up h)

def RetP (c : Cx) (p : PV) : Flow → AS → Prop := fun fl σ' => match fl with
  | .ret v => Has c σ' v p
  | _ => p = .none

theorem bind_val {kindOf : Str → Option NameKind} : ∀ (binds : List (Str × Value)) (m cm : Str → Option Value), (binds.map (·.1)).Nodup →
    (∀ x v, binds.lookup x = some v → (kindOf x = some .local → bindL kindOf binds m x = some v) ∧ (kindOf x ≠ some .local → bindC kindOf binds cm x = some v)) ∧
    (∀ x, x ∉ binds.map (·.1) → bindL kindOf binds m x = m x ∧ bindC kindOf binds cm x = cm x)
  | [], m, cm, _ => ⟨fun _ _ e => by simp at e, fun _ _ => ⟨rfl, rfl⟩⟩
  | (n, v) :: r, m, cm, nd => by
    simp only [List.map_cons, List.nodup_cons] at nd
    have ih := fun m cm => bind_val r m cm nd.2 (kindOf := kindOf)
    refine ⟨fun x w e => ?_, fun x hx => ?_⟩
    · rw [List.lookup_cons] at e
      cases q : x == n with
      | true =>
        rw [q] at e; cases e
        obtain rfl : x = n := beq_iff_eq.mp q
        unfold bindL bindC
        refine ⟨fun hk => ?_, fun hk => ?_⟩
        · rw [if_pos hk, ((ih _ cm).2 x nd.1).1, if_pos rfl]
        · rw [if_neg hk, ((ih m _).2 x nd.1).2, if_pos rfl]
      | false =>
        rw [q] at e
        unfold bindL bindC
        exact ⟨fun hk => ((ih _ cm).1 x w e).1 hk, fun hk => ((ih m _).1 x w e).2 hk⟩
    · simp only [List.map_cons, List.mem_cons, not_or] at hx
      unfold bindL bindC
      rw [((ih _ cm).2 x hx.2).1, ((ih m _).2 x hx.2).2]
      constructor
      · split
        · simp [hx.1]
        · rfl
      · split
        · rfl
        · simp [hx.1]

theorem lookup_zip {F : PM} : ∀ {binds : List (Str × Value)} {names : List Str} {pvs : List PV}, binds.map (·.1) = names → Reps F pvs (binds.map (·.2)) → ∀ {x p}, (names.zip pvs).lookup x = some p → ∃ v, binds.lookup x = some v ∧ Rep F p v
  | [], names, pvs, hn, hr, x, p, e => by
    subst hn; simp at e
  | (n, v) :: r, names, pvs, hn, hr, x, p, e => by
    subst hn
    cases pvs with
    | nil => simp at e
    | cons q qs =>
      obtain ⟨v', vs', e1, r1, rs⟩ := hr
      simp only [List.map_cons, List.cons.injEq] at e1
      obtain ⟨rfl, rfl⟩ := e1
      simp only [List.map_cons, List.zip_cons_cons, List.lookup_cons] at e ⊢
      cases hx : x == n with
      | true => rw [hx] at e; cases e; exact ⟨_, rfl, r1⟩
      | false => rw [hx] at e; exact lookup_zip (binds := r) rfl rs e

theorem CT_def {c : Cx} {n : Nat} {f : Addr} {oc : Value} {od : Option Addr} {sl : Array (Option Value)} {fd : FuncData} {body : List Stmt} {ps : List PV} {kws : List (Str × PV)} {p : PV} {names : List Str} {pvs : List PV}
    (ho : (KK c.w).lookup f = some ⟨oc, od, .func fd, sl⟩) (hb : fd.body = .stmts body) (hcl : fd.closure = []) (hcd : codeIn (KK c.w) fd.code fd.qualname = true)
    (hbind : ∀ vs kvs, Steps c n (bindArgs fd ⟨vs, kvs⟩) (fun F _ => Reps F ps vs ∧ KReps F kws kvs) (fun F _ b => b.map (·.1) = names ∧ Reps F pvs (b.map (·.2))))
    (hnd : names.Nodup) (hkind : ∀ L, ∀ x ∈ names, fd.scope.names.lookup x = some .local ∨ (fd.scope.names.lookup x = some .cell ∧ ((cellsFrom (L + 1) fd.scope.names []).lookup x).isSome = true))
    (hJ : ∀ s₀ F₀ L, J c n ⟨s₀, F₀, callEnvC fd L f, (callEnvC fd L f).cells, [], none⟩ ⟨names.zip pvs, none, []⟩ (execs body (callEnvC fd L f)) (RetP c p))
    (hco : fd.scope.isCoroutine = false := by rfl) (hgen : fd.scope.isGenerator = false := by rfl) (hk : fd.scope.kind = .function := by rfl) :
    CT c (n + 1) (.ref f) ps kws p := by
  intro vs kvs A r F s hB hS hP1 hP2 Q hQ
  have hP := And.intro hP1 hP2
  have r1 : Room n A.in1 := ⟨by have := r.1; show A.depth + 2 * n < 1000; omega, by have := r.2.1; show A.units + 1 + 30 * n < 9900; omega, r.2.2⟩
  refine codeAny_call_function (by have := r.1; show A.depth < 1000; omega) ((hB.inK hS) _ _ ho) rfl hco hgen hb (codeRec_of (hB.inK hS) hcd) ?_
  refine wpAny_mono (hbind vs kvs A.in1 r1 F s hB hS hP _ fun binds F' h' tk kp e hr => ?_) (fun _ _ x => x) (fun _ _ x => x.elim)
  obtain ⟨hr1, hr2⟩ := hr
  rw [hcl]
  refine wpAny_newFunctionEnv_cells hk (fun x hx => hkind _ x.1 (hr1 ▸ List.mem_map_of_mem hx)) fun env he s' x => ?_
  subst he
  refine ⟨(c.nolimit.keeps (hB.kp hS)).keeps fun b o q => x.toInCall.keep b o (kp b o q), codeAny_func ?_⟩
  obtain ⟨h₁, tk₁, hs'⟩ := x.toInCall.same
  subst hs'
  have r2 : Room n (A.deeper (callEnvC fd h'.objs.size f)) := ⟨by have := r.1; show A.depth + 1 + 2 * n < 1000; omega, by have := r.2.1; show A.units + 3 + 30 * n < 9900; omega, r.2.2⟩
  have off : ∀ a, h'.objs.size ≤ a → F' a = none := fun a ha => by
    cases q : F' a with
    | none => rfl
    | some o => exact absurd (Heap.lt_size (e.sub a o q)) (Nat.not_lt.mpr ha)
  have hn : (binds.map (·.1)).Nodup := hr1 ▸ hnd
  have H : Holds c ⟨{ s with heap := h', toks := tk }, F', callEnvC fd h'.objs.size f, (callEnvC fd h'.objs.size f).cells, [], none⟩ F' ⟨names.zip pvs, none, []⟩ h₁ := by
    have none_of : ∀ a, h'.objs.size ≤ a → h'.get? a = none := fun a ha => by
      cases q : h'.get? a with
      | none => rfl
      | some o => exact absurd (Heap.lt_size q) (Nat.not_lt.mpr ha)
    refine ⟨hB.mono e.le, hk, nofun, Le.refl _, fun a o q => x.toInCall.keep a o (e.sub a o q), fun b o q => x.toInCall.keep b o q, fun a o q => .inl q, ⟨_, (bindC (callEnvC fd h'.objs.size f).kindOf binds fun _ => none), ⟨x.toInCall.ns, off _ (Nat.le_refl _), none_of _ (Nat.le_refl _), fun y d q => ?_, fun y y' d q q' => name_of_addr x.apart (PySem.mem_of_lookup q) (PySem.mem_of_lookup q'), fun y p q => ?_, fun y l ps q => (by cases q), fun q hq => (nomatch hq), fun q hq => (nomatch hq)⟩⟩, fun q hq => (nomatch hq)⟩
    · have ab := x.above y d (PySem.mem_of_lookup q)
      exact ⟨x.cell y d q, Nat.ne_of_gt ab, off d (Nat.le_of_lt ab), none_of d (Nat.le_of_lt ab)⟩
    · obtain ⟨v, hv, hrv⟩ := lookup_zip hr1 hr2 q
      have hm : y ∈ names := by
        rw [← hr1]
        exact List.mem_map_of_mem (PySem.mem_of_lookup hv)
      have bv := (bind_val (kindOf := (callEnvC fd h'.objs.size f).kindOf) binds (fun _ => none) (fun _ => none) hn).1 y v hv
      rcases hkind h'.objs.size y hm with hl | ⟨hl, hs⟩
      · exact ⟨v, hrv, .inl ⟨hl, bv.1 hl⟩⟩
      · obtain ⟨d, hd⟩ := Option.isSome_iff_exists.mp hs
        have hl' : (callEnvC fd h'.objs.size f).kindOf y = some .cell := hl
        exact ⟨v, hrv, .inr (.inl ⟨hl', d, hd, hd, bv.2 (by rw [hl']; decide)⟩)⟩
  refine wpAny_mono (hJ _ _ _ _ (Rm.strong r2) F' _ H (fun fl s' => Q (match fl with | .ret v => v | _ => .none) s') fun fl σ' F'' h'' tk'' hΦ H' => ?_) (fun fl s' q => q) (fun _ _ x => x.elim)
  have kp' : Kp s.heap h'' := kp.trans H'.keep
  have e' : Ext F F'' s.heap h'' := ⟨e.le.trans H'.le, H'.sub, fun a o q => by
    rcases H'.new a o q with z | z
    · exact e.new a o z
    · exact .inr (kp.none z)⟩
  refine hQ _ F'' h'' tk'' kp' e' ?_
  cases fl with
  | ret v => exact hΦ _ _ _ H'
  | _ => unfold RetP at hΦ; dsimp only at hΦ ⊢; rw [hΦ]; exact rfl
end Mine
end

-- J3
section
open PySem PySem.W PyProof.Rows PySem.Calls
namespace Mine
section
variable {c : Cx} {α β : Type} {n : Nat} {fr : Fc} {σ : AS} {env : Env}

/-- a rule of the library turned -/
theorem J_two {t : Sem α} {m : Sem β} {f : β → Sem α} {Φ : α → AS → Prop}
    (rule : ∀ (A : Around) (s : Shared) (Q : α → Shared → Prop), wpAny c.M A m (fun a s' => wpAny c.M A (f a) Q (fun _ _ => False) s') (fun _ _ => False) s → wpAny c.M A t Q (fun _ _ => False) s)
    (h : J c n fr σ m fun a σ' => J c n fr σ' (f a) Φ) : J c n fr σ t Φ :=
  fun A r F s H Q k => rule A s Q (h A r F s H _ fun a σ' F' h' tk q H' => q A r F' _ H' Q fun b σ'' F'' h'' tk' z H'' => k b σ'' F'' h'' tk' z H'')
theorem J_one {t m : Sem α} {Φ : α → AS → Prop}
    (rule : ∀ (A : Around) (s : Shared) (Q : α → Shared → Prop), wpAny c.M A m Q (fun _ _ => False) s → wpAny c.M A t Q (fun _ _ => False) s)
    (h : J c n fr σ m Φ) : J c n fr σ t Φ :=
  fun A r F s H Q k => rule A s Q (h A r F s H Q k)

-- names
theorem J_name {x : Str} {pos : Pos} {p : PV} {Φ : Value → AS → Prop} (hl : σ.ρ.lookup x = some p) (k : ∀ v, Φ v (σ.push v p)) (hd : (x == ("__debug__" : Str)) = false := by decide) (hn : (x == ("__classdict__" : Str)) = false := by decide) :
    J c n fr σ (eval (.Name x pos) fr.env) Φ := fun A r F s H Q q => by
  obtain ⟨m, cm, L⟩ := H.loc
  obtain ⟨v, rv, z⟩ := L.val x p hl
  have fin : Q v s := q v (σ.push v p) F s.heap s.toks (k v) (H.push rv)
  refine wpAny_Name ?_ hd
  rcases z with ⟨z1, z2⟩ | ⟨z1, d, z2, z3, z4⟩ | ⟨z1, d, z2, z3⟩
  · exact wpAny_loadName_local H.kind z1 L.ns z2 fin
  · have := (L.cell x d z3).1
    rw [z4] at this
    exact wpAny_loadName_cell H.kind z1 z2 this fin
  · rcases z1 with z1 | z1
    · exact wpAny_loadName_cell H.kind z1 z2 (H.keep.w.cell z3) fin
    · exact wpAny_loadName_free H.kind z1 z2 (H.keep.w.cell z3) fin hn
theorem J_glob {x : Str} {pos : Pos} {v : Value} {Φ : Value → AS → Prop} (e : nsIn (KK c.w) mainGlobals x = some (some v)) (k : Φ v σ) (hx : fr.env.kindOf x = some .globalImplicit) (hg : fr.env.globals = mainGlobals := by rfl) (hd : (x == ("__debug__" : Str)) = false := by decide) :
    J c n fr σ (eval (.Name x pos) fr.env) Φ := fun A r F s H Q q =>
  Name_function_global H.kind hx (loadGlobal_global (hg ▸ c.g.keeps H.kpH) (mg_of c.X c.g e) (q v σ F s.heap s.toks k H)) hd
theorem J_builtin {x : Str} {pos : Pos} {v : Value} {Φ : Value → AS → Prop} (e : nsIn (KK c.w) mainGlobals x = some none) (hv : bootBuiltins x = some v) (hx0 : x ≠ "__name__") (k : Φ v σ) (hx : fr.env.kindOf x = some .globalImplicit) (hg : fr.env.globals = mainGlobals := by rfl)
    (hb : fr.env.builtins = builtinsNs := by rfl) (hd : (x == ("__debug__" : Str)) = false := by decide) :
    J c n fr σ (eval (.Name x pos) fr.env) Φ := fun A r F s H Q q =>
  Name_function_global H.kind hx (loadGlobal_builtin (hg ▸ c.g.keeps H.kpH) (mg_none_of c.X c.g e) (hb ▸ c.b.keeps H.kpH) ((c.builtins x hx0).trans hv) (q v σ F s.heap s.toks k H)) hd

-- constants
theorem J_tok {t : Sem α} {a : Nat → α} {Φ : α → AS → Prop} (rule : ∀ (A : Around) (s : Shared) (Q : α → Shared → Prop), Q (a s.toks) { s with toks := s.toks + 1 } → wpAny c.M A t Q (fun _ _ => False) s) (k : ∀ tk, Φ (a tk) σ) : J c n fr σ t Φ :=
  fun A r F s H Q q => rule A s Q (q _ σ F s.heap _ (k _) H)
theorem J_here {t : Sem α} {a : α} {Φ : α → AS → Prop} (rule : ∀ (A : Around) (s : Shared) (Q : α → Shared → Prop), Q a s → wpAny c.M A t Q (fun _ _ => False) s) (k : Φ a σ) : J c n fr σ t Φ :=
  fun A r F s H Q q => rule A s Q (q a σ F s.heap s.toks k H)
theorem J_int {i k pos} {Φ : Value → AS → Prop} (h : ∀ t, Φ (.int i t) σ) : J c n fr σ (eval (.Constant (.int i) k pos) env) Φ := J_tok (a := fun t => Value.int i t) (fun A s Q q => wpAny_Constant_int q) h
theorem J_str {x : Str} {k pos} {Φ : Value → AS → Prop} (h : ∀ t, Φ (.str x t) σ) : J c n fr σ (eval (.Constant (.str x) k pos) env) Φ := J_tok (a := fun t => Value.str x t) (fun A s Q q => wpAny_Constant_str q) h
theorem J_bool {b k pos} {Φ : Value → AS → Prop} (h : Φ (.bool b) σ) : J c n fr σ (eval (.Constant (.bool b) k pos) env) Φ := J_here (a := Value.bool b) (fun A s Q q => wpAny_Constant_bool q) h
theorem J_none {k pos} {Φ : Value → AS → Prop} (h : Φ .none σ) : J c n fr σ (eval (.Constant .none k pos) env) Φ := J_here (a := Value.none) (fun A s Q q => wpAny_Constant_none q) h

-- statements
theorem J_execs_nil {Φ : Flow → AS → Prop} (h : Φ .next σ) : J c n fr σ (execs [] env) Φ := J_here (a := Flow.next) (fun A s Q q => wpAny_execs_nil q) h
theorem J_execs_cons {st : Stmt} {rest : List Stmt} {Φ : Flow → AS → Prop} (h : J c n fr σ (exec st env) fun fl σ' => match fl with | .next => J c n fr σ' (execs rest env) Φ | f => Φ f σ') : J c n fr σ (execs (st :: rest) env) Φ :=
  fun A r F s H Q k => wpAny_execs_cons (wpAny_mono (h A r F s H (fun fl s' => match fl with | .next => wpAny c.M A (execs rest env) Q (fun _ _ => False) s' | f => Q f s') fun fl σ' F' h' tk q H' => by
    cases fl with
    | next => exact q A r F' _ H' Q k
    | brk => exact k _ σ' F' h' tk q H'
    | cont => exact k _ σ' F' h' tk q H'
    | ret v => exact k _ σ' F' h' tk q H') (fun fl s' q => q) fun _ _ x => x)
theorem J_if {test body orelse pos} {Φ : Flow → AS → Prop} (h : J c n fr σ (isTrue test env (eval test env)) fun b σ' => if b then J c n fr σ' (execs body env) Φ else J c n fr σ' (execs orelse env) Φ) : J c n fr σ (exec (.If test body orelse pos) env) Φ :=
  fun A r F s H Q k => wpAny_If (h A r F s H _ fun b σ' F' h' tk q H' => by
    cases b with
    | true => exact q A r F' _ H' Q k
    | false => exact q A r F' _ H' Q k)
theorem J_return {e pos} {Φ : Flow → AS → Prop} (h : J c n fr σ (eval e env) fun v σ' => Φ (.ret v) σ') : J c n fr σ (exec (.Return (some e) pos) env) Φ :=
  fun A r F s H Q k => wpAny_Return_some (h A r F s H _ fun v σ' F' h' tk q H' => k _ σ' F' h' tk q H')
theorem J_ifexp {test body orelse : Expr} {pos : Pos} {Φ : Value → AS → Prop} (h : J c n fr σ (isTrue test env (eval test env)) fun b σ' => if b then J c n fr σ' (eval body env) Φ else J c n fr σ' (eval orelse env) Φ) : J c n fr σ (eval (.IfExp test body orelse pos) env) Φ := by
  rw [arm_eval_IfExp]
  refine J_bind (J_mono h fun b σ' q => ?_)
  cases b <;> exact q
theorem J_not {x : Expr} {pos : Pos} {whole : Sem Value} {Φ : Bool → AS → Prop} (h : J c n fr σ (isTrue x env (eval x env)) fun b σ' => Φ (!b) σ') : J c n fr σ (isTrue (.UnaryOp .Not x pos) env whole) Φ := by
  rw [arm_isTrue_UnaryOp]
  exact J_bind (J_mono h fun b σ' q => J_pure q)
theorem J_unaryNot {x : Expr} {pos : Pos} {Φ : Value → AS → Prop} (h : J c n fr σ (eval x env) fun v σ' => J c n fr σ' (truthy v) fun b σ'' => Φ (.bool (!b)) σ'') : J c n fr σ (eval (.UnaryOp .Not x pos) env) Φ :=
  J_two (f := fun v => unaryOp .Not v) (fun A s Q q => wpAny_UnaryOp q) (J_mono h fun v σ' q => fun A r F s H Q k => not_value (q A r F s H _ fun b σ'' F' h' tk z H' => k _ σ'' F' h' tk z H'))
theorem J_isTrue {e : Expr} {whole : Sem Value} {Φ : Bool → AS → Prop} (h : J c n fr σ whole fun v σ' => J c n fr σ' (truthy v) Φ) (he : isTrue e env whole = (do let v ← whole; standAt e.pos; holding [v] (truthy v)) := by rfl) : J c n fr σ (isTrue e env whole) Φ := by
  rw [he]
  exact J_bind (J_mono h fun v σ' q => J_bind (J_standAt (J_holding q)))
theorem J_isTrueCmp {l op r pos whole} {Φ : Bool → AS → Prop}
    (h : J c n fr σ (eval l env) fun a σ₁ => J c n fr σ₁ (eval r env) fun b σ₂ => J c n fr σ₂ (compareOp op a b) fun d σ₃ => J c n fr σ₃ (truthy d) Φ)
    (hm : behindInMarks op r = false := by rfl) : J c n fr σ (isTrue (.Compare l [op] [r] pos) env whole) Φ := by
  rw [isTrue_Compare1, markedBehindIn_of_false hm]
  exact J_bind (J_mono h fun a σ₁ q => J_bind (J_holding (J_mono q fun b σ₂ q => J_bind (J_standAt (J_bind (J_operate (J_mono q fun d σ₃ q => J_holding q)))))))
theorem J_Compare {l op r pos} {Φ : Value → AS → Prop}
    (h : J c n fr σ (eval l env) fun a σ₁ => J c n fr σ₁ (eval r env) fun b σ₂ => J c n fr σ₂ (compareOp op a b) Φ)
    (hm : behindInMarks op r = false := by rfl) : J c n fr σ (eval (.Compare l [op] [r] pos) env) Φ := by
  rw [eval_Compare1, markedBehindIn_of_false hm]
  exact J_bind (J_mono h fun a σ₁ q => J_bind (J_holding (J_mono q fun b σ₂ q => J_bind (J_standAt (J_operate q)))))
theorem J_truthyB {b : Bool} {Φ : Bool → AS → Prop} (h : Φ b σ) : J c n fr σ (truthy (.bool b)) Φ := J_here (a := b) (fun A s Q q => wpAny_truthy_bool q) h
/-- a comparison of a known answer -/
theorem J_isTrueBool {e : Expr} {whole : Sem Value} {Φ : Bool → AS → Prop} (h : J c n fr σ whole fun v σ' => ∃ b, v = .bool b ∧ Φ b σ') (he : isTrue e env whole = (do let v ← whole; standAt e.pos; holding [v] (truthy v)) := by rfl) : J c n fr σ (isTrue e env whole) Φ :=
  J_isTrue (J_mono h fun v σ' q => by obtain ⟨b, rfl, q⟩ := q; exact J_truthyB q) he
theorem J_isTrueAnd {vs : List Expr} {op : BoolOp} {pos : Pos} {whole : Sem Value} {Φ : Bool → AS → Prop} (h : J c n fr σ (allTrue op vs env) Φ) : J c n fr σ (isTrue (.BoolOp op vs pos) env whole) Φ := by
  rw [arm_isTrue_BoolOp]; exact h
theorem J_allAnd_nil {Φ : Bool → AS → Prop} (h : Φ true σ) : J c n fr σ (allTrue .And [] env) Φ := J_pure h
theorem J_allOr_nil {Φ : Bool → AS → Prop} (h : Φ false σ) : J c n fr σ (allTrue .Or [] env) Φ := J_pure h
theorem J_allAnd {x : Expr} {rest : List Expr} {Φ : Bool → AS → Prop} (h : J c n fr σ (isTrue x env (eval x env)) fun b σ' => if b then J c n fr σ' (allTrue .And rest env) Φ else Φ false σ') : J c n fr σ (allTrue .And (x :: rest) env) Φ := by
  rw [arm_allTrue_cons]
  refine J_bind (J_mono h fun b σ' q => ?_)
  cases b with
  | true => exact q
  | false => exact J_pure q
theorem J_allOr {x : Expr} {rest : List Expr} {Φ : Bool → AS → Prop} (h : J c n fr σ (isTrue x env (eval x env)) fun b σ' => if b then Φ true σ' else J c n fr σ' (allTrue .Or rest env) Φ) : J c n fr σ (allTrue .Or (x :: rest) env) Φ := by
  rw [arm_allTrue_cons]
  refine J_bind (J_mono h fun b σ' q => ?_)
  cases b with
  | true => exact J_pure q
  | false => exact q
theorem J_boolOp1 {x : Expr} {op : BoolOp} {pos : Pos} {Φ : Value → AS → Prop} (h : J c n fr σ (eval x env) Φ) : J c n fr σ (boolOp pos op (evalEach [x] env)) Φ := h
theorem J_boolOpAnd {x y : Expr} {rest : List Expr} {pos : Pos} {Φ : Value → AS → Prop} (h : J c n fr σ (eval x env) fun v σ' => J c n fr σ' (truthy v) fun b σ'' => if b then J c n fr σ'' (boolOp pos .And (evalEach (y :: rest) env)) Φ else Φ v σ'') : J c n fr σ (boolOp pos .And (evalEach (x :: y :: rest) env)) Φ := by
  show J c n fr σ (do let v ← eval x env; standAt pos; let t ← holding [v] (truthy v); match BoolOp.And, t with | .And, false | .Or, true => pure v | _, _ => boolOp pos .And (evalEach (y :: rest) env)) Φ
  refine J_bind (J_mono h fun v σ' q => J_bind (J_standAt (J_bind (J_holding (J_mono q fun b σ'' q => ?_)))))
  cases b with
  | true => exact q
  | false => exact J_pure q
theorem J_boolOpOr {x y : Expr} {rest : List Expr} {pos : Pos} {Φ : Value → AS → Prop} (h : J c n fr σ (eval x env) fun v σ' => J c n fr σ' (truthy v) fun b σ'' => if b then Φ v σ'' else J c n fr σ'' (boolOp pos .Or (evalEach (y :: rest) env)) Φ) : J c n fr σ (boolOp pos .Or (evalEach (x :: y :: rest) env)) Φ := by
  show J c n fr σ (do let v ← eval x env; standAt pos; let t ← holding [v] (truthy v); match BoolOp.Or, t with | .And, false | .Or, true => pure v | _, _ => boolOp pos .Or (evalEach (y :: rest) env)) Φ
  refine J_bind (J_mono h fun v σ' q => J_bind (J_standAt (J_bind (J_holding (J_mono q fun b σ'' q => ?_)))))
  cases b with
  | true => exact J_pure q
  | false => exact q
theorem J_BoolOp {op : BoolOp} {vs : List Expr} {pos : Pos} {Φ : Value → AS → Prop} (h : J c n fr σ (boolOp pos op (evalEach vs env)) Φ) : J c n fr σ (eval (.BoolOp op vs pos) env) Φ := by
  rw [arm_eval_BoolOp]; exact h
theorem J_BinOp {l op r pos} {Φ : Value → AS → Prop} (h : J c n fr σ (eval l env) fun a σ₁ => J c n fr σ₁ (eval r env) fun b σ₂ => J c n fr σ₂ (binaryOp op a b) Φ) : J c n fr σ (eval (.BinOp l op r pos) env) Φ := by
  rw [eval_BinOp]
  exact J_bind (J_mono h fun a σ₁ q => J_bind (J_holding (J_mono q fun b σ₂ q => J_bind (J_standAt (J_operate q)))))
theorem J_Attribute {value : Expr} {attr : Str} {pos : Pos} {Φ : Value → AS → Prop} (h : J c n fr σ (eval value env) fun o σ' => J c n fr σ' (getAttr o attr true) Φ)
    (he : eval (.Attribute value attr pos) env = (do
      let o ← eval value env
      standAt pos.atName
      let r ← holding [o] (getAttr o attr true)
      letTemporaryGo value o r
      pure r) := by rfl) : J c n fr σ (eval (.Attribute value attr pos) env) Φ :=
  J_two (f := fun o => getAttr o attr true) (fun A s Q q => Attribute_any_ q he) h
-- calls
theorem J_CallName {x : Str} {np pos : Pos} {args : List Expr} {keywords : List Keyword} {Φ : Value → AS → Prop}
    (h : J c n fr σ (eval (.Name x np) env) fun f σ' => J c n fr σ' (callWith pos f [] (backTo pos (starEach args env)) (backToKw pos (keywordEach keywords env))) Φ) : J c n fr σ (eval (.Call (.Name x np) args keywords pos) env) Φ := by
  show J c n fr σ (do callWith pos (← eval (.Name x np) env) [] (backTo pos (starEach args env)) (backToKw pos (keywordEach keywords env))) Φ
  exact J_bind h
theorem J_spliced_nil {pos : Pos} {Φ : List Value → AS → Prop} (h : Φ [] σ) : J c n fr σ (spliced (backTo pos (starEach [] env))) Φ := J_pure h
theorem J_spliced {e : Expr} {rest : List Expr} {pos : Pos} {Φ : List Value → AS → Prop} (h : J c n fr σ (eval e env) fun v σ' => J c n fr σ' (spliced (backTo pos (starEach rest env))) fun vs σ'' => Φ (v :: vs) σ'')
    (he : starEach (e :: rest) env = (false, eval e env) :: starEach rest env := by rfl) : J c n fr σ (spliced (backTo pos (starEach (e :: rest) env))) Φ := by
  rw [he]
  show J c n fr σ (spliced ((false, eval e env) :: backTo pos (starEach rest env))) Φ
  unfold spliced
  refine J_bind (J_mono h fun v σ' q => ?_)
  simp only [Bool.false_eq_true, if_false]
  exact J_bind (J_pure (J_bind (J_holding (J_mono q fun vs σ'' q => J_pure q))))
theorem J_evalArgs0 {f : Value} {pos : Pos} {Φ : Args → AS → Prop} (h : Φ ⟨[], []⟩ σ) : J c n fr σ (evalArgs f true (backTo pos (starEach [] env)) (backToKw pos (keywordEach [] env))) Φ :=
  J_here (a := (⟨[], []⟩ : Args)) (fun A s Q q => PyProof.Rows.evalArgs_none q) h
theorem J_evalArgs {f : Value} {e : Expr} {rest : List Expr} {pos : Pos} {Φ : Args → AS → Prop} (h : J c n fr σ (spliced (backTo pos (starEach (e :: rest) env))) fun vs σ' => Φ ⟨vs, []⟩ σ')
    (he : starEach (e :: rest) env = (false, eval e env) :: starEach rest env := by rfl) : J c n fr σ (evalArgs f true (backTo pos (starEach (e :: rest) env)) (backToKw pos (keywordEach [] env))) Φ := by
  rw [he] at h ⊢
  exact fun A r F s H Q k => evalArgs_plain (h A r F s H _ fun vs σ' F' h' tk q H' => k _ σ' F' h' tk q H')
theorem J_callWith {pos : Pos} {f : Value} {first : List Value} {args : List (Bool × Sem Value)} {keywords : List (Option Str × Sem Value)} {k : Keeper} {Φ : Value → AS → Prop} (hk : ∀ h, Kp c.H h → Looks c.M h (keeperOf f) k)
    (h : J c n fr σ (evalArgs f true args keywords) fun a σ' => J c n fr σ' (call f (first ++ a.pos) a.kw) Φ) : J c n fr σ (callWith pos f first args keywords) Φ := by
  unfold callWith
  refine J_bind (J_holding (J_mono h fun a σ' q => J_bind (J_standAt ?_)))
  refine J_bind (J_looks (fun F h H => hk h H.kpH) ?_)
  have fin : ∀ t : Sem Value, J c n fr σ' t Φ → J c n fr σ' (t >>= fun r => holding [r] point >>= fun _ => pure r) Φ := fun t q => J_bind (J_mono q fun r σ'' q => J_bind (J_holding (J_point (J_pure q))))
  have mk : ∀ v, J c n fr σ' (callMarked v f (first ++ a.pos) a.kw) Φ := fun v => J_keep q
  cases k <;> cases (args.any (·.1) || keywords.any (·.1.isNone)) <;> dsimp only <;> first | exact fin _ (mk _) | exact fin _ (J_operate q) | exact fin _ q | (split; exact fin _ q; exact fin _ (mk _))
theorem keeps_base {c : Cx} {f : Value} (hk : keepIn (KK c.w) f = true) : ∃ k, ∀ h, Kp c.H h → Looks c.M h (keeperOf f) k := by
  cases f with
  | ref a =>
    simp only [keepIn] at hk
    split at hk
    · rename_i e
      exact ⟨.frame, fun h kp => (Looks.ld (part := none) (kp _ _ (c.X _ _ e))).andThen .now⟩
    · rename_i e
      exact ⟨.machine, fun h kp => (Looks.ld (part := none) (kp _ _ (c.X _ _ e))).andThen ((looks_specialIn (c.X.keeps kp) (beq_iff_eq.mp hk)).andThen (by rw [beq_self_eq_true]; exact .now))⟩
    · cases hk
  | _ => cases hk
theorem J_callBase {pos : Pos} {f : Value} {first : List Value} {args : List (Bool × Sem Value)} {keywords : List (Option Str × Sem Value)} {Φ : Value → AS → Prop} (hk : keepIn (KK c.w) f = true)
    (h : J c n fr σ (evalArgs f true args keywords) fun a σ' => J c n fr σ' (call f (first ++ a.pos) a.kw) Φ) : J c n fr σ (callWith pos f first args keywords) Φ :=
  let ⟨_, hk'⟩ := keeps_base hk; J_callWith hk' h
theorem keeper_imm {c : Cx} {f : Value} (hf : ∀ a, f ≠ .ref a) : ∀ h, Kp c.H h → Looks c.M h (keeperOf f) .machine := fun h kp => by
  unfold keeperOf
  cases f <;> first | exact .now | exact absurd rfl (hf _)
theorem J_callImm {pos : Pos} {f : Value} {first : List Value} {args : List (Bool × Sem Value)} {keywords : List (Option Str × Sem Value)} {Φ : Value → AS → Prop} (h : J c n fr σ (evalArgs f true args keywords) fun a σ' => J c n fr σ' (call f (first ++ a.pos) a.kw) Φ)
    (hf : ∀ a, f ≠ .ref a := by intro a x; cases x) : J c n fr σ (callWith pos f first args keywords) Φ := J_callWith (keeper_imm hf) h
/-- a call by its contract -/
theorem J_ctk {m : Nat} {f : Value} {vs : List Value} {kvs : List (Str × Value)} {ps : List PV} {kws : List (Str × PV)} {p : PV} {Φ : Value → AS → Prop} (h : CT c m f ps kws p) (hm : m ≤ n) (ha : HasAll c σ vs ps) (hk : kvs.map (·.1) = kws.map (·.1) ∧ HasAll c σ (kvs.map (·.2)) (kws.map (·.2))) (k : ∀ v, Φ v (σ.push v p)) : J c n fr σ (call f vs kvs) Φ :=
  fun A r F s H Q q => wpAny_call (codeAny_mono (h vs kvs A (r.mono hm) F s H.baseF H.sub (ha.reps H) ⟨hk.1, hk.2.reps H⟩ Q fun v F' h' tk kp e rv => q v (σ.push v p) F' h' tk (k v) ((H.step kp e).push rv)) fun r s' z => by
    rcases r with e | (v | _ | _ | _) <;> first | exact z | exact z.elim)
theorem J_ct {m : Nat} {f : Value} {vs : List Value} {ps : List PV} {p : PV} {Φ : Value → AS → Prop} (h : CT c m f ps [] p) (hm : m ≤ n) (ha : HasAll c σ vs ps) (k : ∀ v, Φ v (σ.push v p)) : J c n fr σ (call f vs []) Φ :=
  J_ctk h hm ha ⟨rfl, .nil⟩ k
end
end Mine
end

-- J4
section
open PySem PySem.W PyProof.Rows PySem.Calls
namespace Mine
theorem Kp.of_ext {h h' : Heap} (e : Heap.ExtBut h.objs.size h h') : Kp h h' := fun b o q => e b o (Nat.ne_of_lt (Heap.lt_size q)) q
theorem none_size (h : Heap) : h.get? h.objs.size = none := by
  cases q : h.get? h.objs.size with
  | none => rfl
  | some o => exact absurd (Heap.lt_size q) (Nat.lt_irrefl _)
theorem Sub.off {F : PM} {h : Heap} (s : Sub F h) {a : Addr} (n : h.get? a = none) : F a = none := by
  cases q : F a with
  | none => rfl
  | some o => rw [s _ _ q] at n; cases n
/-- a new object -/
theorem Ext.alloc {F : PM} {h : Heap} (s : Sub F h) (o : Obj) (ho : o.isFreed = false) : Ext F (put F h.objs.size o) h (h.push o) := by
  have z := s.off (none_size h)
  refine ⟨Le.put z, fun a x q => ?_, fun a x q => ?_⟩
  · unfold put at q
    split at q
    · rename_i e; subst e; cases q; exact Heap.get?_push_size _ ho
    · exact Heap.get?_push_of_some _ (s _ _ q)
  · unfold put at q
    split at q
    · rename_i e; subst e; exact .inr (none_size h)
    · exact .inl q
theorem Ext.trans {F G K : PM} {h₁ h₂ h₃ : Heap} (k : Kp h₁ h₂) (x : Ext F G h₁ h₂) (y : Ext G K h₂ h₃) : Ext F K h₁ h₃ :=
  ⟨x.le.trans y.le, y.sub, fun a o q => by
    rcases y.new a o q with z | z
    · exact x.new a o z
    · exact .inr (k.none z)⟩
theorem HasAll.length {c : Cx} {σ : AS} {vs : List Value} {ps : List PV} (h : HasAll c σ vs ps) : vs.length = ps.length := by
  induction h with
  | nil => rfl
  | cons _ _ ih => simp [ih]
theorem sizeLine_is : sizeLine = 16777216 := rfl

section
variable {c : Cx} {α β : Type} {n : Nat} {fr : Fc} {σ : AS} {env : Env}

theorem store_wp {A : Around} {s : Shared} {F : PM} {x : Str} {v : Value} {p : PV} (H : Holds c fr F σ s.heap) (hv : Rep F p v) (hx : fr.env.kindOf x = some .local) (ho : σ.own.all (fun y => y.1 != x) = true) {Q : Unit → Shared → Prop}
    (q : ∀ h' tk, Holds c fr F ⟨(x, p) :: σ.ρ, σ.own, σ.κ⟩ h' → Heap.SameBut fr.env.locals s.heap h' → Q () { s with heap := h', toks := tk }) : wpAny c.M A (storeName fr.env x v) Q (fun _ _ => False) s := by
  obtain ⟨m, cm, L⟩ := H.loc
  refine wpAny_storeName_local hx L.ns (fun h' hn hs => q h' _ ?_ hs) (by rw [H.kind]; rfl)
  have ne : ∀ a o, F a = some o → a ≠ fr.env.locals := fun a o e z => by rw [z, L.offL] at e; cases e
  refine ⟨H.base, H.kind, H.outer, H.le, fun a o e => (hs.2 a (ne a o e)).trans (H.sub a o e), H.keep.more fun a _ o e e' => (hs.2 a fun z => by rw [z, L.fresh] at e; cases e).trans e', H.new, ⟨_, cm, ⟨hn, L.offL, L.fresh, fun y d z => ?_, L.apart, fun y p' z => ?_, fun y l ps z => ?_, fun z hz => ?_, L.pinD⟩⟩, H.tmp⟩
  · obtain ⟨a1, a2, a3⟩ := L.cell y d z
    exact ⟨a1.sameBut hs a2, a2, a3⟩
  · rw [List.lookup_cons] at z
    cases q : y == x with
    | true =>
      rw [q] at z; cases z
      obtain rfl : y = x := beq_iff_eq.mp q
      exact ⟨v, hv, .inl ⟨hx, if_pos rfl⟩⟩
    | false =>
      rw [q] at z
      obtain ⟨v', r', w⟩ := L.val y p' z
      refine ⟨v', r', ?_⟩
      rcases w with ⟨w1, w2⟩ | w | w
      · exact .inl ⟨w1, by show (if y = x then some v else m y) = some v'; rw [if_neg (fun e => by rw [e] at q; simp at q)]; exact w2⟩
      · exact .inr (.inl w)
      · exact .inr (.inr w)
  · obtain ⟨a1, a2, ⟨vs, nn, a3, a4⟩, a5, a6, a7, a8⟩ := L.own y l ps z
    have hy : (y != x) = true := by rw [z] at ho; exact ho
    refine ⟨a1, ?_, ⟨vs, nn, (hs.2 l a7).trans a3, a4⟩, a5, a6, a7, a8⟩
    show (if y = x then some v else m y) = some (.ref l)
    rw [if_neg (fun e => by rw [e] at hy; simp at hy)]; exact a2
  · obtain ⟨a1, a2, a3, a4⟩ := L.pin z hz
    exact ⟨(hs.2 _ a3).trans a1, a2, a3, a4⟩

theorem J_store {x : Str} {v : Value} {p : PV} {Φ : Unit → AS → Prop} (hv : Has c σ v p) (hx : fr.env.kindOf x = some .local) (ho : σ.own.all (fun y => y.1 != x) = true) (k : Φ () ⟨(x, p) :: σ.ρ, σ.own, σ.κ⟩) :
    J c n fr σ (storeName fr.env x v) Φ := fun A r F s H Q q => store_wp H (hv _ _ _ H) hx ho fun h' tk H' _ => q () _ F h' tk k H'

theorem J_storeCell {x : Str} {v : Value} {p : PV} {d : Addr} {Φ : Unit → AS → Prop} (hv : Has c σ v p) (hx : fr.env.kindOf x = some .cell) (hd : fr.env.cells.lookup x = some d) (hm : fr.mc.lookup x = some d) (k : Φ () ⟨(x, p) :: σ.ρ, σ.own, σ.κ⟩) :
    J c n fr σ (storeName fr.env x v) Φ := fun A r F s H Q q => by
  obtain ⟨m, cm, L⟩ := H.loc
  obtain ⟨b1, b2, b3, b4⟩ := L.cell x d hm
  refine wpAny_storeName_cell H.kind hx hd b1 (fun h' hn hs => q () _ F h' _ k ?_)
  have ne : ∀ a o, F a = some o → a ≠ d := fun a o e z => by rw [z, b3] at e; cases e
  refine ⟨H.base, H.kind, H.outer, H.le, fun a o e => (hs.2 a (ne a o e)).trans (H.sub a o e), H.keep.more fun a _ o e e' => (hs.2 a fun z => by rw [z, b4] at e; cases e).trans e', H.new,
    ⟨m, fun y => if y = x then some v else cm y, ⟨L.ns.sameBut hs (Ne.symm b2), L.offL, L.fresh, fun y d' z => ?_, L.apart, fun y p' z => ?_, fun y l ps z => ?_, fun z hz => ?_, L.pinD⟩⟩, H.tmp⟩
  · obtain ⟨a1, a2, a3⟩ := L.cell y d' z
    refine ⟨?_, a2, a3⟩
    by_cases e : y = x
    · subst e
      rw [hm] at z; cases z
      rw [if_pos rfl]; exact hn
    · rw [if_neg e]; exact a1.sameBut hs fun w => e (L.apart y x d (w ▸ z) hm)
  · rw [List.lookup_cons] at z
    cases q : y == x with
    | true =>
      rw [q] at z; cases z
      obtain rfl : y = x := beq_iff_eq.mp q
      exact ⟨v, hv _ _ _ H, .inr (.inl ⟨hx, d, hd, hm, if_pos rfl⟩)⟩
    | false =>
      rw [q] at z
      obtain ⟨v', r', w⟩ := L.val y p' z
      refine ⟨v', r', ?_⟩
      rcases w with w | ⟨w1, d', w2, w3, w4⟩ | w
      · exact .inl w
      · exact .inr (.inl ⟨w1, d', w2, w3, by show (if y = x then some v else cm y) = some v'; rw [if_neg (fun e => by rw [e] at q; simp at q)]; exact w4⟩)
      · exact .inr (.inr w)
  · obtain ⟨a1, a2, ⟨vs, nn, a3, a4⟩, a5, a6, a7, a8⟩ := L.own y l ps z
    exact ⟨a1, a2, ⟨vs, nn, (hs.2 l (a8 x d hm)).trans a3, a4⟩, a5, a6, a7, a8⟩
  · obtain ⟨a1, a2, a3, a4, a5, a6⟩ := L.pin z hz
    exact ⟨(hs.2 _ (a5 x d hm)).trans a1, a2, a3, a4, a5, a6⟩

theorem J_bindName {x : Str} {v : Value} {Φ : Unit → AS → Prop} (h : J c n fr σ (storeName env x v) Φ) : J c n fr σ (bindName env x v) Φ := fun A r F s H Q k => wpAny_bindName (h A r F s H Q k)
theorem J_assignName {x : Str} {pos : Pos} {v : Value} {Φ : Unit → AS → Prop} (h : J c n fr σ (storeName env x v) Φ) : J c n fr σ (assign (.Name x pos) env v) Φ := fun A r F s H Q k => PyProof.Rows.assign_Name (h A r F s H Q k)
theorem J_Assign {x : Str} {xp pos : Pos} {value : Expr} {Φ : Flow → AS → Prop} (h : J c n fr σ (eval value env) fun v σ' => J c n fr σ' (storeName env x v) fun _ σ'' => Φ .next σ'')
    (hs : swapsWith value (some (.Name x xp)) pos.line env = pure false := by rfl) : J c n fr σ (exec (.Assign [.Name x xp] value pos) env) Φ :=
  fun A r F s H Q k => wpAny_Assign_Name (h A r F s H _ fun v σ' F' h' tk q H' => q A r F' _ H' (fun _ => Q .next) fun u σ'' F'' h'' tk' z H'' => k _ σ'' F'' h'' tk' z H'') hs

theorem tupObj_free (vs : List Value) (k : Nat) : (tupObj vs k).isFreed = false := rfl
theorem lstObj_free (vs : List Value) (k : Nat) : (lstObj vs k).isFreed = false := rfl
theorem Steps_newTuple {vs : List Value} {ps : List PV} (hz : vs.length ≤ sizeLine) : Steps c n (newTuple vs) (fun F _ => Reps F ps vs) (fun F _ v => Rep F (.tup ps) v) := fun A r F s hB hS hP Q q => by
  refine wpAny_newObj_type (q _ (put F s.heap.objs.size (tupObj vs 0)) _ _ (Kp.push _ _) (Ext.alloc hS _ rfl) ⟨s.heap.objs.size, vs, 0, rfl, put_self _ _ _, hP.mono (Le.put (hS.off (none_size _)))⟩) ?_
  show vs.toArray.size ≤ sizeLine
  rw [List.size_toArray]; exact hz
theorem Steps_newList {vs : List Value} {ps : List PV} (hz : vs.length ≤ sizeLine) : Steps c n (newList vs) (fun F _ => Reps F ps vs) (fun F _ v => Rep F (.lst ps) v) := fun A r F s hB hS hP Q q => by
  refine wpAny_newObj_type (q _ (put F s.heap.objs.size (lstObj vs 0)) _ _ (Kp.push _ _) (Ext.alloc hS _ rfl) ⟨s.heap.objs.size, vs, 0, rfl, put_self _ _ _, hP.mono (Le.put (hS.off (none_size _)))⟩) ?_
  show vs.toArray.size ≤ sizeLine
  rw [List.size_toArray]; exact hz
theorem J_newTuple {vs : List Value} {ps : List PV} {Φ : Value → AS → Prop} (ha : HasAll c σ vs ps) (hz : ps.length ≤ sizeLine) (k : ∀ v, Φ v (σ.push v (.tup ps))) : J c n fr σ (newTuple vs) Φ :=
  J_val (Steps_newTuple (ha.length ▸ hz)) (fun F h H => ha.reps H) k
theorem J_newList {vs : List Value} {ps : List PV} {Φ : Value → AS → Prop} (ha : HasAll c σ vs ps) (hz : ps.length ≤ sizeLine) (k : ∀ v, Φ v (σ.push v (.lst ps))) : J c n fr σ (newList vs) Φ :=
  J_val (Steps_newList (ha.length ▸ hz)) (fun F h H => ha.reps H) k
theorem J_Tuple {elts : List Expr} {k : Nat} {pos : Pos} {Φ : Value → AS → Prop} (h : J c n fr σ (spliced (backTo pos (starEach elts env))) fun vs σ' => J c n fr σ' (newTuple vs) Φ) : J c n fr σ (eval (.Tuple elts k pos) env) Φ := by
  rw [arm_eval_Tuple]; exact J_bind (J_standAt (J_bind h))
theorem J_List {elts : List Expr} {pos : Pos} {Φ : Value → AS → Prop} (h : J c n fr σ (spliced (backTo pos (starEach elts env))) fun vs σ' => J c n fr σ' (newList vs) Φ) : J c n fr σ (eval (.List elts pos) env) Φ := by
  rw [arm_eval_List]; exact J_bind (J_standAt (J_bind h))

-- one list of the frame's own
theorem J_nameOwn {x : Str} {pos : Pos} {l : Addr} {ps : List PV} {Φ : Value → AS → Prop} (ho : σ.own = some (x, l, ps)) (k : Φ (.ref l) σ) (hd : (x == ("__debug__" : Str)) = false := by decide) : J c n fr σ (eval (.Name x pos) fr.env) Φ := fun A r F s H Q q => by
  obtain ⟨m, cm, L⟩ := H.loc
  obtain ⟨a1, a2, _⟩ := L.own x l ps ho
  exact wpAny_Name (wpAny_loadName_local H.kind a1 L.ns a2 (q _ σ F s.heap s.toks k H)) hd
theorem J_freeze {t : Sem α} {x : Str} {l : Addr} {ps : List PV} {Φ : α → AS → Prop} (ho : σ.own = some (x, l, ps)) (h : J c n fr ⟨(x, .lst ps) :: σ.ρ, none, (.ref l, .lst ps) :: σ.κ⟩ t Φ) : J c n fr σ t Φ := fun A r F s H Q q => by
  obtain ⟨m, cm, L⟩ := H.loc
  obtain ⟨a1, a2, ⟨vs, nn, a3, a4⟩, a5, a6, a7, a8⟩ := L.own x l ps ho
  have le : Le F (put F l (lstObj vs nn)) := Le.put a5
  have rl : Rep (put F l (lstObj vs nn)) (.lst ps) (.ref l) := ⟨l, vs, nn, rfl, put_self _ _ _, a4.mono le⟩
  refine h A r (put F l (lstObj vs nn)) s ⟨H.base, H.kind, H.outer, H.le.trans le, fun a o e => ?_, H.keep, fun a o e => ?_, ⟨m, cm, ⟨L.ns, ?_, L.fresh, fun y d z => ?_, L.apart, fun y p z => ?_, fun y l' ps' z => (by cases z), fun z hz => ?_, L.pinD⟩⟩, fun z hz => ?_⟩ Q q
  · unfold put at e; split at e
    · rename_i w; subst w; cases e; exact a3
    · exact H.sub a o e
  · unfold put at e; split at e
    · rename_i w; subst w; exact .inr a6
    · exact H.new a o e
  · rw [put_ne (Ne.symm a7)]; exact L.offL
  · obtain ⟨b1, b2, b3, b4⟩ := L.cell y d z
    exact ⟨b1, b2, by rw [put_ne (Ne.symm (a8 y d z))]; exact b3, b4⟩
  · rw [List.lookup_cons] at z
    cases w : y == x with
    | true =>
      rw [w] at z; cases z
      obtain rfl : y = x := beq_iff_eq.mp w
      exact ⟨_, rl, .inl ⟨a1, a2⟩⟩
    | false =>
      rw [w] at z
      obtain ⟨v, r', w'⟩ := L.val y p z
      exact ⟨v, r'.mono le, w'⟩
  · obtain ⟨b1, b2, b3, b4, b5, b6⟩ := L.pin z hz
    exact ⟨b1, by rw [put_ne (b6 x l ps ho)]; exact b2, b3, b4, b5, fun _ _ _ e => by cases e⟩
  · rcases List.mem_cons.mp hz with rfl | hz
    · exact rl
    · exact (H.tmp z hz).mono le
/-- x = [..], the frame's own -/
theorem J_assignOwn {x : Str} {xp lp pos : Pos} {elts : List Expr} {Φ : Flow → AS → Prop} (h : J c n fr σ (spliced (backTo lp (starEach elts fr.env))) fun vs σ' => σ'.ρ.lookup x = none ∧ ∃ ps, HasAll c σ' vs ps ∧ ps.length ≤ sizeLine ∧ ∀ l, Φ .next ⟨σ'.ρ, some (x, l, ps), σ'.κ⟩)
    (hx : fr.env.kindOf x = some .local) (hs : swapsWith (.List elts lp) (some (.Name x xp)) pos.line fr.env = pure false := by rfl) : J c n fr σ (exec (.Assign [.Name x xp] (.List elts lp) pos) fr.env) Φ := fun A r F s H Q k => by
  refine wpAny_Assign_Name ?_ hs
  show wpAny _ _ (eval (.List elts lp) fr.env) _ _ _
  rw [arm_eval_List]
  refine wpAny_bind (wpAny_standAt (wpAny_bind (h A r F s H _ fun vs σ' F' h' tk q H' => ?_)))
  obtain ⟨hρ, ps, ha, hz, hk⟩ := q
  refine wpAny_newObj_type ?_ (by show vs.toArray.size ≤ sizeLine; rw [List.size_toArray, ha.length]; exact hz)
  have H₂ := H'.step (Kp.push h' (lstObj vs 0)) (Ext.keep H'.sub (Kp.push _ _))
  obtain ⟨m, cm, L⟩ := H₂.loc
  have lN : h'.get? h'.objs.size = none := none_size h'
  have lL : h'.objs.size ≠ fr.env.locals := fun e => by
    obtain ⟨m', cm', L'⟩ := H'.loc
    exact absurd L'.ns.lt (by rw [← e]; exact Nat.lt_irrefl _)
  refine wpAny_storeName_local hx L.ns (fun h'' hn hs' => k .next _ F' h'' _ (hk h'.objs.size) ?_) (by rw [H.kind]; rfl)
  have ne : ∀ a o, F' a = some o → a ≠ fr.env.locals := fun a o e z => by rw [z, L.offL] at e; cases e
  refine ⟨H₂.base, H₂.kind, H₂.outer, H₂.le, fun a o e => (hs'.2 a (ne a o e)).trans (H₂.sub a o e), H₂.keep.more fun a _ o e e' => (hs'.2 a fun z => by rw [z, L.fresh] at e; cases e).trans e', H₂.new, ⟨_, cm, ⟨hn, L.offL, L.fresh, fun y d z => ?_, L.apart, fun y p' z => ?_, fun y l ps' z => ?_, fun z hz => ?_, L.pinD⟩⟩, H₂.tmp⟩
  · obtain ⟨a1, a2, a3⟩ := L.cell y d z
    exact ⟨a1.sameBut hs' a2, a2, a3⟩
  · obtain ⟨v', r', w⟩ := L.val y p' z
    refine ⟨v', r', ?_⟩
    rcases w with ⟨w1, w2⟩ | w | w
    · refine .inl ⟨w1, ?_⟩
      show (if y = x then _ else m y) = _
      rw [if_neg (fun e => by rw [e] at z; rw [hρ] at z; cases z)]; exact w2
    · exact .inr (.inl w)
    · exact .inr (.inr w)
  · cases z
    refine ⟨hx, if_pos rfl, ⟨vs, 0, (hs'.2 _ lL).trans (Heap.get?_push_size _ rfl), ha.reps H₂⟩, H'.sub.off lN, H'.keep.none lN, lL, fun y d z e => ?_⟩
    obtain ⟨⟨o, b1, _⟩, _⟩ := L.cell y d z
    obtain ⟨m', cm', L'⟩ := H'.loc
    obtain ⟨⟨o', b1', _⟩, _⟩ := L'.cell y d z
    rw [← e, lN] at b1'; cases b1'
  · obtain ⟨a1, a2, a3, a4, a5, a6⟩ := L.pin z hz
    obtain ⟨m', cm', L'⟩ := H'.loc
    exact ⟨(hs'.2 _ a3).trans a1, a2, a3, a4, a5, fun y l ps' e w => by cases e; have := (L'.pin z hz).1; rw [w, lN] at this; cases this⟩

-- unpacking
abbrev AS.pushAll (σ : AS) (vs : List Value) (ps : List PV) : AS := ⟨σ.ρ, σ.own, vs.zip ps ++ σ.κ⟩
theorem Holds.pushAll {F : PM} {h : Heap} : ∀ {vs : List Value} {ps : List PV}, Holds c fr F σ h → Reps F ps vs → Holds c fr F (σ.pushAll vs ps) h
  | [], _, H, r => H.drop fun q hq => by simpa using hq
  | v :: vs, [], H, r => by cases r
  | v :: vs, p :: ps, H, ⟨v', vs', e, r1, r2⟩ => by
    cases e
    exact (Holds.pushAll H r2).push r1
theorem HasAll.weaken {vs : List Value} {ps : List PV} {σ' : AS} (h : HasAll c σ vs ps) (k : ∀ v p, Has c σ v p → Has c σ' v p) : HasAll c σ' vs ps := by
  induction h with
  | nil => exact .nil
  | cons a _ ih => exact .cons (k _ _ a) ih
theorem hasAll_pushAll (σ : AS) : ∀ {vs : List Value} {ps : List PV}, vs.length = ps.length → HasAll c (σ.pushAll vs ps) vs ps
  | [], [], _ => .nil
  | v :: vs, p :: ps, h => .cons (Has.mem (by simp)) ((hasAll_pushAll σ (vs := vs) (ps := ps) (by simpa using h)).weaken fun v' p' hh fr F h H => hh fr F h (H.drop fun q hq => List.mem_cons_of_mem _ hq))
theorem J_unpack {xs : List PV} {v : Value} {elts : List Expr} {k : Nat} {pos : Pos} {Φ : Unit → AS → Prop} (hv : Has c σ v (.tup xs)) (hn : (assignEach elts env).length = xs.length) (hstar : (assignEach elts env).findIdx? (·.1) = none)
    (h : ∀ vs, vs.length = xs.length → J c n fr (σ.pushAll vs xs) (assignInOrder ((assignEach elts env).map (·.2)) vs) Φ) : J c n fr σ (assign (.Tuple elts k pos) env v) Φ := fun A r F s H Q q => by
  obtain ⟨a, vs, nn, rfl, ha, hr⟩ := hv _ _ _ H
  have ht : IsTup s.heap a vs.toArray := ⟨_, H.sub _ _ ha, rfl, nn, rfl⟩
  refine assign_Tuple_tuple r.1.2.2 ht (by rw [hn, List.size_toArray, hr.length]) hstar fun h' he => ?_
  have H' := (H.step (Kp.of_ext he) (Ext.keep H.sub (Kp.of_ext he))).pushAll hr
  exact h vs hr.length A r F _ H' Q q
theorem J_inOrder_nil {xs : List Value} {Φ : Unit → AS → Prop} (h : Φ () σ) : J c n fr σ (assignInOrder [] xs) Φ := J_here (a := ()) (fun A s Q q => assignInOrder_nil q) h
theorem J_inOrder {t : Value → Sem Unit} {ts : List (Value → Sem Unit)} {x : Value} {xs : List Value} {Φ : Unit → AS → Prop} (h : J c n fr σ (t x) fun _ σ' => J c n fr σ' (assignInOrder ts xs) Φ) : J c n fr σ (assignInOrder (t :: ts) (x :: xs)) Φ :=
  J_two (f := fun _ => assignInOrder ts xs) (fun A s Q q => assignInOrder_cons q) h
theorem J_AssignTuple {elts : List Expr} {k : Nat} {tpos pos : Pos} {value : Expr} {Φ : Flow → AS → Prop} (h : J c n fr σ (eval value env) fun v σ' => J c n fr σ' (assign (.Tuple elts k tpos) env v) fun _ σ'' => Φ .next σ'')
    (hs : swapsWithSole [.Tuple elts k tpos] value pos.line env = pure false := by rfl) (hw : swappedStores [.Tuple elts k tpos] value env = pure none := by rfl) : J c n fr σ (exec (.Assign [.Tuple elts k tpos] value pos) env) Φ :=
  fun A r F s H Q q => Assign_Tuple (h A r F s H _ fun v σ' F' h' tk z H' => z A r F' _ H' (fun _ => Q .next) fun u σ'' F'' h'' tk' z' H'' => q _ σ'' F'' h'' tk' z' H'') hs hw
theorem J_AssignSwap {elts : List Expr} {k : Nat} {tpos pos : Pos} {value : Expr} {names : List Str} {xs : List PV} {Φ : Flow → AS → Prop} (h : J c n fr σ (eval value env) fun v σ' => Has c σ' v (.tup xs) ∧ names.length = xs.length ∧ ∀ vs, vs.length = xs.length → J c n fr (σ'.pushAll vs xs) (assignInOrder (names.reverse.map fun n => bindName env n) vs.reverse) fun _ σ'' => Φ .next σ'')
    (hs : swapsWithSole [.Tuple elts k tpos] value pos.line env = pure false := by rfl) (hw : swappedStores [.Tuple elts k tpos] value env = pure (some names) := by rfl) : J c n fr σ (exec (.Assign [.Tuple elts k tpos] value pos) env) Φ :=
  fun A r F s H Q q => Assign_Tuple_swapped (h A r F s H _ fun v σ' F' h' tk z H' => by
    obtain ⟨hv, hn, z⟩ := z
    obtain ⟨a, vs, nn, rfl, ha, hr⟩ := hv _ _ _ H'
    have ht : IsTup h' a vs.toArray := ⟨_, H'.sub _ _ ha, rfl, nn, rfl⟩
    rw [hn, ← hr.length, ← List.size_toArray]
    refine unpackItems_tuple (s := { s with heap := h', toks := tk }) r.1.2.2 ht fun h'' he => ?_
    have H'' := (H'.step (Kp.of_ext he) (Ext.keep H'.sub (Kp.of_ext he))).pushAll hr
    exact z vs hr.length A r F' _ H'' (fun _ => Q .next) fun u σ'' F'' h'' tk' z' H'' => q _ σ'' F'' h'' tk' z' H'') hs hw
end
end Mine
end

-- J5
section
open PySem PySem.W PyProof.Rows PySem.Calls
set_option maxRecDepth 100000
namespace Mine

def clsOf : Fm → Addr
  | .sym _ => symC
  | .node k _ => kC k
structure ClsF (K : Frag) (D : Addr) : Prop where
  hg : plainGet K D "__class__" = true
  hd : hasDictIn K D = true
  ha : findIn K (.ref D) "__class__" = some (some (.builtin "object.__class__"))
  hm : mroIn K D (.type "object") = some true
theorem cls_get (w : World) : specialIn (KK w) (.builtin "object.__class__") "__get__" = some (some (.builtin "getset_descriptor.__get__")) := by kernel_rfl
theorem cls_takes (w : World) : takesIn (KK w) (.builtin "object.__class__") = some true := by kernel_rfl
theorem clsF_sym (w : World) : ClsF (KK w) symC := ⟨by kernel_rfl, by kernel_rfl, by kernel_rfl, by kernel_rfl⟩
theorem clsF_and (w : World) : ClsF (KK w) 268 := ⟨by kernel_rfl, by kernel_rfl, by kernel_rfl, by kernel_rfl⟩
theorem clsF_or (w : World) : ClsF (KK w) 349 := ⟨by kernel_rfl, by kernel_rfl, by kernel_rfl, by kernel_rfl⟩
theorem clsF_not (w : World) : ClsF (KK w) 385 := ⟨by kernel_rfl, by kernel_rfl, by kernel_rfl, by kernel_rfl⟩
theorem clsF_xor (w : World) : ClsF (KK w) 409 := ⟨by kernel_rfl, by kernel_rfl, by kernel_rfl, by kernel_rfl⟩
theorem clsF_imp (w : World) : ClsF (KK w) 448 := ⟨by kernel_rfl, by kernel_rfl, by kernel_rfl, by kernel_rfl⟩
theorem clsF_eqv (w : World) : ClsF (KK w) 481 := ⟨by kernel_rfl, by kernel_rfl, by kernel_rfl, by kernel_rfl⟩
theorem clsF (w : World) (f : Fm) : ClsF (KK w) (clsOf f) := by
  cases f with
  | sym i => exact clsF_sym w
  | node k as => cases k <;> first | exact clsF_and w | exact clsF_or w | exact clsF_not w | exact clsF_xor w | exact clsF_imp w | exact clsF_eqv w

/-- the object of a formula -/
def esOf (F : PM) (f : Fm) (es : List DictEntry) : Prop := match f with
  | .sym i => ∃ h1 h2 t1 t2 t3 t4, es = [⟨h1, .str "name" t1, .str (nm i) t3⟩, ⟨h2, .str "text" t2, .str (nm i) t4⟩]
  | .node k as => ∃ a vs n h1 h2 t1 t2 t3, es = [⟨h1, .str "args" t1, .ref a⟩, ⟨h2, .str "text" t2, .str (text (.node k as)) t3⟩] ∧ F a = some (tupObj vs n) ∧ RepFs F as vs
theorem RepF.inst {F : PM} {f : Fm} {v : Value} (r : RepF F f v) : ∃ x es, v = .ref x ∧ Inst F x (clsOf f) es ∧ esOf F f es := by
  cases f with
  | sym i =>
    unfold RepF at r
    obtain ⟨x, h1, h2, t1, t2, t3, t4, e, i⟩ := r
    exact ⟨x, _, e, i, h1, h2, t1, t2, t3, t4, rfl⟩
  | node k as =>
    unfold RepF at r
    obtain ⟨x, a, vs, n, h1, h2, t1, t2, t3, e, i, ha, rs⟩ := r
    exact ⟨x, _, e, i, a, vs, n, h1, h2, t1, t2, t3, rfl, ha, rs⟩
theorem Inst.at {F : PM} {h : Heap} (s : Sub F h) {x C : Addr} {es : List DictEntry} (i : Inst F x C es) : ∃ d n, PySem.W.InstAt h x (instObj C d) C (some (dictOf es n)) := by
  obtain ⟨d, n, a, b⟩ := i
  exact ⟨d, n, s _ _ a, rfl, rfl, s _ _ b⟩

theorem reps_val {F : PM} : ∀ {Ds vs : List Value}, Reps F (Ds.map .val) vs → vs = Ds
  | [], _, e => e
  | D :: Ds, _, ⟨v, vs', e, r1, r2⟩ => by rw [e, reps_val r2, show v = D from r1]
section
variable {c : Cx} {n : Nat} {fr : Fc} {σ : AS} {env : Env}
-- isinstance
theorem Steps_isiF {v : Value} {f : Fm} {D : Value} {b : Bool} (e : kitOne (KK c.w) (.ref (clsOf f)) D = some b) : Steps c n (call (.builtin "isinstance") [v, D]) (fun F _ => RepF F f v) (fun _ _ r => r = .bool b) :=
  fun A r F s hB hS hP Q q => by
    obtain ⟨x, es, rfl, i, _⟩ := hP.inst
    obtain ⟨d, k, I⟩ := i.at hS
    have C := clsF c.w f
    exact kia_one (kitx_own C.hg C.hd C.ha (cls_get c.w) (cls_takes c.w) C.hm) (hB.inK hS) I e (by intro x; cases x) fun tk => q _ F s.heap tk (Kp.refl _) (Ext.refl hS) rfl
theorem J_isiF {v : Value} {f : Fm} {D : Value} {b : Bool} {Φ : Value → AS → Prop} (hv : Has c σ v (.fm f)) (e : kitOne (KK c.w) (.ref (clsOf f)) D = some b) (k : Φ (.bool b) σ) : J c n fr σ (call (.builtin "isinstance") [v, D]) Φ :=
  fun A r F s H Q q => Steps_isiF (n := n) e A r.1 F s H.baseF H.sub (hv _ _ _ H) Q fun a F' h' tk kp ex ra => by subst ra; exact q _ σ F' h' tk k (H.step kp ex)
theorem J_isiB {b' : Bool} {D : Value} {b : Bool} {Φ : Value → AS → Prop} (e : kitOne (KK c.w) (.type "bool") D = some b) (k : Φ (.bool b) σ) : J c n fr σ (call (.builtin "isinstance") [.bool b', D]) Φ :=
  fun A r F s H Q q => kia_one kitx_bool H.inK trivial e (by intro x; cases x) fun tk => q _ σ F s.heap tk k H
/-- isinstance with a tuple of classes -/
theorem J_isiFT {v tv : Value} {f : Fm} {Ds : List Value} {b : Bool} {Φ : Value → AS → Prop} (hv : Has c σ v (.fm f)) (ht : Has c σ tv (.tup (Ds.map .val))) (e : kitAny (KK c.w) (.ref (clsOf f)) Ds = some b) (k : Φ (.bool b) σ) : J c n fr σ (call (.builtin "isinstance") [v, tv]) Φ :=
  fun A r F s H Q q => by
    obtain ⟨x, es, rfl, i, _⟩ := RepF.inst (hv _ _ _ H)
    obtain ⟨d, k', I⟩ := i.at H.sub
    have C := clsF c.w f
    obtain ⟨a, vs, m, rfl, ha, hr⟩ := ht _ _ _ H
    obtain rfl := reps_val hr
    exact kia_tup (kitx_own C.hg C.hd C.ha (cls_get c.w) (cls_takes c.w) C.hm) H.inK I (H.sub _ _ ha) e (by intro x; cases x) fun tk => q _ σ F s.heap tk k H
theorem J_isiBT {b' : Bool} {tv : Value} {Ds : List Value} {b : Bool} {Φ : Value → AS → Prop} (ht : Has c σ tv (.tup (Ds.map .val))) (e : kitAny (KK c.w) (.type "bool") Ds = some b) (k : Φ (.bool b) σ) : J c n fr σ (call (.builtin "isinstance") [.bool b', tv]) Φ :=
  fun A r F s H Q q => by
    obtain ⟨a, vs, m, rfl, ha, hr⟩ := ht _ _ _ H
    obtain rfl := reps_val hr
    exact kia_tup kitx_bool H.inK trivial (H.sub _ _ ha) e (by intro x; cases x) fun tk => q _ σ F s.heap tk k H

-- what objects bear
theorem plainGet_all (w : World) (f : Fm) : findIn (KK w) (.ref (clsOf f)) "__getattribute__" = some (some (.builtin "object.__getattribute__")) ∧ findIn (KK w) (.ref (clsOf f)) "__getattr__" = some none := plainGet_of (clsF w f).hg
theorem J_getAttr {v : Value} {f : Fm} {name : Str} {ex : Bool} {p : PV} {Φ : Value → AS → Prop} (hv : Has c σ v (.fm f))
    (hf : ∀ F h es m, Base c F → Sub F h → esOf F f es → ∃ r, findObj (KK c.w) (clsOf f) (some (dictOf es m)) name = some (.value r) ∧ handedIn r = true ∧ Rep F p r)
    (k : ∀ r, Φ r (σ.push r p)) : J c n fr σ (getAttr v name ex) Φ := fun A r F s H Q q => by
  obtain ⟨x, es, rfl, i, he⟩ := RepF.inst (hv _ _ _ H)
  obtain ⟨d, m, I⟩ := i.at H.sub
  obtain ⟨y, e1, e2, e3⟩ := hf F s.heap es m H.baseF H.sub he
  exact get_value H.inK I (plainGet_all c.w f).1 e1 e2 (q _ _ F s.heap _ (k y) (H.push e3))
theorem J_args {v : Value} {k : Kd} {as : List Fm} {ex : Bool} {Φ : Value → AS → Prop} (hv : Has c σ v (.fm (.node k as))) (kk : ∀ r, Φ r (σ.push r (.tup (as.map .fm)))) : J c n fr σ (getAttr v "args" ex) Φ :=
  J_getAttr hv (fun F h es m hB hS he => by
    obtain ⟨a, vs, nn, h1, h2, t1, t2, t3, rfl, ha, hr⟩ := he
    exact ⟨.ref a, by cases k <;> kernel_rfl, rfl, a, vs, nn, rfl, ha, hr.reps⟩) kk
theorem J_text {v : Value} {f : Fm} {ex : Bool} {Φ : Value → AS → Prop} (hv : Has c σ v (.fm f)) (kk : ∀ r, Φ r (σ.push r (.str (text f)))) : J c n fr σ (getAttr v "text" ex) Φ :=
  J_getAttr hv (fun F h es m hB hS he => by
    cases f with
    | sym i =>
      obtain ⟨h1, h2, t1, t2, t3, t4, rfl⟩ := he
      exact ⟨.str (nm i) t4, by kernel_rfl, rfl, t4, rfl⟩
    | node k as =>
      obtain ⟨a, vs, nn, h1, h2, t1, t2, t3, rfl, ha, hr⟩ := he
      exact ⟨.str (text (.node k as)) t3, by cases k <;> kernel_rfl, rfl, t3, rfl⟩) kk
theorem J_nameAttr {v : Value} {i : Fin 3} {ex : Bool} {Φ : Value → AS → Prop} (hv : Has c σ v (.fm (.sym i))) (kk : ∀ r, Φ r (σ.push r (.str (nm i)))) : J c n fr σ (getAttr v "name" ex) Φ :=
  J_getAttr hv (fun F h es m hB hS he => by
    obtain ⟨h1, h2, t1, t2, t3, t4, rfl⟩ := he
    exact ⟨.str (nm i) t3, by kernel_rfl, rfl, t3, rfl⟩) kk
/-- what the class bears -/
theorem J_getAttrC {v : Value} {f : Fm} {name : Str} {ex : Bool} {b : Bool} {Φ : Value → AS → Prop} (hv : Has c σ v (.fm f)) (hf : ∀ F es m, esOf F f es → findObj (KK c.w) (clsOf f) (some (dictOf es m)) name = some (.value (.bool b))) (k : Φ (.bool b) σ) : J c n fr σ (getAttr v name ex) Φ := fun A r F s H Q q => by
  obtain ⟨x, es, rfl, i, he⟩ := RepF.inst (hv _ _ _ H)
  obtain ⟨d, m, I⟩ := i.at H.sub
  exact get_value H.inK I (plainGet_all c.w f).1 (hf F es m he) rfl (q _ _ F s.heap _ k H)
def labTok : Kd → Nat
  | .and => 535 | .or => 662 | .not => 690 | .xor => 743 | .imp => 775 | .eqv => 833
def isNot : Fm → Bool
  | .node .not _ => true
  | _ => false
def isSym : Fm → Bool
  | .sym _ => true
  | _ => false
theorem J_isNot {v : Value} {f : Fm} {ex : Bool} {Φ : Value → AS → Prop} (hv : Has c σ v (.fm f)) (kk : Φ (.bool (isNot f)) σ) : J c n fr σ (getAttr v "is_Not" ex) Φ :=
  J_getAttrC hv (fun F es m he => by
    cases f with
    | sym i => obtain ⟨h1, h2, t1, t2, t3, t4, rfl⟩ := he; kernel_rfl
    | node k as => obtain ⟨a, vs, nn, h1, h2, t1, t2, t3, rfl, ha, hr⟩ := he; cases k <;> kernel_rfl) kk
theorem J_isAtom {v : Value} {f : Fm} {ex : Bool} {Φ : Value → AS → Prop} (hv : Has c σ v (.fm f)) (kk : Φ (.bool (isSym f)) σ) : J c n fr σ (getAttr v "is_Atom" ex) Φ :=
  J_getAttrC hv (fun F es m he => by
    cases f with
    | sym i => obtain ⟨h1, h2, t1, t2, t3, t4, rfl⟩ := he; kernel_rfl
    | node k as => obtain ⟨a, vs, nn, h1, h2, t1, t2, t3, rfl, ha, hr⟩ := he; cases k <;> kernel_rfl) kk
theorem J_label {v : Value} {k : Kd} {as : List Fm} {ex : Bool} {Φ : Value → AS → Prop} (hv : Has c σ v (.fm (.node k as))) (kk : ∀ r, Φ r (σ.push r (.str (label k)))) : J c n fr σ (getAttr v "label" ex) Φ :=
  J_getAttr hv (fun F h es m hB hS he => by
    obtain ⟨a, vs, nn, h1, h2, t1, t2, t3, rfl, ha, hr⟩ := he
    exact ⟨.str (label k) (labTok k), by cases k <;> kernel_rfl, rfl, _, rfl⟩) kk
end
end Mine
end

-- J6
section
open PySem PySem.W PyProof.Rows PySem.Calls
set_option maxRecDepth 100000
namespace Mine
section
variable {c : Cx} {n : Nat} {fr : Fc} {σ : AS} {env : Env}
theorem J_CallAttr {o : Expr} {name : Str} {apos pos : Pos} {args : List Expr} {kws : List Keyword} {few : Bool} {Φ : Value → AS → Prop}
    (h : J c n fr σ (eval o env) fun ov σ' => J c n fr σ' (calleeOf few o env ov name) fun ff σ'' => J c n fr σ'' (callWith pos ff.1 ff.2 (backTo pos (starEach args env)) (backToKw pos (keywordEach kws env))) Φ)
    (hf : methodCallForm (args.length + kws.length) (backTo pos (starEach args env)) (backToKw pos (keywordEach kws env)) = few := by rfl)
    (hb : ∀ t, attributeBase o name env t = t := by intro t; rfl) (hp : (!few || apos.endLine == pos.line) = true := by decide) : J c n fr σ (eval (.Call (.Attribute o name apos) args kws pos) env) Φ := by
  rw [arm_eval_Call, hb]
  refine J_bind (J_mono h fun ov σ' q => J_bind (J_standAt ?_))
  unfold methodCall
  rw [hf]
  refine J_bind (J_holding (J_mono q fun ff σ'' z => ?_))
  obtain ⟨f, first⟩ := ff
  unfold methodCallPos
  rw [if_pos hp]
  exact J_bind (J_pure z)
theorem J_calleeFew {o : Expr} {ov : Value} {name : Str} {Φ : Value × List Value → AS → Prop} (h : ∀ pl, J c n fr σ (getMethod ov name pl) Φ) : J c n fr σ (calleeOf true o env ov name) Φ := h _
theorem J_calleeStar {o : Expr} {ov : Value} {name : Str} {Φ : Value × List Value → AS → Prop} (h : J c n fr σ (getAttr ov name true) fun v σ' => Φ (v, []) σ') : J c n fr σ (calleeOf false o env ov name) Φ :=
  J_bind (m := getAttr ov name true) (J_mono h fun v σ' q => J_pure q)

/-- a method of an object's class, a plain function -/
theorem J_methF {v : Value} {f : Fm} {name : Str} {pl : Sem Bool} {g : Addr} {Φ : Value × List Value → AS → Prop} (hv : Has c σ v (.fm f)) (hf : findIn (KK c.w) (.ref (clsOf f)) name = some (some (.ref g))) (ht : typeIn (KK c.w) (.ref g) = some (.type "function"))
    (hs : ∀ F es m, esOf F f es → shadowIn (some (dictOf es m)) name = some false) (k : Φ (.ref g, [v]) σ) : J c n fr σ (getMethod v name pl) Φ := fun A r F s H Q q => by
  obtain ⟨x, es, rfl, i, he⟩ := RepF.inst (hv _ _ _ H)
  obtain ⟨d, m, I⟩ := i.at H.sub
  obtain ⟨h1, h2⟩ := plainGet_all c.w f
  exact method_fn H.inK I h1 h2 hf ht (hs F es m he) (q _ σ F s.heap s.toks k H)
/-- a classmethod of a class -/
theorem J_cm {C p : Addr} {mc : Value} {name : Str} {f : Value} {rest : List Value} {ex : Bool} {Φ : Value → AS → Prop} (hr : readsIn (KK c.w) C mc = true)
    (e : findCls (KK c.w) (.ref C) mc name = some (.get (.builtin "classmethod.__get__") (.ref p) .none (.ref C))) (hp : recIn (KK c.w) p "classmethod" = some (f :: rest)) (k : ∀ v, Φ v (σ.push v (.raw (methodObj f (.ref C))))) : J c n fr σ (getAttr (.ref C) name ex) Φ := fun A r F s H Q q => by
  refine cls_bind H.inK hr e (wpAny_call (cm_get (s := { s with toks := s.toks + 1 }) H.inK hp (handed_on rfl ?_)))
  have ee := Ext.alloc H.sub (methodObj f (.ref C)) rfl
  exact q _ _ _ _ _ (k (.ref s.heap.objs.size)) ((H.step (Kp.push _ _) ee).push ⟨_, rfl, put_self _ _ _⟩)
/-- a classmethod by way of an object -/
theorem J_cmI {v : Value} {fm : Fm} {p : Addr} {name : Str} {f : Value} {rest : List Value} {ex : Bool} {Φ : Value → AS → Prop} (hv : Has c σ v (.fm fm))
    (hf : ∀ F es m, esOf F fm es → findObj (KK c.w) (clsOf fm) (some (dictOf es m)) name = some (.bind (.builtin "classmethod.__get__") (.ref p))) (hp : recIn (KK c.w) p "classmethod" = some (f :: rest)) (k : ∀ v, Φ v (σ.push v (.raw (methodObj f (.ref (clsOf fm)))))) : J c n fr σ (getAttr v name ex) Φ := fun A r F s H Q q => by
  obtain ⟨x, es, rfl, i, he⟩ := RepF.inst (hv _ _ _ H)
  obtain ⟨d, m, I⟩ := i.at H.sub
  obtain ⟨h1, h2⟩ := plainGet_all c.w fm
  refine get_bind H.inK I h1 (hf F es m he) h2 (wpAny_call (cm_get (C := clsOf fm) (obj := .ref x) (s := { s with toks := s.toks + 1 }) H.inK hp (handed_on rfl ?_)))
  have ee := Ext.alloc H.sub (methodObj f (.ref (clsOf fm))) rfl
  exact q _ _ _ _ _ (k (.ref s.heap.objs.size)) ((H.step (Kp.push _ _) ee).push ⟨_, rfl, put_self _ _ _⟩)
theorem J_methC {C : Addr} {name : Str} {pl : Sem Bool} {Φ : Value × List Value → AS → Prop} (hg : specialIn (KK c.w) (.ref C) "__getattribute__" = some (some (.builtin "type.__getattribute__")))
    (h : J c n fr σ (getAttr (.ref C) name) fun v σ' => Φ (v, []) σ') : J c n fr σ (getMethod (.ref C) name pl) Φ := fun A r F s H Q q =>
  method_cls H.inK hg (h A r F s H _ fun v σ' F' h' tk z H' => q _ σ' F' h' tk z H')
/-- a plain value that a class bears -/
theorem J_clsVal {C : Addr} {mc a : Value} {name : Str} {ex : Bool} {Φ : Value → AS → Prop} (hr : readsIn (KK c.w) C mc = true) (e : findCls (KK c.w) (.ref C) mc name = some (.val a)) (hh : handedIn a = true) (k : Φ a σ) : J c n fr σ (getAttr (.ref C) name ex) Φ := fun A r F s H Q q =>
  cls_value H.inK hr e hh (q _ σ F s.heap _ k H)
/-- a bound method called -/
theorem J_callBound {pos : Pos} {v : Value} {g : Addr} {self : Value} {args : List (Bool × Sem Value)} {keywords : List (Option Str × Sem Value)} {Φ : Value → AS → Prop} (hv : Has c σ v (.raw (methodObj (.ref g) self))) (hfn : fnIn (KK c.w) g = true)
    (h : J c n fr σ (evalArgs v true args keywords) fun a σ' => Has c σ' v (.raw (methodObj (.ref g) self)) ∧ J c n fr σ' (call v a.pos a.kw) Φ) : J c n fr σ (callWith pos v [] args keywords) Φ := by
  unfold callWith
  refine J_bind (J_holding (J_mono h fun a σ' q => J_bind (J_standAt ?_)))
  obtain ⟨hv', q⟩ := q
  unfold fnIn at hfn
  split at hfn
  · rename_i e
    refine J_bind (J_looks (a := Keeper.boundFrame) (fun F h H => ?_) ?_)
    · obtain ⟨b, rfl, hb⟩ := hv' _ _ _ H
      refine (Looks.ld (part := none) (H.sub _ _ hb)).andThen ?_
      exact (Looks.ld (part := none) (H.inK _ _ e)).andThen .now
    · have fin : ∀ t : Sem Value, J c n fr σ' t Φ → J c n fr σ' (t >>= fun r => holding [r] point >>= fun _ => pure r) Φ := fun t q => J_bind (J_mono q fun r σ'' q => J_bind (J_holding (J_point (J_pure q))))
      have mk : ∀ w, J c n fr σ' (callMarked w v ([] ++ a.pos) a.kw) Φ := fun w => J_keep q
      cases (args.any (·.1) || keywords.any (·.1.isNone)) <;> dsimp only <;> first | exact fin _ (mk _) | exact fin _ (J_operate q) | exact fin _ q | (split; exact fin _ q; exact fin _ (mk _))
  · cases hfn
/-- the contract of what a bound method runs -/
theorem J_ctBound {m : Nat} {v : Value} {g self : Value} {sp : PV} {vs : List Value} {kvs : List (Str × Value)} {ps : List PV} {kws : List (Str × PV)} {p : PV} {Φ : Value → AS → Prop} (hv : Has c σ v (.raw (methodObj g self))) (h : CT c m g (sp :: ps) kws p) (hm : m ≤ n) (hs : Has c σ self sp) (ha : HasAll c σ vs ps)
    (hk : kvs.map (·.1) = kws.map (·.1) ∧ HasAll c σ (kvs.map (·.2)) (kws.map (·.2))) (k : ∀ v, Φ v (σ.push v p)) : J c n fr σ (call v vs kvs) Φ :=
  fun A r F s H Q q => by
    obtain ⟨b, rfl, hb⟩ := hv _ _ _ H
    refine wpAny_call (codeAny_mono (method_call (H.sub _ _ hb) (h (self :: vs) kvs A (r.mono hm) F s H.baseF H.sub (Reps.cons (hs _ _ _ H) (ha.reps H)) ⟨hk.1, hk.2.reps H⟩ Q fun v F' h' tk kp e rv => q v (σ.push v p) F' h' tk (k v) ((H.step kp e).push rv))) fun r s' z => ?_)
    rcases r with e | (v | _ | _ | _) <;> first | exact z | exact z.elim

-- arguments with a star
theorem notIter_tup {v : Value} {xs : List PV} {Φ : Bool → AS → Prop} (hv : Has c σ v (.tup xs)) (k : Φ false σ) : J c n fr σ (notIterableAtAll v) Φ := fun A r F s H Q q => by
  obtain ⟨a, vs, nn, rfl, ha, hr⟩ := hv _ _ _ H
  have hT : s.TypeIs (.ref a) "tuple" := ⟨_, H.sub _ _ ha, rfl⟩
  unfold notIterableAtAll
  exact wpAny_bind (wpAny_specialOf hT PySem.F.slot_tuple_iter.lookup (wpAny_pure (q _ σ F s.heap s.toks k H)))
theorem notIter_lst {v : Value} {xs : List PV} {Φ : Bool → AS → Prop} (hv : Has c σ v (.lst xs)) (k : Φ false σ) : J c n fr σ (notIterableAtAll v) Φ := fun A r F s H Q q => by
  obtain ⟨a, vs, nn, rfl, ha, hr⟩ := hv _ _ _ H
  have hT : s.TypeIs (.ref a) "list" := ⟨_, H.sub _ _ ha, rfl⟩
  unfold notIterableAtAll
  exact wpAny_bind (wpAny_specialOf hT PySem.F.slot_list_iter.lookup (wpAny_pure (q _ σ F s.heap s.toks k H)))
theorem J_collectT {v : Value} {xs : List PV} {Φ : List Value → AS → Prop} (hv : Has c σ v (.tup xs)) (hz : xs.length ≤ sizeLine) (k : ∀ vs, vs.length = xs.length → Φ vs (σ.pushAll vs xs)) : J c n fr σ (collect v) Φ := fun A r F s H Q q => by
  obtain ⟨a, vs, nn, rfl, ha, hr⟩ := hv _ _ _ H
  have hT : s.TypeIs (.ref a) "tuple" := ⟨_, H.sub _ _ ha, rfl⟩
  refine wpAny_collect_seq a (.inr rfl) (H.sub _ _ ha) rfl rfl (fun h' hk => ?_) (by rw [List.size_toArray, hr.length]; exact hz)
  exact q _ _ F h' _ (k vs hr.length) ((H.step hk (Ext.keep H.sub hk)).pushAll hr)
theorem J_collectL {v : Value} {xs : List PV} {Φ : List Value → AS → Prop} (hv : Has c σ v (.lst xs)) (hz : xs.length ≤ sizeLine) (k : ∀ vs, vs.length = xs.length → Φ vs (σ.pushAll vs xs)) : J c n fr σ (collect v) Φ := fun A r F s H Q q => by
  obtain ⟨a, vs, nn, rfl, ha, hr⟩ := hv _ _ _ H
  have hT : s.TypeIs (.ref a) "list" := ⟨_, H.sub _ _ ha, rfl⟩
  refine wpAny_collect_seq a (.inl rfl) (H.sub _ _ ha) rfl rfl (fun h' hk => ?_) (by rw [List.size_toArray, hr.length]; exact hz)
  exact q _ _ F h' _ (k vs hr.length) ((H.step hk (Ext.keep H.sub hk)).pushAll hr)
theorem J_evalStar {f : Value} {e : Expr} {p pos : Pos} {kws : List Keyword} {Φ : Args → AS → Prop}
    (h : J c n fr σ (eval e env) fun v σ' => J c n fr σ' (evalAll ((backToKw pos (keywordEach kws env)).map (·.2))) fun kvs σ'' => J c n fr σ'' (notIterableAtAll v) fun b σ₃ => b = false ∧ J c n fr σ₃ (collect v) fun vs σ₄ => Φ ⟨vs, ((backToKw pos (keywordEach kws env)).filterMap (·.1)).zip kvs⟩ σ₄)
    (hall : (backToKw pos (keywordEach kws env)).all (·.1.isSome) = true := by rfl) : J c n fr σ (evalArgs f true (backTo pos (starEach [.Starred e p] env)) (backToKw pos (keywordEach kws env))) Φ := by
  show J c n fr σ (evalArgs f true [(true, do let v ← eval e env; standAt pos; pure v)] (backToKw pos (keywordEach kws env))) Φ
  unfold evalArgs
  refine J_bind (J_bind (J_mono h fun v σ' q => J_bind (J_standAt (J_pure ?_))))
  refine J_bind (J_pure (J_holding ?_))
  rw [if_pos hall]
  refine J_bind (J_mono q fun kvs σ'' q => ?_)
  refine J_bind (J_bind (J_mono q fun b σ₃ q => ?_))
  obtain ⟨rfl, q⟩ := q
  exact J_bind (J_pure (J_holding (J_mono q fun vs σ₄ q => J_pure q)))
theorem J_evalAll_nil {Φ : List Value → AS → Prop} (h : Φ [] σ) : J c n fr σ (evalAll []) Φ := J_pure h
theorem J_evalAll {t : Sem Value} {ts : List (Sem Value)} {pos : Pos} {Φ : List Value → AS → Prop} (h : J c n fr σ t fun v σ' => J c n fr σ' (evalAll ts) fun vs σ'' => Φ (v :: vs) σ'') : J c n fr σ (evalAll ((do let v ← t; standAt pos; pure v) :: ts)) Φ := by
  unfold evalAll
  exact J_bind (J_bind (J_mono h fun v σ' q => J_bind (J_standAt (J_pure (J_bind (J_holding (J_mono q fun vs σ'' q => J_pure q)))))))
/-- plain arguments and keywords -/
theorem J_evalKw {f : Value} {e : Expr} {rest : List Expr} {pos : Pos} {kws : List Keyword} {Φ : Args → AS → Prop}
    (h : J c n fr σ (spliced (backTo pos (starEach (e :: rest) env))) fun vs σ' => J c n fr σ' (evalAll ((backToKw pos (keywordEach kws env)).map (·.2))) fun kvs σ'' => Φ ⟨vs, ((backToKw pos (keywordEach kws env)).filterMap (·.1)).zip kvs⟩ σ'')
    (he : starEach (e :: rest) env = (false, eval e env) :: starEach rest env := by rfl) (hall : (backToKw pos (keywordEach kws env)).all (·.1.isSome) = true := by rfl) : J c n fr σ (evalArgs f true (backTo pos (starEach (e :: rest) env)) (backToKw pos (keywordEach kws env))) Φ :=
  fun A r F s H Q q => evalArgs_kw2 hall (h A r F s H _ fun vs σ' F' h' tk z H' => z A r F' _ H' _ fun kvs σ'' F'' h'' tk' z' H'' => q _ σ'' F'' h'' tk' z' H'') he
end
end Mine
end

-- J7
section
open PySem PySem.W PyProof.Rows PySem.Calls
set_option maxRecDepth 100000
namespace Mine
theorem Reps.one {F : PM} {p : PV} {vs : List Value} (h : Reps F [p] vs) : ∃ a, vs = [a] ∧ Rep F p a := by
  obtain ⟨a, _, rfl, r, rfl⟩ := h; exact ⟨a, rfl, r⟩
theorem Reps.two {F : PM} {p q : PV} {vs : List Value} (h : Reps F [p, q] vs) : ∃ a b, vs = [a, b] ∧ Rep F p a ∧ Rep F q b := by
  obtain ⟨a, _, rfl, r, b, _, rfl, r', rfl⟩ := h; exact ⟨a, b, rfl, r, r'⟩
theorem Reps.three {F : PM} {p q t : PV} {vs : List Value} (h : Reps F [p, q, t] vs) : ∃ a b d, vs = [a, b, d] ∧ Rep F p a ∧ Rep F q b ∧ Rep F t d := by
  obtain ⟨a, _, rfl, r, b, _, rfl, r', d, _, rfl, r'', rfl⟩ := h; exact ⟨a, b, d, rfl, r, r', r''⟩
theorem KReps.nilEq {F : PM} {kvs : List (Str × Value)} (h : KReps F [] kvs) : kvs = [] := by
  have := h.1; simpa using this
theorem kindsN {scope : Scope} {names : List Str} (e : (names.all fun y => scope.names.lookup y == some .local || scope.names.lookup y == some .cell) = true) :
    ∀ L : Nat, ∀ x ∈ names, scope.names.lookup x = some .local ∨ (scope.names.lookup x = some .cell ∧ ((cellsFrom (L + 1) scope.names []).lookup x).isSome = true) := fun L x hx => by
  have := List.all_eq_true.mp e x hx
  rcases Bool.or_eq_true_iff.mp this with q | q
  · exact .inl (beq_iff_eq.mp q)
  · have q' := beq_iff_eq.mp q
    exact .inr ⟨q', cellsFrom_some _ _ _ (.inl q')⟩
section
variable {c : Cx} {n : Nat}
abbrev BindSpec (c : Cx) (n : Nat) (fd : FuncData) (ps : List PV) (kws : List (Str × PV)) (names : List Str) (pvs : List PV) : Prop :=
  ∀ vs kvs, Steps c n (bindArgs fd ⟨vs, kvs⟩) (fun F _ => Reps F ps vs ∧ KReps F kws kvs) (fun F _ b => b.map (·.1) = names ∧ Reps F pvs (b.map (·.2)))
theorem bind1 {fd : FuncData} {p : PV} {x : Str} (h : ∀ a, bindArgs fd ⟨[a], []⟩ = pure [(x, a)]) : BindSpec c n fd [p] [] [x] [p] := fun vs kvs A r F s hB hS hP Q q => by
  obtain ⟨a, rfl, ra⟩ := hP.1.one
  obtain rfl := hP.2.nilEq
  rw [h]
  exact wpAny_pure (q _ F s.heap s.toks (Kp.refl _) (Ext.refl hS) ⟨rfl, hP.1⟩)
theorem bind2 {fd : FuncData} {p q : PV} {x y : Str} (h : ∀ a b, bindArgs fd ⟨[a, b], []⟩ = pure [(x, a), (y, b)]) : BindSpec c n fd [p, q] [] [x, y] [p, q] := fun vs kvs A r F s hB hS hP Q q => by
  obtain ⟨a, b, rfl, _⟩ := hP.1.two
  obtain rfl := hP.2.nilEq
  rw [h]
  exact wpAny_pure (q _ F s.heap s.toks (Kp.refl _) (Ext.refl hS) ⟨rfl, hP.1⟩)
/-- one given, one by default -/
theorem bind1d {fd : FuncData} {p q : PV} {x y : Str} {T : Addr} {o : Obj} {items : Array Value} {m : Nat} (ht : (KK c.w).lookup T = some o) (hd : o.data = .seq items m) {k : Value → Option (Array Value) → Sem (List (Str × Value))} {dv : Value}
    (h₁ : ∀ a, bindArgs fd ⟨[a], []⟩ = seqItems? fd.defaults >>= k a) (hf : fd.defaults = .ref T) (h₂ : ∀ a, k a (some items) = pure [(x, a), (y, dv)]) (hq : ∀ F, Rep F q dv) : BindSpec c n fd [p] [] [x, y] [p, q] := fun vs kvs A r F s hB hS hP Q qq => by
  obtain ⟨a, rfl, ra⟩ := hP.1.one
  obtain rfl := hP.2.nilEq
  refine BindsTo.of_defaults hf ((hB.inK hS) _ _ ht) hd (h₁ a) (h₂ a) c.M A _ _ ?_
  exact qq _ F s.heap s.toks (Kp.refl _) (Ext.refl hS) ⟨rfl, ra |> fun r => Reps.cons r (Reps.cons (hq F) Reps.nil)⟩
theorem bind1dd {fd : FuncData} {p q q' : PV} {x y z : Str} {T : Addr} {o : Obj} {items : Array Value} {m : Nat} (ht : (KK c.w).lookup T = some o) (hd : o.data = .seq items m) {k : Value → Option (Array Value) → Sem (List (Str × Value))} {dv dv' : Value}
    (h₁ : ∀ a, bindArgs fd ⟨[a], []⟩ = seqItems? fd.defaults >>= k a) (hf : fd.defaults = .ref T) (h₂ : ∀ a, k a (some items) = pure [(x, a), (y, dv), (z, dv')]) (hq : ∀ F, Rep F q dv) (hq' : ∀ F, Rep F q' dv') : BindSpec c n fd [p] [] [x, y, z] [p, q, q'] := fun vs kvs A r F s hB hS hP Q qq => by
  obtain ⟨a, rfl, ra⟩ := hP.1.one
  obtain rfl := hP.2.nilEq
  refine BindsTo.of_defaults hf ((hB.inK hS) _ _ ht) hd (h₁ a) (h₂ a) c.M A _ _ ?_
  exact qq _ F s.heap s.toks (Kp.refl _) (Ext.refl hS) ⟨rfl, Reps.cons ra (Reps.cons (hq F) (Reps.cons (hq' F) Reps.nil))⟩
/-- two given, the defaults unasked -/
theorem bind2d {fd : FuncData} {p q : PV} {x y : Str} {T : Addr} {o : Obj} {items : Array Value} {m : Nat} (ht : (KK c.w).lookup T = some o) (hd : o.data = .seq items m) {k : Value → Value → Option (Array Value) → Sem (List (Str × Value))}
    (h₁ : ∀ a b, bindArgs fd ⟨[a, b], []⟩ = seqItems? fd.defaults >>= k a b) (hf : fd.defaults = .ref T) (h₂ : ∀ a b, k a b (some items) = pure [(x, a), (y, b)]) : BindSpec c n fd [p, q] [] [x, y] [p, q] := fun vs kvs A r F s hB hS hP Q qq => by
  obtain ⟨a, b, rfl, ra⟩ := hP.1.two
  obtain rfl := hP.2.nilEq
  refine BindsTo.of_defaults hf ((hB.inK hS) _ _ ht) hd (h₁ a b) (h₂ a b) c.M A _ _ ?_
  exact qq _ F s.heap s.toks (Kp.refl _) (Ext.refl hS) ⟨rfl, hP.1⟩
end
section
variable {c : Cx} {n : Nat} {fr : Fc} {σ : AS} {env : Env}
-- comparisons of plain values
theorem J_eqStr {v w : Value} {x y : Str} {Φ : Value → AS → Prop} (hv : Has c σ v (.str x)) (hw : Has c σ w (.str y)) (k : Φ (.bool (x.cps.toList == y.cps.toList)) σ) : J c n fr σ (compareOp .Eq v w) Φ := fun A r F s H Q q => by
  obtain ⟨t, rfl⟩ := hv _ _ _ H
  obtain ⟨u, rfl⟩ := hw _ _ _ H
  exact PySem.P.eq_str (q _ σ F s.heap s.toks k H)
theorem J_eqInt {v w : Value} {x y : Int} {Φ : Value → AS → Prop} (hv : Has c σ v (.int x)) (hw : Has c σ w (.int y)) (k : Φ (.bool (x == y)) σ) : J c n fr σ (compareOp .Eq v w) Φ := fun A r F s H Q q => by
  obtain ⟨t, rfl⟩ := hv _ _ _ H
  obtain ⟨u, rfl⟩ := hw _ _ _ H
  exact PyProof.Rows.eq_int (q _ σ F s.heap s.toks k H)
theorem J_ltInt {v w : Value} {x y : Int} {Φ : Value → AS → Prop} (hv : Has c σ v (.int x)) (hw : Has c σ w (.int y)) (k : Φ (.bool (decide (x < y))) σ) : J c n fr σ (compareOp .Lt v w) Φ := fun A r F s H Q q => by
  obtain ⟨t, rfl⟩ := hv _ _ _ H
  obtain ⟨u, rfl⟩ := hw _ _ _ H
  exact PyProof.Rows.lt_int (q _ σ F s.heap s.toks k H)
end
end Mine
end

-- J8
section
open PySem PySem.W PyProof.Rows PySem.Calls
set_option maxRecDepth 100000
namespace Mine

/-- an address that nothing of the frame's speaks of -/
structure Free (fr : Fc) (F : PM) (σ : AS) (a : Addr) : Prop where
  off : F a = none
  loc : a ≠ fr.env.locals
  new : fr.s₀.heap.get? a = none
  cell : ∀ x d, fr.mc.lookup x = some d → a ≠ d
  own : ∀ x l ps, σ.own = some (x, l, ps) → a ≠ l
theorem Holds.stepBut {c : Cx} {fr : Fc} {F F' : PM} {σ : AS} {h h' : Heap} {a : Addr} (H : Holds c fr F σ h) (Z : Free fr F σ a) (hp : ∀ q ∈ fr.pin, q.1 ≠ a) (e : Heap.ExtBut a h h')
    (le : Le F F') (hs : Sub F' h') (hn : ∀ b x, F' b = some x → F b = some x ∨ h.get? b = none) : Holds c fr F' σ h' := by
  obtain ⟨m, cm, L⟩ := H.loc
  have off : ∀ {b : Addr} {o : Obj}, F b = none → h.get? b = some o → F' b = none := fun {b o} n l => by
    cases q : F' b with
    | none => rfl
    | some x =>
      rcases hn b x q with z | z
      · rw [n] at z; cases z
      · rw [l] at z; cases z
  refine ⟨H.base, H.kind, H.outer, H.le.trans le, hs, H.keep.more fun b _ o q q' => e b o (fun z => by rw [z, Z.new] at q; cases q) q', fun b o q => ?_,
    ⟨m, cm, ⟨L.ns.extBut e (Ne.symm Z.loc), ?_, L.fresh, fun y d z => ?_, L.apart, fun y p z => ?_, fun y l ps z => ?_, fun z hz => ?_, L.pinD⟩⟩, fun q hq => (H.tmp q hq).mono le⟩
  · rcases hn b o q with z | z
    · exact H.new b o z
    · exact .inr (H.keep.none z)
  · obtain ⟨oL, _, _, hL, _⟩ := L.ns
    exact off L.offL hL
  · obtain ⟨⟨o, b1, b2⟩, b3, b4, b5⟩ := L.cell y d z
    exact ⟨⟨o, e _ _ (Ne.symm (Z.cell y d z)) b1, b2⟩, b3, off b4 b1, b5⟩
  · obtain ⟨v, r, w⟩ := L.val y p z
    exact ⟨v, r.mono le, w⟩
  · obtain ⟨a1, a2, ⟨vs, nn, a3, a4⟩, a5, a6⟩ := L.own y l ps z
    exact ⟨a1, a2, ⟨vs, nn, e _ _ (Ne.symm (Z.own y l ps z)) a3, a4.mono le⟩, off a5 a3, a6⟩
  · obtain ⟨a1, a2, a3⟩ := L.pin z hz
    exact ⟨e _ _ (hp z hz) a1, off a2 a1, a3⟩
theorem Holds.extBut {c : Cx} {fr : Fc} {F : PM} {σ : AS} {h h' : Heap} {a : Addr} (H : Holds c fr F σ h) (Z : Free fr F σ a) (hp : ∀ q ∈ fr.pin, q.1 ≠ a) (e : Heap.ExtBut a h h') : Holds c fr F σ h' :=
  H.stepBut Z hp e (Le.refl _) (fun b o q => e b o (fun z => by rw [z, Z.off] at q; cases q) (H.sub b o q)) fun _ _ w => .inl w
abbrev Fc.at (fr : Fc) (F₁ : PM) (pin : List (Addr × Obj)) : Fc := ⟨fr.s₀, F₁, fr.env, fr.mc, pin, fr.stk⟩
theorem Holds.outerAt {c : Cx} {fr : Fc} {F : PM} {σ : AS} {h : Heap} (H : Holds c fr F σ h) : ∀ l, fr.stk = some l → StkL l F fr.s₀.heap ∧ fr.env.frame = some fr.env.locals := fun l e =>
  ⟨(H.outer l e).1.step (Kw.refl [] _) H.new, (H.outer l e).2⟩
theorem Holds.pinned {c : Cx} {fr : Fc} {F : PM} {σ : AS} {h : Heap} {a : Addr} {o : Obj} (H : Holds c fr F σ h) (Z : Free fr F σ a) (e : h.get? a = some o) (nd : fr.stk = none ∨ NoDict o) : Holds c (fr.at F ((a, o) :: fr.pin)) F σ h := by
  obtain ⟨m, cm, L⟩ := H.loc
  refine ⟨H.baseF, H.kind, H.outerAt, Le.refl _, H.sub, H.keep, fun b o q => .inl q, ⟨m, cm, ⟨L.ns, L.offL, L.fresh, L.cell, L.apart, L.val, L.own, fun z hz => ?_, fun z hz => ?_⟩⟩, H.tmp⟩
  · rcases List.mem_cons.mp hz with rfl | hz
    · exact ⟨e, Z.off, Z.loc, Z.new, Z.cell, Z.own⟩
    · exact L.pin z hz
  · rcases List.mem_cons.mp hz with rfl | hz
    · exact nd
    · exact L.pinD z hz
theorem Holds.unpinned {c : Cx} {fr : Fc} {F F' : PM} {σ σ' : AS} {h h' : Heap} {a : Addr} {o : Obj} (H : Holds c fr F σ h) (H' : Holds c (fr.at F ((a, o) :: fr.pin)) F' σ' h') : Holds c fr F' σ' h' ∧ Free fr F' σ' a ∧ h'.get? a = some o ∧ Le F F' := by
  obtain ⟨m, cm, L⟩ := H'.loc
  have z := L.pin (a, o) (.head _)
  refine ⟨⟨H.base, H.kind, H.outer, H.le.trans H'.le, H'.sub, H'.keep, fun b x q => ?_, ⟨m, cm, ⟨L.ns, L.offL, L.fresh, L.cell, L.apart, L.val, L.own, fun z hz => L.pin z (.tail _ hz), fun z hz => L.pinD z (.tail _ hz)⟩⟩, H'.tmp⟩, ⟨z.2.1, z.2.2.1, z.2.2.2.1, z.2.2.2.2.1, z.2.2.2.2.2⟩, z.1, H'.le⟩
  rcases H'.new b x q with w | w
  · exact H.new b x w
  · exact .inr w
/-- a new object at the end, not taken into the frozen part -/
theorem Holds.fresh {c : Cx} {fr : Fc} {F : PM} {σ : AS} {h : Heap} (H : Holds c fr F σ h) : Free fr F σ h.objs.size ∧ ∀ q ∈ fr.pin, q.1 ≠ h.objs.size := by
  obtain ⟨m, cm, L⟩ := H.loc
  have n := none_size h
  refine ⟨⟨H.sub.off n, fun e => absurd L.ns.lt (by rw [← e]; exact Nat.lt_irrefl _), H.keep.none n, fun x d z e => ?_, fun x l ps z e => ?_⟩, fun q hq e => ?_⟩
  · obtain ⟨⟨o, b1, _⟩, _⟩ := L.cell x d z
    rw [← e, n] at b1; cases b1
  · obtain ⟨_, _, ⟨vs, nn, a3, _⟩, _⟩ := L.own x l ps z
    rw [← e, n] at a3; cases a3
  · have := (L.pin q hq).1
    rw [e, n] at this; cases this

/-- an iterator: what object it is while it owes the list -/
structure Iter (c : Cx) (n : Nat) (it : Addr) (fz : PM → Prop) (P : List PV → Obj → Prop) : Prop where
  mono : ∀ F F', Le F F' → fz F → fz F'
  nd : ∀ ps o, P ps o → NoDict o
  item : ∀ p ps A F s o, Room n A → Base c F → Sub F s.heap → F it = none → fz F → s.heap.get? it = some o → P (p :: ps) o → ∀ Q : Option Value → Shared → Prop,
    (∀ v F' h' tk o', h'.get? it = some o' → P ps o' → Heap.ExtBut it s.heap h' → Le F F' → Sub F' h' → (∀ a x, F' a = some x → F a = some x ∨ s.heap.get? a = none) → Rep F' p v → Q (some v) { s with heap := h', toks := tk }) →
    wpAny c.M A (pyNext (.ref it)) Q (fun _ _ => False) s
  done : ∀ A F s o, Room n A → Base c F → Sub F s.heap → F it = none → fz F → s.heap.get? it = some o → P [] o → ∀ Q : Option Value → Shared → Prop,
    (∀ h' tk, Heap.ExtBut it s.heap h' → Q none { s with heap := h', toks := tk }) → wpAny c.M A (pyNext (.ref it)) Q (fun _ _ => False) s
  self : ∀ A s o ps, s.heap.get? it = some o → P ps o → ∀ Q : Value → Shared → Prop, Q (.ref it) s → wpAny c.M A (pyIter (.ref it)) Q (fun _ _ => False) s

theorem iter_tup (c : Cx) (n : Nat) (it a : Addr) (vs : List Value) (k : Nat) (xs : List PV) :
    Iter c n it (fun F => F a = some (tupObj vs k) ∧ Reps F xs vs) (fun ps o => ∃ i, ps = xs.drop i ∧ o.cls = .type "tuple_iterator" ∧ o.data = .fields #[.ref a, .int (i : Nat) 0]) where
  mono := fun F F' l h => ⟨l _ _ h.1, h.2.mono l⟩
  nd := fun ps o ⟨i, _, _, e⟩ es k z => by rw [e] at z; cases z
  item := fun p ps A F s o r hB hS hn hf ho hP Q q => by
    obtain ⟨i, e, hc, hd⟩ := hP
    have hx : xs[i]? = some p := by rw [← List.head?_drop, ← e]; rfl
    obtain ⟨v, hv, rv⟩ := hf.2.get hx
    refine next_tuple_item (i := i) ⟨o, ho, hc, hd⟩ (⟨_, hS _ _ hf.1, rfl, k, rfl⟩ : IsTup s.heap a vs.toArray) (x := v) (by simpa using hv) fun h' hit hs => ?_
    obtain ⟨o', h1, h2, h3⟩ := hit
    have hps : ps = xs.drop (i + 1) := by
      have : (p :: ps).tail = (xs.drop i).tail := by rw [e]
      simpa [List.tail_drop] using this
    exact q v F h' _ o' h1 ⟨i + 1, hps, h2, h3⟩ hs.extBut (Le.refl _) (fun b x w => (hs.2 b fun z => by rw [z, hn] at w; cases w).trans (hS b x w)) (fun _ _ w => .inl w) rv
  done := fun A F s o r hB hS hn hf ho hP Q q => by
    obtain ⟨i, e, hc, hd⟩ := hP
    refine next_tuple_end (i := i) r.2.2 ⟨o, ho, hc, hd⟩ (⟨_, hS _ _ hf.1, rfl, k, rfl⟩ : IsTup s.heap a vs.toArray) ?_ fun h' he => q h' _ he
    have : xs.length ≤ i := List.drop_eq_nil_iff.mp e.symm
    simp; rw [hf.2.length]; exact this
  self := fun A s o ps ho hP Q q => by
    obtain ⟨i, e, hc, hd⟩ := hP
    have hT : s.TypeIs (.ref it) "tuple_iterator" := ⟨o, ho, hc⟩
    exact wpAny_pyIter_slot hT PySem.F.slot_tuple_iterator_iter (wpAny_call_entry PySem.F.slot_tuple_iterator_iter hT PySem.F.entry_tuple_iterator_iter (wpAny_pure ⟨_, rfl, "tuple_iterator", _, hT, PySem.F.slot_tuple_iterator_next.lookup, q⟩) (PySem.F.args_tuple_iterator_iter_1 _))
theorem iter_lst (c : Cx) (n : Nat) (it a : Addr) (vs : List Value) (k : Nat) (xs : List PV) :
    Iter c n it (fun F => F a = some (lstObj vs k) ∧ Reps F xs vs) (fun ps o => ∃ i, ps = xs.drop i ∧ o.cls = .type "list_iterator" ∧ o.data = .fields #[.ref a, .int (i : Nat) 0]) where
  mono := fun F F' l h => ⟨l _ _ h.1, h.2.mono l⟩
  nd := fun ps o ⟨i, _, _, e⟩ es k z => by rw [e] at z; cases z
  item := fun p ps A F s o r hB hS hn hf ho hP Q q => by
    obtain ⟨i, e, hc, hd⟩ := hP
    have hx : xs[i]? = some p := by rw [← List.head?_drop, ← e]; rfl
    obtain ⟨v, hv, rv⟩ := hf.2.get hx
    refine wpAny_pyNext_list_item (i := i) ⟨o, ho, hc, hd⟩ (⟨_, hS _ _ hf.1, rfl, k, rfl⟩ : s.heap.IsList a vs.toArray) (x := v) (by simpa using hv) fun h' hit hs => ?_
    obtain ⟨o', h1, h2, h3⟩ := hit
    have hps : ps = xs.drop (i + 1) := by
      have : (p :: ps).tail = (xs.drop i).tail := by rw [e]
      simpa [List.tail_drop] using this
    exact q v F h' _ o' h1 ⟨i + 1, hps, h2, h3⟩ hs.extBut (Le.refl _) (fun b x w => (hs.2 b fun z => by rw [z, hn] at w; cases w).trans (hS b x w)) (fun _ _ w => .inl w) rv
  done := fun A F s o r hB hS hn hf ho hP Q q => by
    obtain ⟨i, e, hc, hd⟩ := hP
    refine wpAny_pyNext_list_end (i := i) r.2.2 ⟨o, ho, hc, hd⟩ (⟨_, hS _ _ hf.1, rfl, k, rfl⟩ : s.heap.IsList a vs.toArray) ?_ fun h' he => q h' _ he
    have : xs.length ≤ i := List.drop_eq_nil_iff.mp e.symm
    simp; rw [hf.2.length]; exact this
  self := fun A s o ps ho hP Q q => by
    obtain ⟨i, e, hc, hd⟩ := hP
    exact wpAny_pyIter_listiter (it := it) (l := a) (i := i) ⟨o, ho, hc, hd⟩ q

/-- what may be walked -/
def IterOf (c : Cx) (n : Nat) (fr : Fc) (σ : AS) (x : Value) (xs : List PV) : Prop :=
  ∀ A, Rm n fr.env fr.stk A → ∀ F s, Holds c fr F σ s.heap → ∀ Q : Value → Shared → Prop,
    (∀ it F' h' tk fz P o, Iter c n it fz P → Holds c fr F' σ h' → h'.get? it = some o → P xs o → fz F' → Free fr F' σ it → (∀ q ∈ fr.pin, q.1 ≠ it) → Q (.ref it) { s with heap := h', toks := tk }) → wpAny c.M A (pyIter x) Q (fun _ _ => False) s
theorem iterOf_tup {c : Cx} {n : Nat} {fr : Fc} {σ : AS} {x : Value} {xs : List PV} (hx : Has c σ x (.tup xs)) : IterOf c n fr σ x xs := fun A r F s H Q q => by
  obtain ⟨a, vs, k, rfl, ha, hr⟩ := hx _ _ _ H
  obtain ⟨Z, hp⟩ := H.fresh
  refine iter_tuple (⟨_, H.sub _ _ ha, rfl, k, rfl⟩ : IsTup s.heap a vs.toArray) ?_
  exact q s.heap.objs.size F _ _ _ _ _ (iter_tup c n s.heap.objs.size a vs k xs) (H.step (Kp.push _ _) (Ext.keep H.sub (Kp.push _ _))) (Heap.get?_push_size _ rfl) ⟨0, rfl, rfl, rfl⟩ ⟨ha, hr⟩ Z hp
theorem iterOf_lst {c : Cx} {n : Nat} {fr : Fc} {σ : AS} {x : Value} {xs : List PV} (hx : Has c σ x (.lst xs)) : IterOf c n fr σ x xs := fun A r F s H Q q => by
  obtain ⟨a, vs, k, rfl, ha, hr⟩ := hx _ _ _ H
  obtain ⟨Z, hp⟩ := H.fresh
  refine wpAny_pyIter_list (⟨_, H.sub _ _ ha, rfl, k, rfl⟩ : s.heap.IsList a vs.toArray) ?_
  exact q s.heap.objs.size F _ _ _ _ _ (iter_lst c n s.heap.objs.size a vs k xs) (H.step (Kp.push _ _) (Ext.keep H.sub (Kp.push _ _))) (Heap.get?_push_size _ rfl) ⟨0, rfl, rfl, rfl⟩ ⟨ha, hr⟩ Z hp

/-- a for's turns -/
def ForJ (c : Cx) (n : Nat) (fr : Fc) (target : Expr) (body orelse : List Stmt) (Φ : Flow → AS → Prop) : List PV → AS → Prop
  | [], σ => J c n fr σ (execs orelse fr.env) Φ
  | p :: ps, σ => ∀ v F₁ pin, J c n (fr.at F₁ pin) (σ.push v p) (assign target fr.env v) fun _ σ₁ => J c n (fr.at F₁ pin) σ₁ (execs body fr.env) fun fl σ₂ => match fl with
    | .next | .cont => ForJ c n fr target body orelse Φ ps σ₂
    | .brk => Φ .next σ₂
    | .ret w => Φ (.ret w) σ₂
theorem J_forLoop {c : Cx} {n : Nat} {fr : Fc} {target : Expr} {body orelse : List Stmt} {it : Addr} {fz : PM → Prop} {P : List PV → Obj → Prop} (I : Iter c n it fz P) {Φ : Flow → AS → Prop} {A : Around} (r : Rm n fr.env fr.stk A) {F : PM} {σ : AS} {s : Shared} {o : Obj} {xs : List PV}
    (H : Holds c fr F σ s.heap) (ho : s.heap.get? it = some o) (hP : P xs o) (hf : fz F) (Z : Free fr F σ it) (hp : ∀ q ∈ fr.pin, q.1 ≠ it) (hJ : ForJ c n fr target body orelse Φ xs σ) (ht : ∀ v, letOwnedTupleGo target (.ref it) v = pure ())
    {Q : Flow → Shared → Prop} (q : ∀ fl σ' F' h' tk, Φ fl σ' → Holds c fr F' σ' h' → Q fl { s with heap := h', toks := tk }) :
    codeAny c.M A (.forLoop target (.ref it) body orelse fr.env) (fun r s' => match r with | .ok f => Q f s' | .error _ => False) s := by
  refine codeAny_forLoop (fun k s' => ∃ xs σ F h tk o, k = xs.length ∧ s' = { s with heap := h, toks := tk } ∧ Holds c fr F σ h ∧ h.get? it = some o ∧ P xs o ∧ fz F ∧ Free fr F σ it ∧ ForJ c n fr target body orelse Φ xs σ) ?_ xs.length ⟨xs, σ, F, s.heap, s.toks, o, rfl, rfl, H, ho, hP, hf, Z, hJ⟩ ht
  rintro k s' ⟨xs, σ, F, h, tk, o, rfl, rfl, H, ho, hP, hf, Z, hJ⟩
  cases xs with
  | nil =>
    refine wpAny_mono (I.done A F { s with heap := h, toks := tk } o r.1 H.baseF H.sub Z.off hf ho hP _ fun h' tk' he => ?_) (fun _ _ x => x) fun _ _ x => x.elim
    have H' := H.extBut Z hp he
    exact wpAny_mono (hJ A r F { s with heap := h', toks := tk' } H' Q fun fl σ' F' h'' tk'' z H'' => q fl σ' F' h'' tk'' z H'') (fun _ _ x => x) fun _ _ x => x.elim
  | cons p ps =>
    refine wpAny_mono (I.item p ps A F { s with heap := h, toks := tk } o r.1 H.baseF H.sub Z.off hf ho hP _ fun v F' h' tk' o' ho' hP' he le hs hn rv => ?_) (fun _ _ x => x) fun _ _ x => x.elim
    have hFit : F' it = none := by
      cases w : F' it with
      | none => rfl
      | some x =>
        rcases hn it x w with y | y
        · rw [Z.off] at y; cases y
        · rw [ho] at y; cases y
    have H₂ := (H.stepBut Z hp he le hs hn).push rv
    have Z₂ : Free fr F' (σ.push v p) it := ⟨hFit, Z.loc, Z.new, Z.cell, Z.own⟩
    have H₃ := H₂.pinned Z₂ ho' (.inr (I.nd _ _ hP'))
    refine wpAny_mono (hJ v F' ((it, o') :: fr.pin) A r F' { s with heap := h', toks := tk' } H₃ _ fun u σ₁ F₁ h₁ tk₁ z₁ H₄ => ?_) (fun _ _ x => x) fun _ _ x => x.elim
    refine wpAny_mono (z₁ A r F₁ { s with heap := h₁, toks := tk₁ } H₄ _ fun fl σ₂ F₂ h₂ tk₂ z₂ H₅ => ?_) (fun _ _ x => x) fun _ _ x => x.elim
    obtain ⟨H₆, Z₆, ho₆, le₆⟩ := H₂.unpinned H₅
    have go : ForJ c n fr target body orelse Φ ps σ₂ → ∃ m, m < (p :: ps).length ∧ ∃ xs σ F h tk o, m = xs.length ∧ ({ s with heap := h₂, toks := tk₂ } : Shared) = { s with heap := h, toks := tk } ∧ Holds c fr F σ h ∧ h.get? it = some o ∧ P xs o ∧ fz F ∧ Free fr F σ it ∧ ForJ c n fr target body orelse Φ xs σ := fun z =>
      ⟨ps.length, Nat.lt_succ_self _, ps, σ₂, F₂, h₂, tk₂, o', rfl, rfl, H₆, ho₆, hP', I.mono _ _ (le.trans le₆) hf, Z₆, z⟩
    cases fl with
    | next => exact go z₂
    | cont => exact go z₂
    | brk => exact q _ σ₂ F₂ h₂ tk₂ z₂ H₆
    | ret w => exact q _ σ₂ F₂ h₂ tk₂ z₂ H₆
theorem J_for {c : Cx} {n : Nat} {fr : Fc} {σ : AS} {target iter : Expr} {body orelse : List Stmt} {pos : Pos} {Φ : Flow → AS → Prop} (h : J c n fr σ (eval iter fr.env) fun x σ' => ∃ xs, IterOf c n fr σ' x xs ∧ ForJ c n fr target body orelse Φ xs σ')
    (ht : ∀ it v, letOwnedTupleGo target it v = pure () := by intro _ _; rfl) (hs : ∀ x, foldedSetIterable iter fr.env x = pure x := by intro _; rfl) : J c n fr σ (exec (.For target iter body orelse pos) fr.env) Φ := fun A r F s H Q q => by
  refine wpAny_For (h A r F s H _ fun x σ' F' h' tk z H' => ?_) hs
  obtain ⟨xs, hi, hJ⟩ := z
  refine hi A r F' { s with heap := h', toks := tk } H' _ fun it F'' h'' tk' fz P o I H'' ho hP hf Z hp => ?_
  refine codeAny_mono (J_forLoop (s := { s with heap := h'', toks := tk' }) I r H'' ho hP hf Z hp hJ (ht _) (Q := Q) fun fl σ' F' h' tk z H' => q fl σ' F' h' tk z H') fun r s' z => ?_
  cases r with
  | ok f => exact z
  | error e => exact z.elim
end Mine
end

-- J9
section
open PySem PySem.W PyProof.Rows PySem.Calls
set_option maxRecDepth 100000
namespace Mine

/-- the tests of a comprehension -/
abbrev compOk (ifs : List Expr) (env : Env) : Sem Bool := forIn ifs true fun c r => if r = true then do let ok ← isTrue c env (eval c env); pure (ForInStep.yield ok) else pure (ForInStep.yield r)
section
variable {c : Cx} {n : Nat} {fr : Fc} {σ : AS} {env : Env}
theorem J_ok0 {Φ : Bool → AS → Prop} (h : Φ true σ) : J c n fr σ (compOk [] env) Φ := J_pure h
theorem J_ok1 {t : Expr} {Φ : Bool → AS → Prop} (h : J c n fr σ (isTrue t env (eval t env)) Φ) : J c n fr σ (compOk [t] env) Φ :=
  J_one (fun A s Q q => wpAny_tests_one q) h
end

/-- the frame of a comprehension -/
abbrev cfr (fr : Fc) (scope : Scope) (cl : List (Str × Addr)) (s₁ : Shared) (F₁ : PM) (C : Addr) (pin : List (Addr × Obj)) : Fc := ⟨s₁, F₁, compEnvC scope cl C fr.env, [], pin, none⟩

/-- the list that is built meanwhile -/
structure Built (F : PM) (h : Heap) (D : Addr) (qs : List PV) : Prop where
  obj : ∃ ys k, h.get? D = some (lstObj ys k) ∧ Reps F qs ys
  off : F D = none

theorem comp_loop {c : Cx} {n : Nat} {fr : Fc} {scope : Scope} {cl : List (Str × Addr)} {target elt iter : Expr} {ifs : List Expr} {pos : Pos} {it C D : Addr} {fz : PM → Prop} {P : List PV → Obj → Prop} (I : Iter c n it fz P) {g : PV → Option PV} {ρ₂ : List (Str × PV)}
    {A : Around} (r : Room n A) {F : PM} {s : Shared} {s₁ : Shared} {o : Obj} {xs : List PV} {κ : List (Value × PV)}
    (hB : Base c F) (hk : scope.kind = .function)
    (hS : Sub F s.heap) (hs₁ : Kp s₁.heap s.heap)
    (ho : s.heap.get? it = some o) (hP : P xs o) (hf : fz F) (hNs : ∃ m, s.heap.Ns C m) (hD : Built F s.heap D [])
    (nit : s₁.heap.get? it = none) (nC : s₁.heap.get? C = none) (nD : s₁.heap.get? D = none) (oit : F it = none) (oC : F C = none) (hCi : C ≠ it) (hCD : C ≠ D) (hDi : D ≠ it)
    (hκ : ∀ q ∈ κ, Rep F q.2 q.1)
    (hρ : ∀ q ∈ ρ₂, (Env.kindOf (compEnvC scope cl C fr.env) q.1 = some .cell ∨ Env.kindOf (compEnvC scope cl C fr.env) q.1 = some .free) ∧ ∃ v d, Rep F q.2 v ∧ cl.lookup q.1 = some d ∧ s₁.heap.IsCell d (some v))
    (hel : ∀ p ∈ xs, ∀ F₁ pin v, J c n (cfr fr scope cl s₁ F₁ C pin) ⟨ρ₂, none, (v, p) :: κ⟩ (assign target (compEnvC scope cl C fr.env) v) fun _ σ₁ => J c n (cfr fr scope cl s₁ F₁ C pin) σ₁ (compOk ifs (compEnvC scope cl C fr.env)) fun ok σ₂ =>
      if ok then ∃ q, g p = some q ∧ J c n (cfr fr scope cl s₁ F₁ C pin) σ₂ (eval elt (compEnvC scope cl C fr.env)) fun w σ₃ => Has c σ₃ w q else g p = none)
    (hsz : xs.length ≤ 1000000) (ht : ∀ v, letOwnedTupleGo target (.ref it) v = pure ()) {R : Result → Shared → Prop}
    (q : ∀ F' h' tk, Le F F' → Sub F' h' → Kp s₁.heap h' → (∀ a x, F' a = some x → F a = some x ∨ s₁.heap.get? a = none) → F' C = none → (∃ m, h'.Ns C m) → Built F' h' D (xs.filterMap g) → R (.ok .next) { s with heap := h', toks := tk }) :
    codeAny c.M A (.compLoop (.ListComp elt [⟨target, iter, ifs, 0⟩] scope pos) 0 (.ref it) (.ref D) (compEnvC scope cl C fr.env)) R s := by
  refine codeAny_compLoop_tests (fun k s' => ∃ ps dn F' h tk o m, xs = dn ++ ps ∧ k = ps.length + 1 ∧ s' = { s with heap := h, toks := tk } ∧ Le F F' ∧ Sub F' h ∧ Kp s₁.heap h ∧ (∀ a x, F' a = some x → F a = some x ∨ s₁.heap.get? a = none) ∧
      h.get? it = some o ∧ P ps o ∧ F' it = none ∧ F' C = none ∧ h.Ns C m ∧ Built F' h D (dn.filterMap g)) ?_ (xs.length + 1)
    (by obtain ⟨m, hm⟩ := hNs; exact ⟨xs, [], F, s.heap, s.toks, o, m, rfl, rfl, rfl, Le.refl _, hS, hs₁, fun _ _ w => .inl w, ho, hP, oit, oC, hm, hD⟩) ht
  rintro k s' ⟨ps, dn, F', h, tk, o, m, rfl, rfl, rfl, le, hS', hs', hn', ho, hP, oit', oC', hm, hD'⟩
  obtain ⟨⟨ys, kk, hDo, hDr⟩, hDoff⟩ := hD'
  have hB' := hB.mono le
  cases ps with
  | nil =>
    refine wpAny_mono (I.done A F' { s with heap := h, toks := tk } o r hB' hS' oit' (I.mono _ _ le hf) ho hP _ fun h' tk' he => ?_) (fun _ _ x => x) fun _ _ x => x.elim
    have ne : ∀ a x, F' a = some x → a ≠ it := fun a x w z => by rw [z, oit'] at w; cases w
    refine q F' h' tk' le (fun a x w => he a x (ne a x w) (hS' a x w)) (fun a x w => he a x (fun z => by rw [z, nit] at w; cases w) (hs' a x w)) hn' oC' ⟨m, hm.extBut he hCi⟩ ⟨⟨ys, kk, he D _ hDi hDo, by rw [List.append_nil]; exact hDr⟩, hDoff⟩
  | cons p ps =>
    refine wpAny_mono (I.item p ps A F' { s with heap := h, toks := tk } o r hB' hS' oit' (I.mono _ _ le hf) ho hP _ fun v F₁ h₁ tk₁ o₁ ho₁ hP₁ he le₁ hS₁ hn₁ rv => ?_) (fun _ _ x => x) fun _ _ x => x.elim
    have off : ∀ {b : Addr} {x : Obj}, F' b = none → h.get? b = some x → F₁ b = none := fun {b x} n l => by
      cases w : F₁ b with
      | none => rfl
      | some y =>
        rcases hn₁ b y w with z | z
        · rw [n] at z; cases z
        · rw [l] at z; cases z
    have hs₁' : Kp s₁.heap h₁ := fun a x w => he a x (fun z => by rw [z, nit] at w; cases w) (hs' a x w)
    have hn₁' : ∀ a x, F₁ a = some x → F a = some x ∨ s₁.heap.get? a = none := fun a x w => by
      rcases hn₁ a x w with z | z
      · exact hn' a x z
      · exact .inr (hs'.none z)
    have hm₁ := hm.extBut he hCi
    have hD₁ : h₁.get? D = some (lstObj ys kk) := he D _ hDi hDo
    have oD₁ := off hDoff hDo
    have oit₁ := off oit' ho
    have oC₁ : F₁ C = none := by obtain ⟨oo, _, _, hh, _⟩ := hm; exact off oC' hh
    have H : Holds c (cfr fr scope cl s₁ F₁ C [(it, o₁), (D, lstObj ys kk)]) F₁ ⟨ρ₂, none, (v, p) :: κ⟩ h₁ := by
      refine ⟨hB'.mono le₁, hk, nofun, Le.refl _, hS₁, hs₁', fun a x w => .inl w, ⟨m, fun _ => none, ⟨hm₁, oC₁, nC, fun _ _ z => (by cases z), fun _ _ _ z => (by cases z), fun y p' z => ?_, fun _ _ _ z => (by cases z), fun z hz => ?_, fun _ _ => .inl rfl⟩⟩, fun z hz => ?_⟩
      · obtain ⟨z1, v', d, z2, z3, z4⟩ := hρ (y, p') (by
          have : ∀ l : List (Str × PV), l.lookup y = some p' → (y, p') ∈ l := fun l e => PySem.mem_of_lookup e
          exact this _ z)
        exact ⟨v', z2.mono (le.trans le₁), .inr (.inr ⟨z1, d, z3, z4⟩)⟩
      · rcases List.mem_cons.mp hz with rfl | hz
        · exact ⟨ho₁, oit₁, Ne.symm hCi, nit, fun _ _ z => (by cases z), fun _ _ _ z => (by cases z)⟩
        · rcases List.mem_cons.mp hz with rfl | hz
          · exact ⟨hD₁, oD₁, Ne.symm hCD, nD, fun _ _ z => (by cases z), fun _ _ _ z => (by cases z)⟩
          · cases hz
      · rcases List.mem_cons.mp hz with rfl | hz
        · exact rv
        · exact (hκ z hz).mono (le.trans le₁)
    have mp : p ∈ dn ++ p :: ps := List.mem_append.mpr (.inr (.head _))
    refine wpAny_mono (hel p mp F₁ _ v A (Rm.strong r) F₁ { s with heap := h₁, toks := tk₁ } H _ fun u σ₁ F₂ h₂ tk₂ z₁ H₂ => ?_) (fun _ _ x => x) fun _ _ x => x.elim
    refine wpAny_mono (z₁ A (Rm.strong r) F₂ { s with heap := h₂, toks := tk₂ } H₂ _ fun ok σ₂ F₃ h₃ tk₃ z₂ H₃ => ?_) (fun _ _ x => x) fun _ _ x => x.elim
    have fin : ∀ {F₄ : PM} {h₄ : Heap} {σ₄ : AS}, Holds c (cfr fr scope cl s₁ F₁ C [(it, o₁), (D, lstObj ys kk)]) F₄ σ₄ h₄ → Le F F₄ ∧ Sub F₄ h₄ ∧ Kp s₁.heap h₄ ∧ (∀ a x, F₄ a = some x → F a = some x ∨ s₁.heap.get? a = none) ∧ h₄.get? it = some o₁ ∧ F₄ it = none ∧ F₄ C = none ∧ (∃ m, h₄.Ns C m) ∧ h₄.get? D = some (lstObj ys kk) ∧ F₄ D = none ∧ Le F' F₄ := fun {F₄ h₄ σ₄} H₄ => by
      obtain ⟨m₄, cm₄, L₄⟩ := H₄.loc
      have p1 := L₄.pin (it, o₁) (.head _)
      have p2 := L₄.pin (D, lstObj ys kk) (.tail _ (.head _))
      refine ⟨(le.trans le₁).trans H₄.le, H₄.sub, H₄.keep, fun a x w => ?_, p1.1, p1.2.1, L₄.offL, ⟨m₄, L₄.ns⟩, p2.1, p2.2.1, le₁.trans H₄.le⟩
      rcases H₄.new a x w with y | y
      · exact hn₁' a x y
      · exact .inr y
    cases ok with
    | false =>
      simp only [Bool.false_eq_true, if_false] at z₂ ⊢
      obtain ⟨f1, f2, f3, f4, f5, f6, f7, ⟨m₄, f8⟩, f9, f10, f11⟩ := fin H₃
      refine ⟨ps.length + 1, by simp, ps, dn ++ [p], F₃, h₃, tk₃, o₁, m₄, by simp, rfl, rfl, f1, f2, f3, f4, f5, hP₁, f6, f7, f8, ⟨⟨ys, kk, f9, ?_⟩, f10⟩⟩
      rw [List.filterMap_append, List.filterMap_cons_none z₂, List.filterMap_nil, List.append_nil]
      exact hDr.mono f11
    | true =>
      simp only [if_true] at z₂ ⊢
      obtain ⟨qv, gq, z₂⟩ := z₂
      refine wpAny_mono (z₂ A (Rm.strong r) F₃ { s with heap := h₃, toks := tk₃ } H₃ _ fun w σ₃ F₄ h₄ tk₄ z₃ H₄ => ?_) (fun _ _ x => x) fun _ _ x => x.elim
      obtain ⟨f1, f2, f3, f4, f5, f6, f7, ⟨m₄, f8⟩, f9, f10, f11⟩ := fin H₄
      have rw' := z₃ _ _ _ H₄
      have hl : ys.length ≤ 1000000 := by
        have := hDr.length
        have h2 := List.length_filterMap_le g dn
        simp only [List.length_append, List.length_cons] at hsz
        omega
      refine wpAny_list_append_plain (s := { s with heap := h₄, toks := tk₄ }) (l := D) (items := ys.toArray) ⟨kk, f9⟩ (fun h₅ hl₅ hs₅ => ?_) (by rw [List.size_toArray, sizeLine_is]; omega)
      obtain ⟨k₅, ho₅⟩ := hl₅
      have ne : ∀ a x, F₄ a = some x → a ≠ D := fun a x w z => by rw [z, f10] at w; cases w
      refine ⟨ps.length + 1, by simp, ps, dn ++ [p], F₄, h₅, tk₄, o₁, m₄, by simp, rfl, rfl, f1, fun a x w => (hs₅.2 a (ne a x w)).trans (f2 a x w), fun a x w => (hs₅.2 a fun z => by rw [z, nD] at w; cases w).trans (f3 a x w), f4,
        (hs₅.2 it (Ne.symm hDi)).trans f5, hP₁, f6, f7, f8.sameBut hs₅ hCD, ⟨⟨ys ++ [w], k₅, by rw [ho₅]; simp [lstObj], ?_⟩, f10⟩⟩
      rw [List.filterMap_append, List.filterMap_cons_some gq, List.filterMap_nil]
      exact Reps.append (hDr.mono f11) (Reps.cons rw' Reps.nil)
end Mine
end

-- C1
section
open PySem PySem.W PyProof.Rows PySem.Calls
set_option maxRecDepth 100000
namespace Mine
theorem isi_bool (w : World) (f : Fm) : kitOne (KK w) (.ref (clsOf f)) (.ref 89) = some true := by
  cases f with
  | sym i => kernel_rfl
  | node k as => cases k <;> kernel_rfl
theorem ct_eq (c : Cx) (f g : Fm) : CT c 5 (.ref 65) [.fm f, .fm g] [] (.bool ((text f).cps.toList == (text g).cps.toList)) := by
  refine CT_def (n := 4) (f := 65) (by rfl) rfl rfl (by rfl) (bind2 (fun a b => by rfl)) (by decide) (kindsN (by rfl)) ?_
  intro s₀ F₀ L
  refine J_execs_cons (J_return (J_BoolOp ?_))
  refine J_boolOpAnd ?_
  refine J_CallName (J_builtin (v := .builtin "isinstance") (by kernel_rfl) (by rfl) (by decide) ?_ (by rfl))
  refine J_callImm (J_evalArgs ?_)
  refine J_spliced ?_
  refine J_name (by rfl) fun v1 => ?_
  refine J_spliced ?_
  refine J_glob (v := .ref 89) (by kernel_rfl) ?_ (by rfl)
  refine J_spliced_nil ?_
  refine J_isiF (Has.mem (.head _)) (isi_bool c.w g) ?_
  refine J_truthyB ?_
  refine J_boolOp1 ?_
  refine J_Compare ?_
  refine J_Attribute (J_name (by rfl) fun v2 => J_text (Has.mem (.head _)) fun v3 => ?_)
  refine J_Attribute (J_name (by rfl) fun v4 => J_text (Has.mem (.head _)) fun v5 => ?_)
  refine J_eqStr (Has.mem (.tail _ (.tail _ (.head _)))) (Has.mem (.head _)) ?_
  exact Has.bool
end Mine
end

-- T0
section
open PySem PySem.W PyProof.Rows PySem.Calls
namespace Mine

/-- lexicographic -/
def lex : List Nat → List Nat → Ordering
  | [], [] => .eq
  | [], _ :: _ => .lt
  | _ :: _, [] => .gt
  | a :: x, b :: y => (compare a b).then (lex x y)
def rank : Kd → Nat
  | .and => 0 | .eqv => 1 | .imp => 2 | .not => 3 | .or => 4 | .xor => 5
mutual
def Fm.cmp : Fm → Fm → Ordering
  | .sym i, .sym j => compare i.val j.val
  | .sym _, .node _ _ => .gt
  | .node _ _, .sym _ => .lt
  | .node k as, .node l bs => (compare (rank k) (rank l)).then (Fm.cmps as bs)
def Fm.cmps : List Fm → List Fm → Ordering
  | [], [] => .eq
  | [], _ :: _ => .lt
  | _ :: _, [] => .gt
  | a :: as, b :: bs => (Fm.cmp a b).then (Fm.cmps as bs)
end
abbrev T (f : Fm) : List Nat := (text f).cps.toList
abbrev JT (fs : List Fm) : List Nat := (joinT (texts fs)).cps.toList
theorem cps_append (a b : Str) : (a ++ b).cps.toList = a.cps.toList ++ b.cps.toList := by
  show (a.cps ++ b.cps).toList = _
  exact Array.toList_append
theorem JT_nil : JT [] = [] := by rfl
theorem JT_one (f : Fm) : JT [f] = T f := by
  unfold JT texts texts joinT; rfl
theorem JT_cons (f g : Fm) (r : List Fm) : JT (f :: g :: r) = T f ++ 44 :: 32 :: JT (g :: r) := by
  unfold JT
  rw [texts, texts, joinT, ← texts, cps_append, cps_append, List.append_assoc]
  rfl
theorem T_node (k : Kd) (as : List Fm) : T (.node k as) = (label k).cps.toList ++ 40 :: (JT as ++ [41]) := by
  unfold T
  rw [text, cps_append, cps_append, cps_append, List.append_assoc, List.append_assoc]
  rfl
theorem T_head (f : Fm) : ∃ a r, T f = a :: r ∧ 44 < a := by
  cases f with
  | sym i => unfold T text; match i with
    | 0 => exact ⟨97, [], rfl, by decide⟩
    | 1 => exact ⟨98, [], rfl, by decide⟩
    | 2 => exact ⟨99, [], rfl, by decide⟩
  | node k as =>
    rw [T_node]
    cases k
    · exact ⟨65, _, rfl, by decide⟩
    · exact ⟨79, _, rfl, by decide⟩
    · exact ⟨78, _, rfl, by decide⟩
    · exact ⟨88, _, rfl, by decide⟩
    · exact ⟨73, _, rfl, by decide⟩
    · exact ⟨69, _, rfl, by decide⟩
theorem lex_pre : ∀ p x y : List Nat, lex (p ++ x) (p ++ y) = lex x y
  | [], _, _ => rfl
  | a :: p, x, y => by
    show (compare a a).then (lex (p ++ x) (p ++ y)) = _
    rw [lex_pre p x y, show compare a a = .eq from Nat.compare_eq_eq.mpr rfl]; rfl
theorem lex_lt {a b : Nat} {x y : List Nat} (h : compare a b = .lt) : lex (a :: x) (b :: y) = .lt := by
  show (compare a b).then _ = _
  rw [h]; rfl
theorem lex_gt {a b : Nat} {x y : List Nat} (h : compare a b = .gt) : lex (a :: x) (b :: y) = .gt := by
  show (compare a b).then _ = _
  rw [h]; rfl
theorem label_lex : ∀ (k l : Kd) (x y : List Nat), k ≠ l → lex ((label k).cps.toList ++ x) ((label l).cps.toList ++ y) = compare (rank k) (rank l) := by
  intro k l x y h
  cases k <;> cases l <;> first | exact absurd rfl h | rfl
theorem sym_lex (i j : Fin 3) (x y : List Nat) : lex (T (.sym i) ++ x) (T (.sym j) ++ y) = (compare i.val j.val).then (lex x y) := by
  unfold T text
  match i, j with
  | 0, 0 => rfl
  | 0, 1 => rfl
  | 0, 2 => rfl
  | 1, 0 => rfl
  | 1, 1 => rfl
  | 1, 2 => rfl
  | 2, 0 => rfl
  | 2, 1 => rfl
  | 2, 2 => rfl
theorem symnode_lex (i : Fin 3) (k : Kd) (as : List Fm) (x y : List Nat) : lex (T (.sym i) ++ x) (T (.node k as) ++ y) = .gt ∧ lex (T (.node k as) ++ y) (T (.sym i) ++ x) = .lt := by
  rw [T_node]
  unfold T text
  match i with
  | 0 => cases k <;> exact ⟨rfl, rfl⟩
  | 1 => cases k <;> exact ⟨rfl, rfl⟩
  | 2 => cases k <;> exact ⟨rfl, rfl⟩
theorem then_assoc' (a b c : Ordering) : (a.then b).then c = a.then (b.then c) := by cases a <;> rfl
mutual
theorem T_lex : ∀ (f g : Fm) (x y : List Nat), lex (T f ++ x) (T g ++ y) = (Fm.cmp f g).then (lex x y)
  | .sym i, .sym j, x, y => by rw [sym_lex]; rw [Fm.cmp]
  | .sym i, .node k as, x, y => by rw [(symnode_lex i k as x y).1]; rw [Fm.cmp]; rfl
  | .node k as, .sym i, x, y => by rw [(symnode_lex i k as y x).2]; rw [Fm.cmp]; rfl
  | .node k as, .node l bs, x, y => by
    rw [Fm.cmp, T_node, T_node]
    by_cases h : k = l
    · subst h
      rw [show compare (rank k) (rank k) = .eq from by simp [Nat.compare_eq_eq]]
      rw [List.append_assoc, List.append_assoc, lex_pre]
      show lex (40 :: ((JT as ++ [41]) ++ x)) (40 :: ((JT bs ++ [41]) ++ y)) = _
      show (compare 40 40).then (lex ((JT as ++ [41]) ++ x) ((JT bs ++ [41]) ++ y)) = _
      rw [List.append_assoc, List.append_assoc]
      exact JT_lex as bs x y
    · rw [List.append_assoc, List.append_assoc, label_lex k l _ _ h, then_assoc']
      cases k <;> cases l <;> first | exact absurd rfl h | rfl
theorem JT_lex : ∀ (fs gs : List Fm) (x y : List Nat), lex (JT fs ++ 41 :: x) (JT gs ++ 41 :: y) = (Fm.cmps fs gs).then (lex x y)
  | [], [], x, y => by rw [Fm.cmps]; rfl
  | [], g :: gs, x, y => by
    rw [Fm.cmps]
    obtain ⟨a, r, e, h⟩ := T_head g
    have : ∃ r', JT (g :: gs) = a :: r' := by
      cases gs with
      | nil => rw [JT_one, e]; exact ⟨r, rfl⟩
      | cons g' gs => rw [JT_cons, e]; exact ⟨_, rfl⟩
    obtain ⟨r', e'⟩ := this
    rw [e', JT_nil]
    exact lex_lt (by rw [Nat.compare_eq_lt]; omega)
  | f :: fs, [], x, y => by
    rw [Fm.cmps]
    obtain ⟨a, r, e, h⟩ := T_head f
    have : ∃ r', JT (f :: fs) = a :: r' := by
      cases fs with
      | nil => rw [JT_one, e]; exact ⟨r, rfl⟩
      | cons g' gs => rw [JT_cons, e]; exact ⟨_, rfl⟩
    obtain ⟨r', e'⟩ := this
    rw [e', JT_nil]
    exact lex_gt (by rw [Nat.compare_eq_gt]; omega)
  | [f], [g], x, y => by
    rw [Fm.cmps, JT_one, JT_one, T_lex f g]
    show _ = ((Fm.cmp f g).then (Fm.cmps [] [])).then _
    rw [then_assoc', Fm.cmps]; rfl
  | [f], g :: g' :: gs, x, y => by
    rw [Fm.cmps, JT_one, JT_cons, List.append_assoc, T_lex f g, then_assoc', Fm.cmps]; rfl
  | f :: f' :: fs, [g], x, y => by
    rw [Fm.cmps, JT_one, JT_cons, List.append_assoc, T_lex f g, then_assoc', Fm.cmps]; rfl
  | f :: f' :: fs, g :: g' :: gs, x, y => by
    rw [Fm.cmps, JT_cons, JT_cons, List.append_assoc, List.append_assoc, T_lex f g, then_assoc']
    show _ = (Fm.cmp f g).then _
    rw [← JT_lex (f' :: fs) (g' :: gs) x y]
    rfl
end
theorem lex_eq : ∀ {x y : List Nat}, lex x y = .eq → x = y
  | [], [], _ => rfl
  | [], _ :: _, h => by cases h
  | _ :: _, [], h => by cases h
  | a :: x, b :: y, h => by
    have h' : (compare a b).then (lex x y) = .eq := h
    cases q : compare a b with
    | eq =>
      rw [q] at h'
      rw [Nat.compare_eq_eq.mp q, lex_eq h']
    | lt => rw [q] at h'; cases h'
    | gt => rw [q] at h'; cases h'
theorem lex_self : ∀ x : List Nat, lex x x = .eq
  | [] => rfl
  | a :: x => by
    show (compare a a).then _ = _
    rw [lex_self x]; simp [Nat.compare_eq_eq]
theorem T_cmp (f g : Fm) : lex (T f) (T g) = Fm.cmp f g := by
  have := T_lex f g [] []
  rw [List.append_nil, List.append_nil] at this
  rw [this]
  cases Fm.cmp f g <;> rfl
mutual
theorem cmp_eq : ∀ {f g : Fm}, Fm.cmp f g = .eq → f = g
  | .sym i, .sym j, h => by
    rw [Fm.cmp] at h
    rw [Fin.ext (Nat.compare_eq_eq.mp h)]
  | .sym i, .node k as, h => by rw [Fm.cmp] at h; cases h
  | .node k as, .sym i, h => by rw [Fm.cmp] at h; cases h
  | .node k as, .node l bs, h => by
    rw [Fm.cmp] at h
    cases q : compare (rank k) (rank l) with
    | eq =>
      rw [q] at h
      have hk : k = l := by
        have := Nat.compare_eq_eq.mp q
        cases k <;> cases l <;> first | rfl | (exact absurd this (by decide))
      rw [hk, cmps_eq h]
    | lt => rw [q] at h; cases h
    | gt => rw [q] at h; cases h
theorem cmps_eq : ∀ {fs gs : List Fm}, Fm.cmps fs gs = .eq → fs = gs
  | [], [], _ => rfl
  | [], _ :: _, h => by rw [Fm.cmps] at h; cases h
  | _ :: _, [], h => by rw [Fm.cmps] at h; cases h
  | f :: fs, g :: gs, h => by
    rw [Fm.cmps] at h
    cases q : Fm.cmp f g with
    | eq => rw [q] at h; rw [cmp_eq q, cmps_eq h]
    | lt => rw [q] at h; cases h
    | gt => rw [q] at h; cases h
end
theorem cmp_self (f : Fm) : Fm.cmp f f = .eq := by rw [← T_cmp, lex_self]
def Fm.beq (f g : Fm) : Bool := match Fm.cmp f g with | .eq => true | _ => false
theorem beq_iff {f g : Fm} : Fm.beq f g = true ↔ f = g := by
  unfold Fm.beq
  constructor
  · intro h
    split at h
    · rename_i q; exact cmp_eq q
    · cases h
  · intro h; subst h; rw [cmp_self]
theorem text_inj {f g : Fm} (h : T f = T g) : f = g := cmp_eq (by rw [← T_cmp, h, lex_self])
theorem text_beq (f g : Fm) : (T f == T g) = Fm.beq f g := by
  cases q : Fm.beq f g with
  | true => rw [beq_iff.mp q]; simp
  | false =>
    rw [beq_eq_false_iff_ne]
    intro h
    rw [text_inj h, beq_iff.mpr rfl] at q; cases q
theorem lex_lt_iff : ∀ {x y : List Nat}, lex x y = .lt ↔ x < y
  | [], [] => by simp [lex]
  | [], _ :: _ => by simp [lex]
  | _ :: _, [] => by simp [lex]
  | a :: x, b :: y => by
    rw [List.cons_lt_cons_iff, ← lex_lt_iff (x := x) (y := y)]
    show (compare a b).then (lex x y) = .lt ↔ _
    cases q : compare a b with
    | eq =>
      have := Nat.compare_eq_eq.mp q
      subst this
      simp [Ordering.then]
    | lt =>
      have := Nat.compare_eq_lt.mp q
      simp [Ordering.then, this]
    | gt =>
      have := Nat.compare_eq_gt.mp q
      simp only [Ordering.then]
      constructor
      · intro h; cases h
      · rintro (h | ⟨h, _⟩) <;> omega
def Fm.lt (f g : Fm) : Bool := match Fm.cmp f g with | .lt => true | _ => false
theorem text_lt (f g : Fm) : decide (T f < T g) = Fm.lt f g := by
  unfold Fm.lt
  rw [← T_cmp]
  cases q : lex (T f) (T g) with
  | lt => simp [lex_lt_iff.mp q]
  | eq => simp only [decide_eq_false_iff_not]; intro h; rw [lex_lt_iff.mpr h] at q; cases q
  | gt => simp only [decide_eq_false_iff_not]; intro h; rw [lex_lt_iff.mpr h] at q; cases q
end Mine
end

-- P1
section
namespace Mine

/-- a truth value or a formula -/
inductive Ex | b (v : Bool) | f (f : Fm)
def Ex.pv : Ex → PV
  | .b v => .bool v
  | .f g => .fm g
def Ex.eq : Ex → Ex → Bool
  | .b v, .b w => v == w
  | .f x, .f y => Fm.beq x y
  | _, _ => false
def inE (x : Ex) (l : List Ex) : Bool := l.any fun y => Ex.eq y x
-- lengths of texts
mutual
def tl : Fm → Nat
  | .sym _ => 1
  | .node _ as => 12 + tls as
def tls : List Fm → Nat
  | [] => 0
  | f :: fs => tl f + 2 + tls fs
end
def big : Nat := 1000000
def made (k : Kd) (as : List Fm) : Option Ex := if tls as ≤ big then some (.f (.node k as)) else none
def fms : List Ex → Option (List Fm)
  | [] => some []
  | .f f :: r => (fms r).bind fun l => some (f :: l)
  | .b _ :: _ => none
def notE : Ex → Option Ex
  | .b v => some (.b !v)
  | .f (.node .not (g :: _)) => some (.f g)
  | .f (.node .not []) => none
  | .f g => made .not [g]
def notL : List Ex → Option (List Ex)
  | [] => some []
  | x :: r => (notE x).bind fun y => (notL r).bind fun l => some (y :: l)
/-- the parts of e, where it is of kind k -/
def parts (k : Kd) : Ex → List Ex
  | .f (.node l as) => if l = k then as.map .f else [.f (.node l as)]
  | e => [e]
def zeroOf : Kd → Bool
  | .or => true
  | _ => false
/-- one argument's parts taken in; none: the answer is the zero -/
def keep (z : Bool) : List Ex → List Fm → Option (List Fm)
  | [], kept => some kept
  | .b v :: r, kept => if v == z then none else keep z r kept
  | .f f :: r, kept => if kept.any fun g => Fm.beq g f then keep z r kept else keep z r (kept ++ [f])
def keeps (k : Kd) : List Ex → List Fm → Option (List Fm)
  | [], kept => some kept
  | a :: r, kept => match keep (zeroOf k) (parts k a) kept with
    | none => none
    | some kept => keeps k r kept
def ins (f : Fm) : List Fm → List Fm
  | [] => [f]
  | g :: r => if Fm.lt g f then g :: ins f r else f :: g :: r
def sortF : List Fm → List Fm
  | [] => []
  | f :: r => ins f (sortF r)
def latE (k : Kd) (args : List Ex) : Option Ex :=
  if args.length ≤ 1000 ∧ (args.flatMap (parts k)).length ≤ 1000 then
    match keeps k args [] with
    | none => some (.b (zeroOf k))
    | some [] => some (.b !(zeroOf k))
    | some [f] => some (.f f)
    | some l => if l.length < 64 then made k (sortF l) else none
  else none
def litF : Nat → Ex → Option Bool
  | 0, _ => none
  | _ + 1, .b _ => some true
  | _ + 1, .f (.sym _) => some true
  | n + 1, .f (.node .not (g :: _)) => litF n (.f g)
  | _ + 1, .f (.node .not []) => none
  | _ + 1, .f _ => some false
/-- the list that _to_nnf gathers -/
inductive Step | zero | more (l : List Ex)
def gather : List Ex → List Ex → Option Step
  | [], l => some (.more l)
  | a :: r, l => (notE a).bind fun o => if inE o l then some .zero else if l.length < 1000 then gather r (l ++ [a]) else none
def nnfArgs (sub : Ex → Option Ex) (k : Kd) (simp : Bool) : List Ex → List Ex → Option Step
  | [], l => some (.more l)
  | a :: r, l => (litF 5 a).bind fun lit => (if lit then some a else sub a).bind fun a => if simp then (gather (parts k a) l).bind fun
      | .zero => some .zero
      | .more l => nnfArgs sub k simp r l
    else if l.length < 1000 then nnfArgs sub k simp r (l ++ [a]) else none
def nnfC (sub : Ex → Option Ex) (k : Kd) (simp : Bool) (args : List Ex) : Option Ex :=
  if args.length ≤ 1000 then (nnfArgs sub k simp args []).bind fun
    | .zero => some (.b (zeroOf k))
    | .more l => latE k l
  else none
def toNnf : Nat → Bool → Ex → Option Ex
  | 0, _, _ => none
  | n + 1, simp, .f (.node .and as) => nnfC (toNnf n simp) .and simp (as.map .f)
  | n + 1, simp, .f (.node .or as) => nnfC (toNnf n simp) .or simp (as.map .f)
  | n + 1, simp, .f (.node .imp [a, b]) => (notE (.f a)).bind fun na => nnfC (toNnf n simp) .or simp [na, .f b]
  | n + 1, simp, .f (.node .eqv [a, b]) => (notE (.f a)).bind fun na => (latE .or [na, .f b]).bind fun x => (notE (.f b)).bind fun nb => (latE .or [nb, .f a]).bind fun y => nnfC (toNnf n simp) .and simp [x, y]
  | n + 1, simp, .f (.node .xor [a, b]) => (latE .or [.f a, .f b]).bind fun x => (notE (.f a)).bind fun na => (notE (.f b)).bind fun nb => (latE .or [na, nb]).bind fun y => nnfC (toNnf n simp) .and simp [x, y]
  | n + 1, simp, .f (.node .not [g]) => (litF 5 (.f (.node .not [g]))).bind fun lit => if lit then some (.f (.node .not [g])) else match g with
    | .node .and as => (notL (as.map .f)).bind fun l => nnfC (toNnf n simp) .or simp l
    | .node .or as => (notL (as.map .f)).bind fun l => nnfC (toNnf n simp) .and simp l
    | .node .imp [a, b] => (notE (.f b)).bind fun nb => nnfC (toNnf n simp) .and simp [.f a, nb]
    | .node .eqv [a, b] => (latE .or [.f a, .f b]).bind fun x => (notE (.f a)).bind fun na => (notE (.f b)).bind fun nb => (latE .or [na, nb]).bind fun y => nnfC (toNnf n simp) .and simp [x, y]
    | .node .xor [a, b] => if Fm.beq a b then none else (notE (.f a)).bind fun na => (latE .or [na, .f b]).bind fun x => (notE (.f b)).bind fun nb => (latE .or [.f a, nb]).bind fun y => nnfC (toNnf n simp) .and simp [x, y]
    | _ => none
  | _ + 1, _, _ => none
/-- an opposite among them -/
def opposed (all : List Ex) : List Ex → Option Bool
  | [] => some false
  | a :: r => (notE a).bind fun o => if inE o all then some true else opposed all r
def isNnfGo : Nat → Bool → List Ex → Option Bool
  | 0, _, _ => none
  | _ + 1, _, [] => some true
  | n + 1, simp, e :: stack => if stack.length + (parts .and e).length + (parts .or e).length ≤ 1000 then match e with
    | .f (.node .and as) => (if simp then opposed (as.map .f) (as.map .f) else some false).bind fun o => if o then some false else isNnfGo n simp ((as.map .f).reverse ++ stack)
    | .f (.node .or as) => (if simp then opposed (as.map .f) (as.map .f) else some false).bind fun o => if o then some false else isNnfGo n simp ((as.map .f).reverse ++ stack)
    | e => (litF 5 e).bind fun lit => if lit then isNnfGo n simp stack else some false
    else none
def isNnf (simp : Bool) (e : Ex) : Option Bool := (litF 5 e).bind fun lit => if lit then some true else isNnfGo 100 simp [e]
def kindIs (k : Kd) : Ex → Bool
  | .f (.node l _) => decide (l = k)
  | _ => false
def allLit : List Ex → Option Bool
  | [] => some true
  | a :: r => (litF 5 a).bind fun lit => if lit then allLit r else some false
def formGo (k2 : Kd) : List Ex → Option Bool
  | [] => some true
  | a :: r => (if kindIs k2 a then allLit (parts k2 a) else litF 5 a).bind fun ok => if ok then formGo k2 r else some false
def isForm (k1 k2 : Kd) (e : Ex) : Option Bool := formGo k2 (parts k1 e)
def firstOf (k : Kd) : List Fm → Option (List Fm × Fm × List Fm)
  | [] => none
  | f :: r => if kindIs k (.f f) then some ([], f, r) else (firstOf k r).bind fun (p, g, q) => some (f :: p, g, q)
def mapO (g : Ex → Option Ex) : List Ex → Option (List Ex)
  | [] => some []
  | x :: r => (g x).bind fun y => (mapO g r).bind fun l => some (y :: l)
def dist : Nat → Kd → Kd → Ex → Option Ex
  | 0, _, _, _ => none
  | n + 1, k1, k2, .f (.node k as) => if k = k2 then
      match firstOf k1 as with
      | none => some (.f (.node k as))
      | some (p, .node kc cs, q) => if q.any fun x => Fm.beq x (.node kc cs) then none else (latE k2 ((p ++ q).map .f)).bind fun rest => (mapO (fun c => latE k2 [c, rest]) (cs.map .f)).bind fun l => (mapO (dist n k1 k2) l).bind fun l => latE k1 l
      | some (_, .sym _, _) => none
    else if k = k1 then (mapO (dist n k1 k2) (as.map .f)).bind fun l => latE k1 l
    else some (.f (.node k as))
  | _ + 1, _, _, e => some e
def nnfTop (simp : Bool) (e : Ex) : Option Ex := (isNnf simp e).bind fun y => if y then some e else toNnf 8 simp e
def isFun : Ex → Bool
  | .f (.node _ _) => true
  | _ => false
def normal (k1 k2 : Kd) (e : Ex) : Option Ex := if isFun e then (isForm k1 k2 e).bind fun y => if y then some e else (nnfTop false e).bind fun e => dist 8 k1 k2 e else some e
/-- what it says of a row -/
def cnt : List Bool → Nat
  | [] => 0
  | b :: r => (if b then 1 else 0) + cnt r
mutual
def told (row : Fin 3 → Bool) : Fm → Bool
  | .sym i => row i
  | .node k as => match k, tolds row as with
    | .not, a :: _ => !a
    | .not, [] => false
    | .and, l => l.all id
    | .or, l => l.any id
    | .xor, l => cnt l % 2 == 1
    | .imp, [a, b] => !a || b
    | .imp, _ => false
    | .eqv, l => cnt l == 0 || cnt l == l.length
def tolds (row : Fin 3 → Bool) : List Fm → List Bool
  | [] => []
  | f :: fs => told row f :: tolds row fs
end
def toldE (row : Fin 3 → Bool) : Ex → Bool
  | .b v => v
  | .f f => told row f
def rows : List (Fin 3 → Bool) := [false, true].flatMap fun a => [false, true].flatMap fun b => [false, true].map fun c => fun i => if i = 0 then a else if i = 1 then b else c
def litL : Ex → Bool
  | .b _ => true
  | .f (.sym _) => true
  | .f (.node .not (.sym _ :: _)) => true
  | _ => false
def plainL : Nat → Ex → Bool
  | 0, _ => false
  | n + 1, e => litL e || match e with
    | .f (.node .and as) => as.all fun a => plainL n (.f a)
    | .f (.node .or as) => as.all fun a => plainL n (.f a)
    | _ => false
def partsOk (k1 k2 : Kd) (e : Ex) : Bool := (parts k1 e).all fun p => (parts k2 p).all litL
def sames (x y : List Bool) : Bool := x == y
def lawOk (e : Ex) (holds : List Bool) : Bool :=
  match nnfTop true e, nnfTop false e, normal .and .or e, normal .or .and e with
  | some short, some long, some cnf, some dnf =>
    let ok := fun x => sames (rows.map fun r => toldE r x) holds
    ok e && ok short && ok long && ok cnf && ok dnf && plainL 8 short && plainL 8 long && isNnf true short == some true && isNnf false long == some true && isForm .and .or cnf == some true && isForm .or .and dnf == some true
      && partsOk .and .or cnf && partsOk .or .and dnf
  | _, _, _, _ => false
-- the formulas
inductive Tr | var (i : Fin 3) | not (t : Tr) | bin (k : Nat) (a b : Tr)
def leaves : List Tr := [.var 0, .var 1, .var 2]
def pairs (k : Nat) (l : List Tr) : List Tr := l.flatMap fun a => l.map fun b => .bin k a b
def d1 : List Tr := leaves ++ leaves.map .not ++ pairs 4 leaves ++ pairs 5 leaves ++ pairs 6 leaves ++ pairs 7 leaves ++ pairs 8 leaves
def xorE (a b : Ex) : Option Ex := if Ex.eq a b then some (.b false) else (fms [a, b]).bind fun l => made .xor (sortF l)
def impE (a b : Ex) : Option Ex := if Ex.eq a b then some (.b true) else (fms [a, b]).bind fun l => made .imp l
def eqvE (a b : Ex) : Option Ex := if Ex.eq a b then some (.b true) else (fms [a, b]).bind fun l => made .eqv (sortF l)
def mk : Tr → Option Ex
  | .var i => some (.f (.sym i))
  | .not t => (mk t).bind notE
  | .bin k a b => (mk a).bind fun x => (mk b).bind fun y => match k with
    | 4 => latE .and [x, y]
    | 5 => latE .or [x, y]
    | 6 => xorE x y
    | 7 => impE x y
    | _ => eqvE x y
def value (row : Fin 3 → Bool) : Tr → Bool
  | .var i => row i
  | .not t => !value row t
  | .bin k a b => match k with
    | 4 => value row a && value row b
    | 5 => value row a || value row b
    | 6 => value row a != value row b
    | 7 => !value row a || value row b
    | _ => value row a == value row b
def checkT (t : Tr) : Bool := match mk t with
  | some e => lawOk e (rows.map fun r => value r t)
  | none => false
end Mine
end

-- J10
section
open PySem PySem.W PyProof.Rows PySem.Calls
set_option maxRecDepth 100000
namespace Mine
theorem Room.in1 {n : Nat} {A : Around} (r : Room (n + 1) A) : Room n A.in1 := ⟨by have := r.1; show A.depth + 2 * n < 1000; omega, by have := r.2.1; show A.units + 1 + 30 * n < 9900; omega, r.2.2⟩
theorem Room.units {n : Nat} {A : Around} (r : Room n A) : A.units < cLine := by have := r.2.1; show A.units < 9900; omega

section
variable {prog : Program} {w : World} {A : Around} {E : Value → Shared → Prop} {s : Shared} {K : Frag} {x C f : Addr} {ox : Obj} {od : Option Obj} {b tb : Value}
theorem cmp_own {op : CmpOp} {Q : Value → Shared → Prop} (hu : A.units < cLine) (X : K.In s.heap) (I : PySem.W.InstAt s.heap x ox C od) (hb : Looks (model prog w) s.heap (typeOf b) tb) (hn : notFirst K C tb = true)
    (hs : findIn K (.ref C) (cmpInfo op).2.1 = some (some (.ref f))) (hf : isFn K (.ref f) = true)
    (h : wpAny (model prog w) A (call (.ref f) [.ref x, b]) (fun v s' => ∃ r, v = .bool r ∧ Q (.bool r) s') E s) : wpAny (model prog w) A (richCompare op (.ref x) b) Q E s := by
  have one : wpAny (model prog w) A (tryCompare (.ref x) (cmpInfo op).2.1 b) (fun r s' => ∃ v, r = some v ∧ Q v s') E s := by
    unfold tryCompare
    refine wpAny_bind (ifBound_K X I hs hf (wpAny_mono h (fun v s' hv => ?_) fun _ _ e => e))
    obtain ⟨r, rfl, hv⟩ := hv
    exact wpAny_pure ⟨_, rfl, hv⟩
  unfold richCompare
  simp only [oneThing_ref]
  refine wpAny_holding (wpAny_bind (wpAny_cRoomFor hu ?_))
  refine wpAny_bind (I.type.here (wpAny_bind (hb.here ?_)))
  split
  · rename_i q
    have e : subIn K tb (.ref C) = some false := by
      rcases Bool.or_eq_true_iff.mp hn with e | e
      · rw [beq_iff_eq.mp e] at q; simp at q
      · exact beq_iff_eq.mp e
    refine wpAny_bind ((looks_subIn X e).here ?_)
    simp only [Bool.false_eq_true, if_false]
    refine wpAny_bind (wpAny_mono one (fun r s' z => ?_) fun _ _ e => e)
    obtain ⟨v, rfl, hq⟩ := z
    exact wpAny_pure hq
  · refine wpAny_bind (wpAny_pure ?_)
    simp only [Bool.false_eq_true, if_false]
    refine wpAny_bind (wpAny_mono one (fun r s' z => ?_) fun _ _ e => e)
    obtain ⟨v, rfl, hq⟩ := z
    exact wpAny_pure hq
theorem int_eq_declines_inst (b : Bool) (l : Addr) (C d : Addr) :
    Meets (Builtin.«int.__eq__» ⟨[.bool b, .ref l], []⟩) (fun _ R s => s.heap.get? l = some (instObj C d) ∧ R (.ok (.ret .notImplemented)) s) :=
  .of_wp fun prog w A R s h => by obtain ⟨hp, g, dd, tk, os⟩ := s; obtain ⟨hl, h⟩ := h; wp_walk using AutoSeq1.wpAny_loadPart' hl, wpAny_load hl; exact ⟨_, rfl, h⟩
/-- a truth value asked whether it is an object -/
theorem cmp_bool {b : Bool} {Q : Value → Shared → Prop} {d : Addr} (hu : A.units < cLine) (X : K.In s.heap) (I : PySem.W.InstAt s.heap x (instObj C d) C od) (hsub : subIn K (.ref C) (.type "bool") = some false)
    (hs : findIn K (.ref C) "__eq__" = some (some (.ref f))) (hf : isFn K (.ref f) = true)
    (h : wpAny (model prog w) A (call (.ref f) [.ref x, .bool b]) (fun v s' => ∃ r, v = .bool r ∧ Q (.bool r) s') E s) : wpAny (model prog w) A (richCompare .Eq (.bool b) (.ref x)) Q E s := by
  have one : wpAny (model prog w) A (tryCompare (.ref x) "__eq__" (.bool b)) (fun r s' => ∃ v, r = some v ∧ Q v s') E s := by
    unfold tryCompare
    refine wpAny_bind (ifBound_K X I hs hf (wpAny_mono h (fun v s' hv => ?_) fun _ _ e => e))
    obtain ⟨r, rfl, hv⟩ := hv
    exact wpAny_pure ⟨_, rfl, hv⟩
  have hT : s.TypeIs (.bool b) "bool" := rfl
  simp only [richCompare, cmpInfo_Eq, hT.oneThing_none]
  refine wpAny_holding (wpAny_bind (wpAny_cRoomFor hu ?_))
  refine wpAny_bind (wpAny_typeOf hT (wpAny_bind (I.type.here ?_)))
  rw [if_pos (show (Value.type "bool" != Value.ref C) = true from rfl)]
  refine wpAny_bind ((looks_subIn X hsub).here ?_)
  simp only [Bool.false_eq_true, if_false, Bool.not_false, if_true]
  refine wpAny_bind (m := tryCompare (.bool b) _ (.ref x)) (wpAny_tryCompare_declines hT PySem.F.slot_bool_eq ?_)
  refine call_meets PySem.F.slot_bool_eq hT PySem.F.entry_int_eq (PySem.F.args_int_eq_2 _ _) (int_eq_declines_inst b x C d) ⟨I.1, rfl, ?_⟩
  refine wpAny_bind (wpAny_mono one (fun r s' z => ?_) fun _ _ e => e)
  obtain ⟨v, rfl, hq⟩ := z
  exact wpAny_pure hq
end

theorem first_fm (w : World) (f g : Fm) : notFirst (KK w) (clsOf f) (.ref (clsOf g)) = true := by
  cases f with
  | sym i => cases g with
    | sym j => kernel_rfl
    | node l bs => cases l <;> kernel_rfl
  | node k as => cases g with
    | sym j => cases k <;> kernel_rfl
    | node l bs => cases k <;> cases l <;> kernel_rfl
theorem first_bool (w : World) (f : Fm) : notFirst (KK w) (clsOf f) (.type "bool") = true := by
  cases f with
  | sym i => kernel_rfl
  | node k as => cases k <;> kernel_rfl
theorem sub_bool (w : World) (f : Fm) : subIn (KK w) (.ref (clsOf f)) (.type "bool") = some false := by
  cases f with
  | sym i => kernel_rfl
  | node k as => cases k <;> kernel_rfl
theorem find_eq (w : World) (f : Fm) : findIn (KK w) (.ref (clsOf f)) "__eq__" = some (some (.ref 65)) := by
  cases f with
  | sym i => kernel_rfl
  | node k as => cases k <;> kernel_rfl
theorem fn_eq (w : World) : isFn (KK w) (.ref 65) = true := by kernel_rfl
theorem isi_boolB (w : World) : kitOne (KK w) (.type "bool") (.ref 89) = some false := by kernel_rfl
/-- a formula and a truth value -/
theorem ct_eqB (c : Cx) (f : Fm) (b : Bool) : CT c 5 (.ref 65) [.fm f, .bool b] [] (.bool false) := by
  refine CT_def (n := 4) (f := 65) (by rfl) rfl rfl (by rfl) (bind2 (fun a b => by rfl)) (by decide) (kindsN (by rfl)) ?_
  intro s₀ F₀ L
  refine J_execs_cons (J_return (J_BoolOp ?_))
  refine J_boolOpAnd ?_
  refine J_CallName (J_builtin (v := .builtin "isinstance") (by kernel_rfl) (by rfl) (by decide) ?_ (by rfl))
  refine J_callImm (J_evalArgs ?_)
  refine J_spliced ?_
  refine J_name (by rfl) fun v1 => ?_
  refine J_spliced ?_
  refine J_glob (v := .ref 89) (by kernel_rfl) ?_ (by rfl)
  refine J_spliced_nil ?_
  intro A r F s H Q q
  obtain rfl : v1 = .bool b := H.tmp _ (.head _)
  exact J_isiB (Φ := fun v σ' => J c 4 _ σ' (truthy v) fun b σ'' => if b then _ else _) (isi_boolB c.w) (J_truthyB (by exact Has.bool)) A r F s H Q q
theorem richE {c : Cx} {n : Nat} (hn : 5 ≤ n) {x y : Ex} {v w : Value} {A : Around} (r : Room n A) {F : PM} {s : Shared} (hB : Base c F) (hS : Sub F s.heap) (hx : Rep F x.pv v) (hy : Rep F y.pv w) {Q : Value → Shared → Prop}
    (q : ∀ F' h' tk, Kp s.heap h' → Ext F F' s.heap h' → Q (.bool (Ex.eq x y)) { s with heap := h', toks := tk }) : wpAny c.M A (richCompare .Eq v w) Q (fun _ _ => False) s := by
  have go : ∀ {f g : Value} {p p' : PV} {b : Bool} (h : CT c 5 (.ref 65) [p, p'] [] (.bool b)) (hp : Rep F p f) (hq : Rep F p' g) (e : b = Ex.eq x y), wpAny c.M A (call (.ref 65) [f, g]) (fun v s' => ∃ r, v = .bool r ∧ Q (.bool r) s') (fun _ _ => False) s := fun {f g p p' b} h hp hq e =>
    wpAny_call (codeAny_mono (h [f, g] [] A (r.mono hn) F s hB hS (Reps.cons hp (Reps.cons hq Reps.nil)) KReps.nil (fun v s' => ∃ r, v = .bool r ∧ Q (.bool r) s') fun v F' h' tk kp ex rv => ⟨b, rv, by rw [e]; exact q F' h' tk kp ex⟩) fun r s' z => by
      rcases r with e | (v | _ | _ | _) <;> first | exact z | exact z.elim)
  cases x with
  | b u => cases y with
    | b u' =>
      obtain rfl : v = .bool u := hx
      obtain rfl : w = .bool u' := hy
      exact SeqAt.RcAt.bool_bool u u' _ _ _ _ (q F s.heap s.toks (Kp.refl _) (Ext.refl hS))
    | f g =>
      obtain ⟨x, es, rfl, i, he⟩ := RepF.inst (show RepF F g w from hy)
      obtain rfl : v = .bool u := hx
      obtain ⟨d, m, I⟩ := i.at hS
      exact cmp_bool r.units (hB.inK hS) I (sub_bool c.w g) (find_eq c.w g) (fn_eq c.w) (go (ct_eqB c g u) hy rfl rfl)
  | f f => 
    obtain ⟨x', es, rfl, i, he⟩ := RepF.inst (show RepF F f v from hx)
    obtain ⟨d, m, I⟩ := i.at hS
    cases y with
    | b u' =>
      obtain rfl : w = .bool u' := hy
      exact cmp_own r.units (hB.inK hS) I (Looks.of_pure rfl) (first_bool c.w f) (find_eq c.w f) (fn_eq c.w) (go (ct_eqB c f u') hx rfl rfl)
    | f g =>
      obtain ⟨y', es', rfl, i', he'⟩ := RepF.inst (show RepF F g w from hy)
      obtain ⟨d', m', I'⟩ := i'.at hS
      exact cmp_own r.units (hB.inK hS) I I'.type (first_fm c.w f g) (find_eq c.w f) (fn_eq c.w) (go (ct_eq c f g) hx hy (text_beq f g))
theorem rep_text {F : PM} {f g : Fm} {v : Value} (h : RepF F f v) (h' : RepF F g v) : text f = text g := by
  obtain ⟨x, es, rfl, ⟨d, n, i1, i2⟩, he⟩ := RepF.inst h
  obtain ⟨x', es', e, ⟨d', n', i1', i2'⟩, he'⟩ := RepF.inst h'
  cases e
  rw [i1] at i1'
  simp only [Option.some.injEq, instObj, Obj.mk.injEq] at i1'
  obtain rfl := i1'.2.1
  rw [i2] at i2'
  have e2 : es = es' := by
    have := congrArg (fun o : Option Obj => o.map fun o => match o.data with | .dict a _ => a.toList | _ => []) i2'
    simpa using this
  subst e2
  cases f with
  | sym i =>
    obtain ⟨h1, h2, t1, t2, t3, t4, rfl⟩ := he
    cases g with
    | sym j =>
      obtain ⟨g1, g2, u1, u2, u3, u4, e⟩ := he'
      simp only [List.cons.injEq, DictEntry.mk.injEq, Value.str.injEq] at e
      unfold text; exact e.1.2.2.1
    | node l bs =>
      obtain ⟨a', vs', n', g1, g2, u1, u2, u3, e, _⟩ := he'
      simp at e
  | node k as =>
    obtain ⟨a, vs, n, h1, h2, t1, t2, t3, rfl, _⟩ := he
    cases g with
    | sym j =>
      obtain ⟨g1, g2, u1, u2, u3, u4, e⟩ := he'
      simp at e
    | node l bs =>
      obtain ⟨a', vs', n', g1, g2, u1, u2, u3, e, _⟩ := he'
      simp only [List.cons.injEq, DictEntry.mk.injEq, Value.str.injEq] at e
      exact e.2.1.2.2.1
theorem rep_eq {F : PM} {f g : Fm} {v : Value} (h : RepF F f v) (h' : RepF F g v) : f = g := text_inj (by unfold T; rw [rep_text h h'])
theorem rep_bool {F : PM} {f : Fm} {b : Bool} (h : RepF F f (.bool b)) : False := by
  obtain ⟨x, es, e, _⟩ := RepF.inst h
  cases e
/-- equal, as a container asks -/
theorem eqB {c : Cx} {n : Nat} (hn : 5 ≤ n) {x y : Ex} {v w : Value} {A : Around} (r : Room n A) {F : PM} {s : Shared} (hB : Base c F) (hS : Sub F s.heap) (hx : Rep F x.pv v) (hy : Rep F y.pv w) {Q : Bool → Shared → Prop}
    (q : ∀ F' h' tk, Kp s.heap h' → Ext F F' s.heap h' → Q (Ex.eq x y) { s with heap := h', toks := tk }) : wpAny c.M A (eqBool v w) Q (fun _ _ => False) s := by
  unfold eqBool
  refine wpAny_holding ?_
  refine wpAny_ite_split (fun hab => ?_) (fun _ => ?_)
  · have e : v = w := eq_of_beq hab
    subst e
    have : Ex.eq x y = true := by
      cases x with
      | b u => cases y with
        | b u' =>
          obtain rfl : v = .bool u := hx
          cases hy
          show (u == u) = true
          simp
        | f g =>
          obtain rfl : v = .bool u := hx
          exact (rep_bool hy).elim
      | f f => cases y with
        | b u' =>
          obtain rfl : v = .bool u' := hy
          exact (rep_bool hx).elim
        | f g => exact beq_iff.mpr (rep_eq hx hy)
    exact wpAny_bind (wpAny_rule (wpAny_pure (this ▸ q F s.heap s.toks (Kp.refl _) (Ext.refl hS))))
  · have last : wpAny c.M A (richCompare .Eq v w >>= fun r => truthOfDropped r) Q (fun _ _ => False) s := wpAny_bind (richE hn r hB hS hx hy fun F' h' tk kp ex => wpAny_truthy_bool (q F' h' tk kp ex))
    cases x with
    | b u =>
      obtain rfl : v = .bool u := hx
      exact last
    | f f =>
      obtain ⟨x', es, rfl, i, he⟩ := RepF.inst (show RepF F f v from hx)
      exact last
end Mine
end

-- J11
section
open PySem PySem.W PyProof.Rows PySem.Calls
set_option maxRecDepth 100000
namespace Mine
section
variable {c : Cx} {n : Nat}
/-- what a container's search is asked -/
def InPost (F : PM) (h : Heap) (b : Bool) (s : Shared) (R : Result → Shared → Prop) : Prop := ∀ F' h' tk, Kp h h' → Ext F F' h h' → R (.ok (.ret (.bool b))) { s with heap := h', toks := tk }
theorem Reps.tail {F : PM} {p : PV} {ps : List PV} {vs : List Value} (h : Reps F (p :: ps) vs) : ∃ v r, vs = v :: r ∧ Rep F p v ∧ Reps F ps r := h
theorem contains_go (hn : 5 ≤ n) {x : Ex} {w : Value} {A : Around} (r : Room (n + 1) A) (l : Addr) (vs : List Value) (k : Nat) (dd : Option Addr) (sl : Array (Option Value)) : ∀ (ys : List Ex) (i : Nat) (F : PM) (s : Shared) (R : Result → Shared → Prop), Base c F → Sub F s.heap → Rep F x.pv w →
    s.heap.get? l = some { cls := .type "list", dict := dd, data := .seq vs.toArray k, slots := sl } → Reps F (ys.map Ex.pv) (vs.drop i) → InPost F s.heap (inE x ys) s R →
    wpAny c.M A.in1 (Builtin.«list.__contains__.loop» ⟨[.ref l, w, rawInt i], []⟩) (fun fin s' => match fin with | .done f => R (.ok f) s' | .again c' => c'.quiet = true ∧ codeAny c.M A c' R s') (fun e s' => R (.error e) s') s := by
  intro ys
  induction ys with
  | nil =>
    intro i F s R hB hS hw hl hr hR
    obtain ⟨hp, g, d, tk, os⟩ := s
    have hd : vs.drop i = [] := hr
    wp_walk using AutoSeq1.wpAny_loadPart' hl
    have hi : vs.toArray[((i : Nat) : Int).toNat]? = none := by
      have := List.drop_eq_nil_iff.mp hd
      simp; omega
    rw [hi]
    wp_walk
    exact hR F hp tk (Kp.refl _) (Ext.refl hS)
  | cons y ys ih =>
    intro i F s R hB hS hw hl hr hR
    obtain ⟨hp, g, d, tk, os⟩ := s
    obtain ⟨v, rest, hd, rv, rr⟩ := hr
    have hlt : i < vs.length := by
      rcases Nat.lt_or_ge i vs.length with q | q
      · exact q
      · rw [List.drop_eq_nil_iff.mpr q] at hd; cases hd
    have hi : vs.toArray[((i : Nat) : Int).toNat]? = some v := by
      have : (vs.drop i).head? = some v := by rw [hd]; rfl
      rw [List.head?_drop] at this
      simpa using this
    have hd' : vs.drop (i + 1) = rest := by
      have : (vs.drop i).tail = rest := by rw [hd]; rfl
      rw [← this]; simp
    wp_walk using AutoSeq1.wpAny_loadPart' hl
    rw [hi]
    refine wpAny_bind (wpAny_mono (eqB (n := n) hn r.in1 (s := ⟨hp, g, d, tk, os⟩) hB hS rv hw (Q := fun b s' => wpAny _ _ _ _ (fun e s' => R (.error e) s') s') fun F' h' tk' kp ex => ?_) (fun _ _ z => z) fun _ _ z => z.elim)
    show wpAny _ _ _ _ _ ⟨h', g, d, tk', os⟩
    cases hb : Ex.eq y x with
    | true =>
      have e : inE x (y :: ys) = true := by unfold inE; rw [List.any_cons, hb]; rfl
      rw [e] at hR
      wp_walk
      exact hR F' h' tk' kp ex
    | false =>
      have e : inE x (y :: ys) = inE x ys := by unfold inE; rw [List.any_cons, hb]; rfl
      rw [e] at hR
      have hc : ((i : Int) + 1) = ((i + 1 : Nat) : Int) := by push_cast; rfl
      wp_walk
      rw [hc]
      exact ⟨plainId_quiet MeetsSeq.plain_contains_loop _, codeAny_builtin MeetsSeq.entry_contains_loop (by
        rw [Around.under_plainId MeetsSeq.plain_contains_loop _]
        exact ih (i + 1) F' ⟨h', g, d, tk', os⟩ R (hB.mono ex.le) ex.sub (hw.mono ex.le) (kp _ _ hl) (hd' ▸ rr.mono ex.le) fun F₂ h₂ tk₂ kp₂ ex₂ => hR F₂ h₂ tk₂ (kp.trans kp₂) (Ext.trans kp ex ex₂))⟩
theorem contains_list (hn : 5 ≤ n) {x : Ex} {w : Value} {A : Around} (r : Room (n + 1) A) {l : Addr} {vs : List Value} {k : Nat} {dd : Option Addr} {sl : Array (Option Value)} {ys : List Ex} {F : PM} {s : Shared} (hB : Base c F) (hS : Sub F s.heap) (hw : Rep F x.pv w)
    (hl : s.heap.get? l = some { cls := .type "list", dict := dd, data := .seq vs.toArray k, slots := sl }) (hr : Reps F (ys.map Ex.pv) vs) {Q : Bool → Shared → Prop} (q : ∀ F' h' tk, Kp s.heap h' → Ext F F' s.heap h' → Q (inE x ys) { s with heap := h', toks := tk }) :
    wpAny c.M A (contains (.ref l) w) Q (fun _ _ => False) s := by
  have hT : s.TypeIs (.ref l) "list" := ⟨_, hl, rfl⟩
  refine wpAny_contains_slot hT PySem.F.slot_list_contains (wpAny_mono (Q := fun v s' => ∃ b, v = .bool b ∧ Q b s') ?_ (fun v s' z => by obtain ⟨b, rfl, z⟩ := z; exact wpAny_truthy_bool z) fun _ _ z => z)
  refine wpAny_call (codeAny_call_builtin PySem.F.slot_list_contains.plain PySem.F.entry_list_contains (PySem.F.slot_list_contains.check _ _ _ _ _ _ _ _ hT (PySem.F.args_list_contains_2 _ _) ?_))
  obtain ⟨hp, g, d, tk, os⟩ := s
  wp_walk using AutoSeq1.wpAny_loadPart' hl
  exact ⟨plainId_quiet MeetsSeq.plain_contains_loop _, codeAny_builtin MeetsSeq.entry_contains_loop (by
    rw [Around.under_plainId MeetsSeq.plain_contains_loop _]
    exact contains_go (n := n) hn r l vs k dd sl ys 0 F ⟨hp, g, d, tk, os⟩ (wants (fun v s' => ∃ b, v = .bool b ∧ Q b s') (fun _ _ => False)) hB hS hw hl hr fun F' h' tk' kp ex => ⟨_, rfl, q F' h' tk' kp ex⟩)⟩
end
end Mine
namespace Mine
section
variable {c : Cx} {n : Nat}
theorem contains_tuple (hn : 5 ≤ n) {x : Ex} {w : Value} {A : Around} (r : Room (n + 1) A) {l : Addr} {vs : List Value} {k : Nat} {ys : List Ex} {F : PM} {s : Shared} (hB : Base c F) (hS : Sub F s.heap) (hw : Rep F x.pv w)
    (hl : s.heap.get? l = some (tupObj vs k)) (hr : Reps F (ys.map Ex.pv) vs) {Q : Bool → Shared → Prop} (q : ∀ F' h' tk, Kp s.heap h' → Ext F F' s.heap h' → Q (inE x ys) { s with heap := h', toks := tk }) :
    wpAny c.M A (contains (.ref l) w) Q (fun _ _ => False) s := by
  have hT : s.TypeIs (.ref l) "tuple" := ⟨_, hl, rfl⟩
  refine wpAny_contains_slot hT PySem.F.slot_tuple_contains (wpAny_mono (Q := fun v s' => ∃ b, v = .bool b ∧ Q b s') ?_ (fun v s' z => by obtain ⟨b, rfl, z⟩ := z; exact wpAny_truthy_bool z) fun _ _ z => z)
  refine wpAny_call (codeAny_call_builtin PySem.F.slot_tuple_contains.plain PySem.F.entry_tuple_contains (PySem.F.slot_tuple_contains.check _ _ _ _ _ _ _ _ hT (PySem.F.args_tuple_contains_2 _ _) ?_))
  obtain ⟨hp, g, d, tk, os⟩ := s
  wp_walk using AutoSeq1.wpAny_loadPart' hl, MeetsSeq2.wpAny_forIn_array _ (fun rest b s' => b.1 = none ∧ ∃ (ys' : List Ex) (F' : PM) (h' : Heap) (tk' : Nat), s' = ⟨h', g, d, tk', os⟩ ∧ Kp hp h' ∧ Ext F F' hp h' ∧ Reps F' (ys'.map Ex.pv) rest ∧ inE x ys = inE x ys') _
  case turn =>
    rintro y rest b s' ⟨hb, ys', F', h', tk', rfl, kp, ex, hr', he⟩
    cases ys' with
    | nil => cases hr'
    | cons z zs =>
      obtain ⟨v, r', e1, rv, rr⟩ := hr'
      cases e1
      refine wpAny_bind (wpAny_mono (eqB (n := n) hn r.in1 (s := ⟨h', g, d, tk', os⟩) (hB.mono ex.le) ex.sub rv (hw.mono ex.le) (Q := fun b' s' => b' = Ex.eq z x ∧ ∃ (F' : PM) (h' : Heap) (tk' : Nat), s' = ⟨h', g, d, tk', os⟩ ∧ Kp hp h' ∧ Ext F F' hp h' ∧ Reps F' (zs.map Ex.pv) rest) fun F₂ h₂ tk₂ kp₂ ex₂ => ⟨rfl, F₂, h₂, tk₂, rfl, kp.trans kp₂, Ext.trans kp ex ex₂, rr.mono ex₂.le⟩) (fun b' s' z' => ?_) fun _ _ z => z.elim)
      obtain ⟨rfl, F₂, h₂, tk₂, rfl, kp₂, ex₂, rr₂⟩ := z'
      cases hb' : Ex.eq z x with
      | true =>
        wp_walk
        have : inE x ys = true := by rw [he]; unfold inE; rw [List.any_cons, hb']; rfl
        exact ⟨true, rfl, this ▸ q F₂ h₂ tk₂ kp₂ ex₂⟩
      | false =>
        wp_walk
        exact ⟨rfl, zs, F₂, h₂, tk₂, rfl, kp₂, ex₂, rr₂, by rw [he]; unfold inE; rw [List.any_cons, hb']; rfl⟩
  case fin =>
    rintro ⟨b1, b2⟩ s' ⟨hb, ys', F', h', tk', rfl, kp, ex, hr', he⟩
    simp only at hb
    subst hb
    have : inE x ys = false := by
      cases ys' with
      | nil => exact he
      | cons z zs => obtain ⟨v, r', e1, _⟩ := hr'; cases e1
    wp_walk
    exact ⟨false, rfl, this ▸ q F' h' tk' kp ex⟩
  case h => exact ⟨rfl, ys, F, hp, tk, rfl, Kp.refl _, Ext.refl hS, by simpa using hr, rfl⟩
end
section
variable {c : Cx} {n : Nat} {fr : Fc} {σ : AS}
theorem J_inB {C w : Value} {x : Ex} {ys : List Ex} {Φ : Bool → AS → Prop} (h : ∀ A, Rm n fr.env fr.stk A → ∀ F s, Holds c fr F σ s.heap → ∀ Q : Bool → Shared → Prop, (∀ F' h' tk, Kp s.heap h' → Ext F F' s.heap h' → Q (inE x ys) { s with heap := h', toks := tk }) → wpAny c.M A (contains C w) Q (fun _ _ => False) s)
    (k : Φ (inE x ys) σ) : J c n fr σ (contains C w) Φ := fun A r F s H Q q => h A r F s H Q fun F' h' tk kp ex => q _ σ F' h' tk k (H.step kp ex)
theorem J_inC {op : CmpOp} {C w : Value} {Φ : Value → AS → Prop} {neg : Bool} (h : J c n fr σ (contains C w) fun b σ' => Φ (.bool (neg != b)) σ') (ho : op = if neg then .NotIn else .In := by rfl) : J c n fr σ (compareOp op w C) Φ := by
  subst ho
  cases neg with
  | false =>
    show J c n fr σ (do return .bool (← contains C w)) Φ
    exact J_bind (J_mono h fun b σ' z => J_pure (by simpa using z))
  | true =>
    show J c n fr σ (do return .bool (!(← contains C w))) Φ
    exact J_bind (J_mono h fun b σ' z => J_pure (by simpa using z))
theorem J_inLst {C w : Value} {x : Ex} {ys : List Ex} {Φ : Bool → AS → Prop} (hn : 6 ≤ n) (hw : Has c σ w x.pv) (hC : Has c σ C (.lst (ys.map Ex.pv))) (k : Φ (inE x ys) σ) : J c n fr σ (contains C w) Φ :=
  J_inB (fun A r F s H Q q => by
    obtain ⟨a, vs, nn, rfl, ha, hr⟩ := hC _ _ _ H
    exact contains_list (n := 5) (Nat.le_refl _) (r.mono hn) H.baseF H.sub (hw _ _ _ H) (H.sub _ _ ha) hr q) k
theorem J_inTup {C w : Value} {x : Ex} {ys : List Ex} {Φ : Bool → AS → Prop} (hn : 6 ≤ n) (hw : Has c σ w x.pv) (hC : Has c σ C (.tup (ys.map Ex.pv))) (k : Φ (inE x ys) σ) : J c n fr σ (contains C w) Φ :=
  J_inB (fun A r F s H Q q => by
    obtain ⟨a, vs, nn, rfl, ha, hr⟩ := hC _ _ _ H
    exact contains_tuple (n := 5) (Nat.le_refl _) (r.mono hn) H.baseF H.sub (hw _ _ _ H) (H.sub _ _ ha) hr q) k
theorem J_inOwn {y : Str} {l : Addr} {w : Value} {x : Ex} {ys : List Ex} {Φ : Bool → AS → Prop} (hn : 6 ≤ n) (ho : σ.own = some (y, l, ys.map Ex.pv)) (hw : Has c σ w x.pv) (k : Φ (inE x ys) σ) : J c n fr σ (contains (.ref l) w) Φ :=
  J_inB (fun A r F s H Q q => by
    obtain ⟨m, cm, L⟩ := H.loc
    obtain ⟨_, _, ⟨vs, nn, ha, hr⟩, _⟩ := L.own y l _ ho
    exact contains_list (n := 5) (Nat.le_refl _) (r.mono hn) H.baseF H.sub (hw _ _ _ H) ha hr q) k
end
end Mine
end

-- J12
section
open PySem PySem.W PyProof.Rows PySem.Calls
set_option maxRecDepth 100000
namespace Mine
section
variable {c : Cx} {n : Nat} {fr : Fc} {σ : AS}
theorem Holds.setOwn {F : PM} {h h' : Heap} {y : Str} {l : Addr} {ps ps' : List PV} {vs' : List Value} (H : Holds c fr F σ h) (ho : σ.own = some (y, l, ps)) (hs : Heap.SameBut l h h') (hl : ∃ k', h'.get? l = some (lstObj vs' k')) (hr : Reps F ps' vs') :
    Holds c fr F ⟨σ.ρ, some (y, l, ps'), σ.κ⟩ h' := by
  obtain ⟨k', hl⟩ := hl
  obtain ⟨m, cm, L⟩ := H.loc
  obtain ⟨a1, a2, _, a5, a6, a7, a8⟩ := L.own y l ps ho
  have ne : ∀ a o, F a = some o → a ≠ l := fun a o e z => by rw [z, a5] at e; cases e
  refine ⟨H.base, H.kind, H.outer, H.le, fun a o e => (hs.2 a (ne a o e)).trans (H.sub a o e), H.keep.more fun a _ o e e' => (hs.2 a fun z => by rw [z, a6] at e; cases e).trans e', H.new,
    ⟨m, cm, ⟨L.ns.sameBut hs (Ne.symm a7), L.offL, L.fresh, fun x d z => ?_, L.apart, L.val, fun x l' ps'' z => ?_, fun z hz => ?_, L.pinD⟩⟩, H.tmp⟩
  · obtain ⟨b1, b2, b3⟩ := L.cell x d z
    exact ⟨b1.sameBut hs (Ne.symm (a8 x d z)), b2, b3⟩
  · cases z
    exact ⟨a1, a2, ⟨vs', k', hl, hr⟩, a5, a6, a7, a8⟩
  · obtain ⟨b1, b2, b3, b4, b5, b6⟩ := L.pin z hz
    exact ⟨(hs.2 _ (b6 y l ps ho)).trans b1, b2, b3, b4, b5, fun x l' ps'' e => by cases e; exact b6 y l ps ho⟩
theorem Holds.ownAt {F : PM} {h : Heap} {y : Str} {l : Addr} {ps : List PV} (H : Holds c fr F σ h) (ho : σ.own = some (y, l, ps)) : ∃ vs k, h.get? l = some (lstObj vs k) ∧ Reps F ps vs := by
  obtain ⟨m, cm, L⟩ := H.loc
  obtain ⟨_, _, ⟨vs, nn, ha, hr⟩, _⟩ := L.own y l ps ho
  exact ⟨vs, nn, ha, hr⟩
theorem J_methOwn {y : Str} {l : Addr} {ps : List PV} {name : Str} {id : String} {pl : Sem Bool} {Φ : Value × List Value → AS → Prop} (ho : σ.own = some (y, l, ps)) (slot : Slot "list" name id) (hty : typeOf (.builtin id) = pure (.type "method_descriptor")) (k : Φ (.builtin id, [.ref l]) σ) :
    J c n fr σ (getMethod (.ref l) name pl) Φ := fun A r F s H Q q => by
  obtain ⟨vs, kk, ha, _⟩ := H.ownAt ho
  exact getMethod_builtin ⟨_, ha, rfl⟩ PySem.F.plainAttrs_list slot hty (fun a e => by cases e; exact ⟨_, ha, rfl⟩) (q _ σ F s.heap s.toks k H)
theorem J_append {y : Str} {l : Addr} {ps : List PV} {v : Value} {p : PV} {Φ : Value → AS → Prop} (ho : σ.own = some (y, l, ps)) (hv : Has c σ v p) (hz : ps.length ≤ sizeLine) (k : Φ .none ⟨σ.ρ, some (y, l, ps ++ [p]), σ.κ⟩) : J c n fr σ (call (.builtin "list.append") [.ref l, v]) Φ := fun A r F s H Q q => by
  obtain ⟨vs, kk, ha, hr⟩ := H.ownAt ho
  refine wpAny_list_append_plain (items := vs.toArray) ⟨kk, ha⟩ (fun h' hl hs => ?_) (by rw [List.size_toArray, hr.length]; exact hz)
  obtain ⟨k', hl⟩ := hl
  exact q _ _ F h' _ k (H.setOwn ho hs (vs' := vs ++ [v]) ⟨k', by rw [hl]; simp [lstObj]⟩ (hr.append (Reps.cons (hv _ _ _ H) Reps.nil)))
theorem Reps.last {F : PM} {q : PV} : ∀ {ps : List PV} {vs : List Value}, Reps F (ps ++ [q]) vs → ∃ ws v, vs = ws ++ [v] ∧ Reps F ps ws ∧ Rep F q v
  | [], vs, h => by obtain ⟨v, rfl, r⟩ := Reps.one h; exact ⟨[], v, rfl, Reps.nil, r⟩
  | p :: ps, vs, ⟨v, vs', e, r, rs⟩ => by
    obtain ⟨ws, v', e', r1, r2⟩ := Reps.last rs
    exact ⟨v :: ws, v', by rw [e, e']; rfl, Reps.cons r r1, r2⟩
theorem J_pop {y : Str} {l : Addr} {ps : List PV} {p : PV} {Φ : Value → AS → Prop} (ho : σ.own = some (y, l, ps ++ [p])) (hz : ps.length < sizeLine) (k : ∀ v, Φ v ⟨σ.ρ, some (y, l, ps), (v, p) :: σ.κ⟩) : J c n fr σ (call (.builtin "list.pop") [.ref l]) Φ := fun A r F s H Q q => by
  obtain ⟨vs, kk, ha, hr⟩ := H.ownAt ho
  obtain ⟨ws, v, rfl, r1, r2⟩ := hr.last
  have hs : (ws ++ [v]).toArray.size = ws.length + 1 := by simp
  refine call_meets PySem.F.slot_list_pop ⟨_, ha, rfl⟩ PySem.F.entry_list_pop (PySem.F.args_list_pop_1 _) (MeetsSeq.list_pop_last l (ws ++ [v]).toArray kk v (by rw [hs]; simp) (by rw [hs, r1.length]; omega)) ⟨ha, ?_⟩
  have g := get?_update_seq (c := "list") (xs := (ws ++ [v]).toArray) (n := kk) ha fun xs : Array Value => xs.eraseIdxIfInBounds ((ws ++ [v]).toArray.size - 1)
  have e : (ws ++ [v]).toArray.eraseIdxIfInBounds ((ws ++ [v]).toArray.size - 1) = ws.toArray := by
    apply Array.toList_inj.mp
    rw [hs]
    simp [Array.toList_eraseIdxIfInBounds, List.eraseIdx_append_of_length_le]
  rw [e] at g
  exact q v _ F _ _ (k v) (Holds.push (σ := ⟨σ.ρ, some (y, l, ps), σ.κ⟩) (H.setOwn ho (Heap.SameBut.update ..) (vs' := ws) ⟨_, g⟩ r1) r2)
theorem J_extendT {y : Str} {l : Addr} {ps xs : List PV} {w : Value} {Φ : Value → AS → Prop} (ho : σ.own = some (y, l, ps)) (hw : Has c σ w (.tup xs)) (hz : ps.length + xs.length ≤ 1000000) (k : Φ .none ⟨σ.ρ, some (y, l, ps ++ xs), σ.κ⟩) : J c n fr σ (call (.builtin "list.extend") [.ref l, w]) Φ := fun A r F s H Q q => by
  obtain ⟨vs, kk, ha, hr⟩ := H.ownAt ho
  obtain ⟨b, ws, kb, rfl, hb, hrb⟩ := hw _ _ _ H
  have e1 := hr.length
  have e2 := hrb.length
  have big : Builtin.List.listTooLong (vs.toArray.size + ws.toArray.size) = false := by
    rw [List.size_toArray, List.size_toArray]
    unfold Builtin.List.listTooLong
    have := sizeLine_is
    simp; omega
  refine call_meets PySem.F.slot_list_extend ⟨_, ha, rfl⟩ PySem.F.entry_list_extend (PySem.F.args_list_extend_2 _ _) (AutoSeq1.list_extend_list_tuple_0 l vs.toArray kk b ws.toArray kb (by rw [big]; simp) (by rw [List.size_toArray, sizeLine_is]; omega) (by rw [List.size_toArray, List.size_toArray, sizeLine_is]; omega)) ⟨ha, H.sub _ _ hb, ?_⟩
  have g := get?_update_seq (c := "list") (xs := vs.toArray) (n := kk) ha fun x : Array Value => x ++ ws.toArray
  have e : vs.toArray ++ ws.toArray = (vs ++ ws).toArray := by simp
  rw [e] at g
  exact q _ _ F _ _ k (H.setOwn ho (Heap.SameBut.update ..) (vs' := vs ++ ws) ⟨_, g⟩ (hr.append hrb))
theorem isEmpty_len {xs : List PV} {vs : List Value} (h : vs.length = xs.length) : vs.toArray.isEmpty = xs.isEmpty := by
  cases xs <;> cases vs <;> first | rfl | simp at h | simp
theorem J_truthyOwn {y : Str} {l : Addr} {ps : List PV} {Φ : Bool → AS → Prop} (ho : σ.own = some (y, l, ps)) (hz : ps.length ≤ sizeLine) (k : Φ (!ps.isEmpty) σ) : J c n fr σ (truthy (.ref l)) Φ := fun A r F s H Q q => by
  obtain ⟨vs, kk, ha, hr⟩ := H.ownAt ho
  have e1 := hr.length
  rw [sizeLine_is] at hz
  refine wpAny_truthy_list (items := vs.toArray) ⟨_, ha, rfl, kk, rfl⟩ (by rw [List.size_toArray]; omega) ?_
  rw [isEmpty_len e1]
  exact q _ σ F s.heap _ k H
theorem J_lenOwn {y : Str} {l : Addr} {ps : List PV} {Φ : Value → AS → Prop} (ho : σ.own = some (y, l, ps)) (hz : ps.length ≤ sizeLine) (k : ∀ t, Φ (.int ps.length t) σ) : J c n fr σ (call (.builtin "len") [.ref l]) Φ := fun A r F s H Q q => by
  obtain ⟨vs, kk, ha, hr⟩ := H.ownAt ho
  have e1 := hr.length
  rw [sizeLine_is] at hz
  refine call_len_list (items := vs.toArray) ⟨_, ha, rfl, kk, rfl⟩ (by rw [List.size_toArray]; omega) ?_
  rw [List.size_toArray, e1]
  exact q _ σ F s.heap _ (k _) H
end
end Mine
end

-- J13
section
open PySem PySem.W PyProof.Rows PySem.Calls
set_option maxRecDepth 100000
namespace Mine
/-- the subscript itself -/
def tailOf (slice : Expr) (o i : Value) : Sem Value := do subscripted slice (← getitemInPython o) o i
section
variable {c : Cx} {n : Nat} {fr : Fc} {σ : AS} {env : Env}
theorem J_letTemp {base : Expr} {o r : Value} {Φ : Unit → AS → Prop} (h : Φ () σ) : J c n fr σ (letTemporaryGo base o r) Φ := J_here (a := ()) (fun A s Q q => wpAny_letTemporaryGo q) h
theorem J_Subscript {value slice : Expr} {pos : Pos} {Φ : Value → AS → Prop} (h : J c n fr σ (eval value env) fun o σ₁ => J c n fr σ₁ (eval slice env) fun i σ₂ => J c n fr σ₂ (tailOf slice o i) Φ) : J c n fr σ (eval (.Subscript value slice pos) env) Φ := by
  rw [arm_eval_Subscript]
  refine J_bind (J_mono h fun o σ₁ q => J_bind (J_holding (J_mono q fun i σ₂ q => J_bind (J_standAt ?_))))
  have e : (do let r ← subscripted slice (← getitemInPython o) o i; letTemporaryGo value o r; pure r) = (tailOf slice o i >>= fun r => letTemporaryGo value o r >>= fun _ => pure r) := by
    unfold tailOf; simp only [bind_assoc]
  rw [e]
  exact J_bind (J_mono q fun r σ₃ q => J_bind (J_letTemp (J_pure q)))
theorem J_tail {T id : String} {slice : Expr} {o i : Value} {Φ : Value → AS → Prop} {ops : List Value} (hT : ∀ F h, Holds c fr F σ h → ∀ s : Shared, s.heap = h → s.TypeIs o T) (hl : typeLookup (.type T) "__getitem__" = pure (some (.builtin id)))
    (hs : subscripted slice false o i = operate ops (getItem o i)) (h : J c n fr σ (getItem o i) Φ) : J c n fr σ (tailOf slice o i) Φ := fun A r F s H Q q => by
  have hT' := hT F s.heap H s rfl
  unfold tailOf
  rw [getitemInPython_of_ne hT'.not_modules]
  refine wpAny_bind (m := do let f ← specialOf o "__getitem__"; _) (wpAny_bind (wpAny_specialOf hT' hl (wpAny_pure ?_)))
  rw [hs]
  exact wpAny_operating (h A r F s H Q q)
theorem J_tailT {slice : Expr} {o i : Value} {xs : List PV} {k : Int} {j : Nat} {p : PV} {Φ : Value → AS → Prop} (ho : Has c σ o (.tup xs)) (hi : Has c σ i (.int k)) (hj : seqIndex? k xs.length = some j) (hp : xs[j]? = some p) (kk : ∀ v, Φ v (σ.push v p)) (hb : -1000000 < k ∧ k < 1000000 := by decide)
    (hs : ∀ o i, subscripted slice false o i = operate [o, i] (getItem o i) := by intro _ _; rfl) : J c n fr σ (tailOf slice o i) Φ :=
  J_tail (T := "tuple") (fun F h H s e => by subst e; obtain ⟨a, vs, nn, rfl, ha, hr⟩ := ho _ _ _ H; exact ⟨_, H.sub _ _ ha, rfl⟩) slot_tuple_getitem.lookup (hs o i) fun A r F s H Q q => by
    obtain ⟨a, vs, nn, rfl, ha, hr⟩ := ho _ _ _ H
    obtain ⟨t, rfl⟩ := hi _ _ _ H
    obtain ⟨v, hv, rv⟩ := hr.get hp
    exact PyProof.Rows.getItem_tuple (⟨_, H.sub _ _ ha, rfl, nn, rfl⟩ : IsTup s.heap a vs.toArray) (by omega) (by omega) (by rw [List.size_toArray, hr.length]; exact hj) (by simpa using hv) (q v _ F s.heap s.toks (kk v) (H.push rv))
theorem J_tailL {slice : Expr} {o i : Value} {xs : List PV} {k : Int} {p : PV} {Φ : Value → AS → Prop} (ho : Has c σ o (.lst xs)) (hi : Has c σ i (.int k)) (hp : xs[k.toNat]? = some p) (kk : ∀ v, Φ v (σ.push v p)) (hb : 0 ≤ k ∧ k < 1000000 := by decide)
    (hs : ∀ o i, subscripted slice false o i = operate [o, i] (getItem o i) := by intro _ _; rfl) : J c n fr σ (tailOf slice o i) Φ :=
  J_tail (T := "list") (fun F h H s e => by subst e; obtain ⟨a, vs, nn, rfl, ha, hr⟩ := ho _ _ _ H; exact ⟨_, H.sub _ _ ha, rfl⟩) list_getitem_lookup (hs o i) fun A r F s H Q q => by
    obtain ⟨a, vs, nn, rfl, ha, hr⟩ := ho _ _ _ H
    obtain ⟨t, rfl⟩ := hi _ _ _ H
    obtain ⟨v, hv, rv⟩ := hr.get hp
    exact wpAny_getItem_list (⟨_, H.sub _ _ ha, rfl, nn, rfl⟩ : s.heap.IsList a vs.toArray) (by omega) (by omega) (by simpa using hv) (q v _ F s.heap s.toks (kk v) (H.push rv))
theorem J_tailS {slice : Expr} {o i : Value} {x : Str} {k : Int} {d : Nat} {Φ : Value → AS → Prop} (ho : Has c σ o (.str x)) (hi : Has c σ i (.int k)) (hd : (seqIndex? k x.length).bind (x.cps[·]?) = some d) (kk : ∀ t, Φ (.str ⟨#[d]⟩ t) σ) (hb : -1000000 < k ∧ k < 1000000 := by decide)
    (hs : ∀ o i, subscripted slice false o i = operate [o, i] (getItem o i) := by intro _ _; rfl) : J c n fr σ (tailOf slice o i) Φ :=
  J_tail (T := "str") (fun F h H s e => by subst e; obtain ⟨t, rfl⟩ := ho _ _ _ H; rfl) PySem.F.slot_str_getitem.lookup (hs o i) fun A r F s H Q q => by
    obtain ⟨t, rfl⟩ := ho _ _ _ H
    obtain ⟨u, rfl⟩ := hi _ _ _ H
    exact P.getItem_str (by rw [decide_eq_false (by omega), decide_eq_false (by omega)]; rfl) hd (q _ σ F s.heap _ (kk _) H)
-- slices
def partIs (v : Value) : Option Int → Prop
  | none => v = .none
  | some k => ∃ t, v = .int k t
theorem Reps.drop {F : PM} : ∀ (k : Nat) {ps : List PV} {vs : List Value}, Reps F ps vs → Reps F (ps.drop k) (vs.drop k)
  | 0, _, _, h => h
  | _ + 1, [], _, h => by rw [show _ = ([] : List Value) from h]; exact Reps.nil
  | k + 1, _ :: _, _, ⟨v, vs', e, _, r⟩ => by rw [e]; exact Reps.drop k r
theorem Reps.take {F : PM} : ∀ (k : Nat) {ps : List PV} {vs : List Value}, Reps F ps vs → Reps F (ps.take k) (vs.take k)
  | 0, _, _, _ => rfl
  | _ + 1, [], _, h => by rw [show _ = ([] : List Value) from h]; exact Reps.nil
  | k + 1, _ :: _, _, ⟨v, vs', e, r, rs⟩ => by rw [e]; exact Reps.cons r (Reps.take k rs)
theorem J_Slice {lower upper : Option Expr} {p : Pos} {Φ : Value → AS → Prop} (h : J c n fr σ (evalPart lower env) fun l σ₁ => J c n fr σ₁ (evalPart upper env) fun u σ₂ => ∀ v, Φ v (σ₂.push v (.raw { cls := .type "slice", data := .fields #[l, u, .none] }))) : J c n fr σ (eval (.Slice lower upper none p) env) Φ := fun A r F s H Q q =>
  wpAny_Slice (h A r F s H _ fun l σ₁ F₁ h₁ tk₁ z₁ H₁ => z₁ A r F₁ { s with heap := h₁, toks := tk₁ } H₁ _ fun u σ₂ F₂ h₂ tk₂ z₂ H₂ => wpAny_pure (by
    have ee := Ext.alloc H₂.sub { cls := .type "slice", data := .fields #[l, u, .none] } rfl
    exact q _ _ _ _ _ (z₂ (.ref h₂.objs.size)) ((H₂.step (Kp.push _ _) ee).push ⟨_, rfl, put_self _ _ _⟩)))
theorem J_partNone {Φ : Value → AS → Prop} (h : Φ .none σ) : J c n fr σ (evalPart none env) Φ := J_pure h
theorem J_partSome {e : Expr} {Φ : Value → AS → Prop} (h : J c n fr σ (eval e env) Φ) : J c n fr σ (evalPart (some e) env) Φ := h
/-- xs[k:] of a list -/
theorem J_fromL {lo up : Option Expr} {st : Option Expr} {sp : Pos} {o i : Value} {xs : List PV} {k : Nat} {t : Tok} {Φ : Value → AS → Prop} (ho : Has c σ o (.lst xs)) (hi : Has c σ i (.raw { cls := .type "slice", data := .fields #[.int k t, .none, .none] })) (hz : xs.length ≤ sizeLine) (kk : ∀ v, Φ v (σ.push v (.lst (xs.drop k)))) :
    J c n fr σ (tailOf (.Slice lo up none sp) o i) Φ :=
  J_tail (T := "list") (fun F h H s e => by subst e; obtain ⟨a, vs, nn, rfl, ha, hr⟩ := ho _ _ _ H; exact ⟨_, H.sub _ _ ha, rfl⟩) list_getitem_lookup (ops := [i, o]) rfl fun A r F s H Q q => by
    obtain ⟨a, vs, nn, rfl, ha, hr⟩ := ho _ _ _ H
    obtain ⟨b, rfl, hb⟩ := hi _ _ _ H
    refine wpAny_getItem_list_slice (items := vs.toArray) (lo := some (k : Int)) (hi := none) (st := none) ⟨_, H.sub _ _ ha, rfl, nn, rfl⟩ ⟨_, H.sub _ _ hb, rfl, rfl⟩ (.int _ t) .none .none (by simp) ?_ (by rw [List.size_toArray, hr.length]; exact hz)
    rw [slicePick_from']
    have ee := Ext.alloc H.sub (lstObj (vs.drop k) 0) rfl
    exact q _ _ _ _ _ (kk (.ref s.heap.objs.size)) ((H.step (Kp.push _ _) ee).push ⟨_, _, _, rfl, put_self _ _ _, (hr.drop k).mono ee.le⟩)
theorem J_uptoL {lo up : Option Expr} {sp : Pos} {o i : Value} {xs : List PV} {k : Nat} {t : Tok} {Φ : Value → AS → Prop} (ho : Has c σ o (.lst xs)) (hi : Has c σ i (.raw { cls := .type "slice", data := .fields #[.none, .int k t, .none] })) (hz : xs.length ≤ sizeLine) (kk : ∀ v, Φ v (σ.push v (.lst (xs.take k)))) :
    J c n fr σ (tailOf (.Slice lo up none sp) o i) Φ :=
  J_tail (T := "list") (fun F h H s e => by subst e; obtain ⟨a, vs, nn, rfl, ha, hr⟩ := ho _ _ _ H; exact ⟨_, H.sub _ _ ha, rfl⟩) list_getitem_lookup (ops := [i, o]) rfl fun A r F s H Q q => by
    obtain ⟨a, vs, nn, rfl, ha, hr⟩ := ho _ _ _ H
    obtain ⟨b, rfl, hb⟩ := hi _ _ _ H
    refine wpAny_getItem_list_slice (items := vs.toArray) (lo := none) (hi := some (k : Int)) (st := none) ⟨_, H.sub _ _ ha, rfl, nn, rfl⟩ ⟨_, H.sub _ _ hb, rfl, rfl⟩ .none (.int _ t) .none (by simp) ?_ (by rw [List.size_toArray, hr.length]; exact hz)
    rw [slicePick_upto']
    have ee := Ext.alloc H.sub (lstObj (vs.take k) 0) rfl
    exact q _ _ _ _ _ (kk (.ref s.heap.objs.size)) ((H.step (Kp.push _ _) ee).push ⟨_, _, _, rfl, put_self _ _ _, (hr.take k).mono ee.le⟩)
theorem J_fromT {lo up : Option Expr} {sp : Pos} {o i : Value} {xs : List PV} {k : Nat} {t : Tok} {Φ : Value → AS → Prop} (ho : Has c σ o (.tup xs)) (hi : Has c σ i (.raw { cls := .type "slice", data := .fields #[.int k t, .none, .none] })) (h1 : 1 ≤ k) (h2 : k ≤ xs.length) (hz : xs.length ≤ sizeLine) (kk : ∀ v, Φ v (σ.push v (.tup (xs.drop k)))) :
    J c n fr σ (tailOf (.Slice lo up none sp) o i) Φ :=
  J_tail (T := "tuple") (fun F h H s e => by subst e; obtain ⟨a, vs, nn, rfl, ha, hr⟩ := ho _ _ _ H; exact ⟨_, H.sub _ _ ha, rfl⟩) slot_tuple_getitem.lookup (ops := [i, o]) rfl fun A r F s H Q q => by
    obtain ⟨a, vs, nn, rfl, ha, hr⟩ := ho _ _ _ H
    obtain ⟨b, rfl, hb⟩ := hi _ _ _ H
    refine getItem_tuple_from (items := vs.toArray) (⟨_, H.sub _ _ ha, rfl, nn, rfl⟩ : IsTup s.heap a vs.toArray) ⟨_, H.sub _ _ hb, rfl, rfl⟩ h1 (by rw [List.size_toArray, hr.length]; exact h2) ?_ (by rw [List.size_toArray, hr.length]; exact hz)
    have ee := Ext.alloc H.sub (tupObj (vs.drop k) 0) rfl
    exact q _ _ _ _ _ (kk (.ref s.heap.objs.size)) ((H.step (Kp.push _ _) ee).push ⟨_, _, _, rfl, put_self _ _ _, (hr.drop k).mono ee.le⟩)
-- len and truth
theorem J_lenL {v : Value} {xs : List PV} {Φ : Value → AS → Prop} (hv : Has c σ v (.lst xs)) (hz : xs.length ≤ sizeLine) (k : ∀ t, Φ (.int xs.length t) σ) : J c n fr σ (call (.builtin "len") [v]) Φ := fun A r F s H Q q => by
  obtain ⟨a, vs, nn, rfl, ha, hr⟩ := hv _ _ _ H
  have e1 := hr.length
  rw [sizeLine_is] at hz
  refine call_len_list (items := vs.toArray) ⟨_, H.sub _ _ ha, rfl, nn, rfl⟩ (by rw [List.size_toArray]; omega) ?_
  rw [List.size_toArray, e1]
  exact q _ σ F s.heap _ (k _) H
theorem J_truthyL {v : Value} {xs : List PV} {Φ : Bool → AS → Prop} (hv : Has c σ v (.lst xs)) (hz : xs.length ≤ sizeLine) (k : Φ (!xs.isEmpty) σ) : J c n fr σ (truthy v) Φ := fun A r F s H Q q => by
  obtain ⟨a, vs, nn, rfl, ha, hr⟩ := hv _ _ _ H
  have e1 := hr.length
  rw [sizeLine_is] at hz
  refine wpAny_truthy_list (items := vs.toArray) ⟨_, H.sub _ _ ha, rfl, nn, rfl⟩ (by rw [List.size_toArray]; omega) ?_
  rw [isEmpty_len e1]
  exact q _ σ F s.heap _ k H
-- identity
theorem J_isB {neg : Bool} {a b : Value} {op : CmpOp} {Φ : Value → AS → Prop} (h : J c n fr σ (isSame a b) fun r σ' => Φ (.bool (neg != r)) σ') (ho : op = if neg then .IsNot else .Is := by rfl) : J c n fr σ (compareOp op a b) Φ := by
  subst ho
  cases neg with
  | false =>
    show J c n fr σ (do return .bool (← isSame a b)) Φ
    exact J_bind (J_mono h fun b σ' z => J_pure (by simpa using z))
  | true =>
    show J c n fr σ (do return .bool (!(← isSame a b))) Φ
    exact J_bind (J_mono h fun b σ' z => J_pure (by simpa using z))
def isNoneP : PV → Bool
  | .none => true
  | _ => false
theorem J_isNone {v : Value} {p : PV} {Φ : Bool → AS → Prop} (hv : Has c σ v p) (hp : p = .none ∨ ∃ e : Ex, p = e.pv) (k : Φ (isNoneP p) σ) : J c n fr σ (isSame v .none) Φ := fun A r F s H Q q => by
  have rv := hv _ _ _ H
  rcases hp with rfl | ⟨e, rfl⟩
  · obtain rfl : v = .none := rv
    exact wpAny_pure (q _ σ F s.heap s.toks k H)
  · cases e with
    | b u =>
      obtain rfl : v = .bool u := rv
      exact wpAny_pure (q _ σ F s.heap s.toks k H)
    | f f =>
      obtain ⟨x, es, rfl, _⟩ := RepF.inst (show RepF F f v from rv)
      exact wpAny_pure (q _ σ F s.heap s.toks k H)
theorem J_isBool {a b : Bool} {Φ : Bool → AS → Prop} (k : Φ (a == b) σ) : J c n fr σ (isSame (.bool a) (.bool b)) Φ := fun A r F s H Q q => by
  have e : (Value.bool a == Value.bool b) = (a == b) := by cases a <;> cases b <;> rfl
  show wpAny _ _ (pure (Value.bool a == Value.bool b)) _ _ _
  rw [e]
  exact wpAny_pure (q _ σ F s.heap s.toks k H)
theorem J_isFm {v w : Value} {f g : Fm} {Φ : Bool → AS → Prop} (hv : Has c σ v (.fm f)) (hw : Has c σ w (.fm g)) (k : ∀ b, (b = true → f = g) → Φ (v == w) σ) : J c n fr σ (isSame v w) Φ := fun A r F s H Q q => by
  have rv := hv _ _ _ H
  have rw' := hw _ _ _ H
  obtain ⟨x, es, rfl, ⟨d, m, i1, i2⟩, _⟩ := RepF.inst (show RepF F f v from rv)
  obtain ⟨y, es', rfl, ⟨d', m', i1', i2'⟩, _⟩ := RepF.inst (show RepF F g w from rw')
  by_cases e : x = y
  · subst e
    unfold isSame
    dsimp only
    rw [if_pos (beq_self_eq_true x)]
    have := q _ σ F s.heap s.toks (k true fun _ => rep_eq rv rw') H
    rw [beq_self_eq_true] at this
    exact wpAny_pure this
  · refine wpAny_isSame_ref_other e (H.sub _ _ i1) (H.sub _ _ i1') (by intro z; cases z) ?_
    have e2 : (Value.ref x == Value.ref y) = false := by simpa using e
    have := q _ σ F s.heap s.toks (k false fun z => by cases z) H
    rw [e2] at this
    exact this
end
end Mine
end

-- J14
section
open PySem PySem.W PyProof.Rows PySem.Calls
set_option maxRecDepth 100000
namespace Mine
/-- what may be walked by an iterator of its own -/
def IterK (c : Cx) (n : Nat) (fr : Fc) (σ : AS) (x : Value) (xs : List PV) : Prop :=
  ∀ A, Rm n fr.env fr.stk A → ∀ F s, Holds c fr F σ s.heap → ∀ Q : Value → Shared → Prop,
    (∀ it F' h' tk fz P o, Iter c n it fz P → Kp s.heap h' → Ext F F' s.heap h' → s.heap.get? it = none → h'.get? it = some o → P xs o → fz F' → F' it = none → Q (.ref it) { s with heap := h', toks := tk }) → wpAny c.M A (pyIter x) Q (fun _ _ => False) s
theorem Holds.freeNew {c : Cx} {fr : Fc} {F : PM} {σ : AS} {h : Heap} (H : Holds c fr F σ h) {a : Addr} (n : h.get? a = none) : Free fr F σ a ∧ ∀ q ∈ fr.pin, q.1 ≠ a := by
  obtain ⟨m, cm, L⟩ := H.loc
  refine ⟨⟨H.sub.off n, fun e => ?_, H.keep.none n, fun x d z e => ?_, fun x l ps z e => ?_⟩, fun q hq e => ?_⟩
  · obtain ⟨o, _, _, ho, _⟩ := L.ns
    rw [← e, n] at ho; cases ho
  · obtain ⟨⟨o, b1, _⟩, _⟩ := L.cell x d z
    rw [← e, n] at b1; cases b1
  · obtain ⟨_, _, ⟨vs, nn, a3, _⟩, _⟩ := L.own x l ps z
    rw [← e, n] at a3; cases a3
  · have := (L.pin q hq).1
    rw [e, n] at this; cases this
theorem Free.step {fr : Fc} {F F' : PM} {σ : AS} {a : Addr} (Z : Free fr F σ a) (n : F' a = none) : Free fr F' σ a := ⟨n, Z.loc, Z.new, Z.cell, Z.own⟩
theorem IterK.of {c : Cx} {n : Nat} {fr : Fc} {σ : AS} {x : Value} {xs : List PV} (I : IterK c n fr σ x xs) : IterOf c n fr σ x xs := fun A r F s H Q q =>
  I A r F s H Q fun it F' h' tk fz P o i kp ex nit ho hP hf hF => by
    obtain ⟨Z, hp⟩ := H.freeNew nit
    exact q it F' h' tk fz P o i (H.step kp ex) ho hP hf (Z.step hF) hp
theorem iterK_tup {c : Cx} {n : Nat} {fr : Fc} {σ : AS} {x : Value} {xs : List PV} (hx : Has c σ x (.tup xs)) : IterK c n fr σ x xs := fun A r F s H Q q => by
  obtain ⟨a, vs, k, rfl, ha, hr⟩ := hx _ _ _ H
  refine iter_tuple (⟨_, H.sub _ _ ha, rfl, k, rfl⟩ : IsTup s.heap a vs.toArray) ?_
  exact q s.heap.objs.size F _ _ _ _ _ (iter_tup c n s.heap.objs.size a vs k xs) (Kp.push _ _) (Ext.keep H.sub (Kp.push _ _)) (none_size _) (Heap.get?_push_size _ rfl) ⟨0, rfl, rfl, rfl⟩ ⟨ha, hr⟩ (H.sub.off (none_size _))
theorem iterK_lst {c : Cx} {n : Nat} {fr : Fc} {σ : AS} {x : Value} {xs : List PV} (hx : Has c σ x (.lst xs)) : IterK c n fr σ x xs := fun A r F s H Q q => by
  obtain ⟨a, vs, k, rfl, ha, hr⟩ := hx _ _ _ H
  refine wpAny_pyIter_list (⟨_, H.sub _ _ ha, rfl, k, rfl⟩ : s.heap.IsList a vs.toArray) ?_
  exact q s.heap.objs.size F _ _ _ _ _ (iter_lst c n s.heap.objs.size a vs k xs) (Kp.push _ _) (Ext.keep H.sub (Kp.push _ _)) (none_size _) (Heap.get?_push_size _ rfl) ⟨0, rfl, rfl, rfl⟩ ⟨ha, hr⟩ (H.sub.off (none_size _))

/-- what a comprehension's elements are asked -/
def CompEl (c : Cx) (n : Nat) (fr : Fc) (scope : Scope) (cl : List (Str × Addr)) (ρ₂ : List (Str × PV)) (κ : List (Value × PV)) (target elt : Expr) (ifs : List Expr) (xs : List PV) (g : PV → Option PV) : Prop :=
  ∀ p ∈ xs, ∀ s₁ F₁ C pin v, J c n (cfr fr scope cl s₁ F₁ C pin) ⟨ρ₂, none, (v, p) :: κ⟩ (assign target (compEnvC scope cl C fr.env) v) fun _ σ₁ => J c n (cfr fr scope cl s₁ F₁ C pin) σ₁ (compOk ifs (compEnvC scope cl C fr.env)) fun ok σ₂ =>
      if ok then ∃ q, g p = some q ∧ J c n (cfr fr scope cl s₁ F₁ C pin) σ₂ (eval elt (compEnvC scope cl C fr.env)) fun w σ₃ => Has c σ₃ w q else g p = none
/-- what the comprehension sees of the frame about it -/
def Sees (fr : Fc) (scope : Scope) (cl : List (Str × Addr)) (ρ ρ₂ : List (Str × PV)) : Prop :=
  ∀ q ∈ ρ₂, ρ.lookup q.1 = some q.2 ∧ (∀ C, Env.kindOf (compEnvC scope cl C fr.env) q.1 = some .cell ∨ Env.kindOf (compEnvC scope cl C fr.env) q.1 = some .free) ∧ fr.env.kindOf q.1 ≠ some .local ∧ cl.lookup q.1 = fr.env.cells.lookup q.1
theorem Sees.nil {fr : Fc} {scope : Scope} {cl : List (Str × Addr)} {ρ : List (Str × PV)} : Sees fr scope cl ρ [] := fun _ h => by cases h
theorem Holds.sees {c : Cx} {fr : Fc} {F : PM} {σ : AS} {h : Heap} {scope : Scope} {cl : List (Str × Addr)} {ρ₂ : List (Str × PV)} (H : Holds c fr F σ h) (hs : Sees fr scope cl σ.ρ ρ₂) (C : Addr) :
    ∀ q ∈ ρ₂, (Env.kindOf (compEnvC scope cl C fr.env) q.1 = some .cell ∨ Env.kindOf (compEnvC scope cl C fr.env) q.1 = some .free) ∧ ∃ v d, Rep F q.2 v ∧ cl.lookup q.1 = some d ∧ h.IsCell d (some v) := fun q hq => by
  obtain ⟨m, cm, L⟩ := H.loc
  obtain ⟨h1, h2, h3, h4⟩ := hs q hq
  refine ⟨h2 C, ?_⟩
  obtain ⟨v, r, z⟩ := L.val _ _ h1
  rcases z with ⟨z, _⟩ | ⟨z1, d, z2, z3, z4⟩ | ⟨z1, d, z2, z3⟩
  · exact absurd z h3
  · have := (L.cell _ d z3).1
    rw [z4] at this
    exact ⟨v, d, r, h4.trans z2, this⟩
  · exact ⟨v, d, r, h4.trans z2, H.keep.w.cell z3⟩
theorem comp_all {c : Cx} {n : Nat} {fr : Fc} {σ : AS} {scope : Scope} {cl : List (Str × Addr)} {target elt iter : Expr} {ifs : List Expr} {pos p0 : Pos} {ρ₂ : List (Str × PV)} {g : PV → Option PV} {use : Option (Value → Sem Unit)} {first : Sem Value} {Ψ : AS → List PV → Prop}
    (h : J c n fr σ first fun x σ₁ => ∃ xs, IterK c n fr σ₁ x xs ∧ CompEl c n fr scope cl ρ₂ σ₁.κ target elt ifs xs g ∧ Sees fr scope cl σ₁.ρ ρ₂ ∧ xs.length ≤ 1000000 ∧ Ψ σ₁ xs)
    (hs : ∀ x, foldedSetIterable iter fr.env x = pure x) (hclos : closureFor scope fr.env = pure cl) (hcell : ∀ y ∈ scope.names, y.2 ≠ .cell) (hkind : scope.kind = .function) (hnames : ∀ y ∈ scope.names, y.2 = .local → scope.names.lookup y.1 = some .local) (ht : ∀ it v, letOwnedTupleGo target it v = pure ())
    {A : Around} (r : Rm n fr.env fr.stk A) {F : PM} {s : Shared} (H : Holds c fr F σ s.heap) {Q : Value → Shared → Prop}
    (q : ∀ σ₁ xs F' h' tk D C m, Ψ σ₁ xs → Holds c fr F' (σ₁.push (.ref D) (.lst (xs.filterMap g))) h' → h'.Ns C m → Free fr F' σ₁ C → (∀ z ∈ fr.pin, z.1 ≠ C) → compPost c.M A (fun _ _ => False) use Q (.ref D) C (.ok .next) { s with heap := h', toks := tk }) :
    wpAny c.M A (comprehension (.ListComp elt [⟨target, iter, ifs, 0⟩] scope pos) scope fr.env p0 (newList []) false first use) Q (fun _ _ => False) s := by
  refine wpAny_comprehension_free (g := ⟨target, iter, ifs, 0⟩) (gs := []) rfl hs hclos hkind hnames ?_
  refine h A r F s H _ fun x σ₁ F₁ h₁ tk₁ z H₁ => ?_
  obtain ⟨xs, I, hel, hsee, hz, hΨ⟩ := z
  refine I A r F₁ { s with heap := h₁, toks := tk₁ } H₁ _ fun it F₂ h₂ tk₂ fz P o i kp ex nit ho hP hf hF => ?_
  refine wpAny_newObj_type (wpAny_newFunctionEnv hcell (by intro y hy; simp at hy) (fun h₃ hns₃ hsb₃ => ?_) hkind)
  dsimp only at hns₃ hsb₃ ⊢
  generalize hH2 : h₂.push { cls := .type "list", dict := none, data := .seq ([] : List Value).toArray } = H2 at hns₃ hsb₃ ⊢
  have sz : H2.objs.size = h₂.objs.size + 1 := by rw [← hH2, Heap.size_push]
  have nD : h₂.get? h₂.objs.size = none := none_size h₂
  have nC : h₂.get? H2.objs.size = none := by rw [sz]; exact Heap.get?_none_of_le (Nat.le_succ _)
  have hCD : H2.objs.size ≠ h₂.objs.size := by rw [sz]; exact Nat.succ_ne_self _
  have k₃ : Kp h₂ h₃ := fun a o e => hsb₃.extBut a o (fun z => by rw [z, nC] at e; cases e) (Heap.get?_push_of_some _ (hH2 ▸ Heap.get?_push_of_some _ e))
  have hCi : H2.objs.size ≠ it := fun e => by rw [← e, nC] at ho; cases ho
  have hDi : h₂.objs.size ≠ it := fun e => by rw [← e, nD] at ho; cases ho
  have hD₃ : h₃.get? h₂.objs.size = some (lstObj [] 0) := hsb₃.extBut _ _ (Ne.symm hCD) (Heap.get?_push_of_some _ (hH2 ▸ Heap.get?_push_size _ rfl))
  have ex₃ : Ext F₁ F₂ h₁ h₃ := ⟨ex.le, ex.sub.kp k₃, ex.new⟩
  have loop : codeAny c.M A (.compLoop (.ListComp elt [⟨target, iter, ifs, 0⟩] scope pos) 0 (.ref it) (.ref h₂.objs.size) (compEnvC scope cl H2.objs.size fr.env)) (compPost c.M A (fun _ _ => False) use Q (.ref h₂.objs.size) H2.objs.size) { s with heap := h₃, toks := tk₂ } := by
    refine comp_loop (s₁ := { s with heap := h₁, toks := tk₁ }) (κ := σ₁.κ) i r.1 (H₁.baseF.mono ex.le) (by simp [compEnvC, relabel, hkind]) ex₃.sub (kp.trans k₃) (k₃ _ _ ho) hP hf ⟨_, hns₃⟩ ⟨⟨[], 0, hD₃, Reps.nil⟩, ex.sub.off nD⟩ nit (kp.none nC) (kp.none nD) hF (ex.sub.off nC) hCi hCD hDi
      (fun z hz => (H₁.tmp z hz).mono ex.le) (fun z hz => ?_) (fun p hp F₁' pin v => hel p hp _ F₁' _ pin v) hz (ht _) fun F' h' tk le hS' hk' hn' hC' hm' hD' => ?_
    · obtain ⟨a1, v, d, a2, a3, a4⟩ := H₁.sees hsee H2.objs.size z hz
      exact ⟨a1, v, d, a2.mono ex.le, a3, a4⟩
    · obtain ⟨⟨ys, kk, b1, b2⟩, b3⟩ := hD'
      obtain ⟨m, hm⟩ := hm'
      have hD1 : h₁.get? h₂.objs.size = none := kp.none nD
      have le2 : Le F' (put F' h₂.objs.size (lstObj ys kk)) := Le.put b3
      have ex' : Ext F₁ (put F' h₂.objs.size (lstObj ys kk)) h₁ h' := ⟨(ex.le.trans le).trans le2, fun a x e => by
          unfold put at e; split at e
          · rename_i w; subst w; cases e; exact b1
          · exact hS' a x e, fun a x e => by
          unfold put at e; split at e
          · rename_i w; subst w; exact .inr hD1
          · rcases hn' a x e with w | w
            · exact ex.new a x w
            · exact .inr w⟩
      have H' := (H₁.step hk' ex').push (v := .ref h₂.objs.size) (p := .lst (xs.filterMap g)) ⟨_, ys, kk, rfl, put_self _ _ _, b2.mono le2⟩
      obtain ⟨Z, hp⟩ := H₁.freeNew (kp.none nC)
      exact q σ₁ xs _ h' tk _ _ m hΨ H' hm (Z.step (by rw [put_ne hCD]; exact hC')) hp
  exact codeAny_compStart_list loop (wpAny_mono (i.self A { s with heap := h₃, toks := tk₂ } o xs (k₃ _ _ ho) hP (fun v s' => v = .ref it ∧ s' = { s with heap := h₃, toks := tk₂ }) ⟨rfl, rfl⟩) (fun v s' z => by obtain ⟨rfl, rfl⟩ := z; exact loop) fun _ _ z => z.elim)
section
variable {c : Cx} {n : Nat} {fr : Fc} {σ : AS}
theorem J_ListComp {scope : Scope} {cl : List (Str × Addr)} {target elt iter : Expr} {ifs : List Expr} {pos : Pos} {ρ₂ : List (Str × PV)} {g : PV → Option PV} {Φ : Value → AS → Prop}
    (h : J c n fr σ (eval iter fr.env) fun x σ₁ => ∃ xs, IterK c n fr σ₁ x xs ∧ CompEl c n fr scope cl ρ₂ σ₁.κ target elt ifs xs g ∧ Sees fr scope cl σ₁.ρ ρ₂ ∧ xs.length ≤ 1000000 ∧ ∀ v, Φ v (σ₁.push v (.lst (xs.filterMap g))))
    (hclos : closureFor scope fr.env = pure cl) (hcell : ∀ y ∈ scope.names, y.2 ≠ .cell := by decide) (hkind : scope.kind = .function := by rfl) (hnames : ∀ y ∈ scope.names, y.2 = .local → scope.names.lookup y.1 = some .local := by decide) (hs : ∀ x, foldedSetIterable iter fr.env x = pure x := by intro _; rfl) (ht : ∀ it v, letOwnedTupleGo target it v = pure () := by intro _ _; rfl) :
    J c n fr σ (eval (.ListComp elt [⟨target, iter, ifs, 0⟩] scope pos) fr.env) Φ := fun A r F s H Q q => by
  rw [eval_ListComp]
  refine comp_all (use := none) (g := g) (Ψ := fun σ₁ xs => ∀ v, Φ v (σ₁.push v (.lst (xs.filterMap g)))) h hs hclos hcell hkind hnames ht r H fun σ₁ xs F' h' tk D C m hΨ H' hm Z hp => ?_
  exact ⟨m, hm, fun h'' hs'' => q _ _ F' h'' tk (hΨ _) (H'.extBut ⟨Z.off, Z.loc, Z.new, Z.cell, Z.own⟩ hp hs''.extBut)⟩
/-- x = [comprehension], on one line -/
theorem J_AssignComp {x : Str} {xp : Pos} {scope : Scope} {cl : List (Str × Addr)} {target elt iter : Expr} {ifs : List Expr} {pos spos : Pos} {ρ₂ : List (Str × PV)} {g : PV → Option PV} {Φ : Flow → AS → Prop}
    (h : J c n fr σ (eval iter fr.env) fun z σ₁ => ∃ xs, IterK c n fr σ₁ z xs ∧ CompEl c n fr scope cl ρ₂ σ₁.κ target elt ifs xs g ∧ Sees fr scope cl σ₁.ρ ρ₂ ∧ xs.length ≤ 1000000 ∧ σ₁.own.all (fun y => y.1 != x) = true ∧ ∀ v, Φ .next ⟨(x, .lst (xs.filterMap g)) :: σ₁.ρ, σ₁.own, (v, .lst (xs.filterMap g)) :: σ₁.κ⟩)
    (hx : fr.env.kindOf x = some .local) (hsw : swapsWithSole [.Name x xp] (.ListComp elt [⟨target, iter, ifs, 0⟩] scope pos) spos.line fr.env = pure true := by rfl)
    (hclos : closureFor scope fr.env = pure cl) (hcell : ∀ y ∈ scope.names, y.2 ≠ .cell := by decide) (hkind : scope.kind = .function := by rfl) (hnames : ∀ y ∈ scope.names, y.2 = .local → scope.names.lookup y.1 = some .local := by decide) (hs : ∀ x, foldedSetIterable iter fr.env x = pure x := by intro _; rfl) (ht : ∀ it v, letOwnedTupleGo target it v = pure () := by intro _ _; rfl) :
    J c n fr σ (exec (.Assign [.Name x xp] (.ListComp elt [⟨target, iter, ifs, 0⟩] scope pos) spos) fr.env) Φ := fun A r F s H Q q => by
  rw [arm_exec_Assign, hsw]
  refine wpAny_bind (wpAny_standAt (wpAny_bind (wpAny_pure ?_)))
  rw [if_pos rfl]
  refine wpAny_bind (m := evalThenUse _ _ _) ?_
  unfold evalThenUse
  refine wpAny_bind ?_
  refine comp_all (g := g) (Ψ := fun σ₁ xs => σ₁.own.all (fun y => y.1 != x) = true ∧ ∀ v, Φ .next ⟨(x, .lst (xs.filterMap g)) :: σ₁.ρ, σ₁.own, (v, .lst (xs.filterMap g)) :: σ₁.κ⟩) (J_mono h fun z σ₁ ⟨xs, a, b, d, e, f, k⟩ => ⟨xs, a, b, d, e, f, k⟩) hs hclos hcell hkind hnames ht r H fun σ₁ xs F' h' tk D C m hΨ H' hm Z hp => ?_
  show wpAny _ _ (assignAll (.ref D) ((assignEach [.Name x xp] fr.env).map (·.2))) _ _ _
  refine wpAny_mono (PyProof.Rows.assign_Name (Q := fun _ s' => ∃ h2 tk2, s' = { s with heap := h2, toks := tk2 } ∧ Holds c fr F' ⟨(x, .lst (xs.filterMap g)) :: σ₁.ρ, σ₁.own, (.ref D, .lst (xs.filterMap g)) :: σ₁.κ⟩ h2 ∧ Heap.SameBut fr.env.locals h' h2) (store_wp (s := { s with heap := h', toks := tk }) H' (H'.tmp (.ref D, .lst (xs.filterMap g)) (.head _)) hx hΨ.1 fun h2 tk2 H2 hs2 => ⟨h2, tk2, rfl, H2, hs2⟩)) (fun _ s' z => ?_) fun _ _ y => y
  obtain ⟨h2, tk2, rfl, H2, hs2⟩ := z
  exact ⟨m, hm.sameBut hs2 Z.loc, fun h3 hs3 => wpAny_pure (wpAny_pure (q _ _ F' h3 _ (hΨ.2 _) (H2.extBut ⟨Z.off, Z.loc, Z.new, Z.cell, Z.own⟩ hp hs3.extBut)))⟩
end
end Mine
end

-- J15
section
open PySem PySem.W PyProof.Rows PySem.Calls
set_option maxRecDepth 100000
set_option maxHeartbeats 4000000
namespace Mine
/-- a class whose __new__ is Python's -/
structure NewK (K : Frag) (C nf p : Addr) : Prop where
  cls : ∃ oc od cd sl, K.lookup C = some ⟨oc, od, .cls cd, sl⟩ ∧ cd.mro.isEmpty = false ∧ (sl.toList[4]?).join = some .none
  call : specialIn K (.ref C) "__call__" = some (some (.builtin "type.__call__"))
  typ : instIn K (.ref C) (.type "type") = some true
  reads : readsIn K C (.type "type") = true
  get : findCls K (.ref C) (.type "type") "__new__" = some (.get (.builtin "staticmethod.__get__") (.ref p) .none (.ref C))
  rec_ : ∃ rest, recIn K p "staticmethod" = some (.ref nf :: rest)
theorem newK_and (w : World) : NewK (KK w) 268 234 248 := ⟨⟨_, _, _, _, rfl, rfl, rfl⟩, by kernel_rfl, by kernel_rfl, by kernel_rfl, by kernel_rfl, [], by kernel_rfl⟩
theorem newK_or (w : World) : NewK (KK w) 349 234 248 := ⟨⟨_, _, _, _, rfl, rfl, rfl⟩, by kernel_rfl, by kernel_rfl, by kernel_rfl, by kernel_rfl, [], by kernel_rfl⟩
theorem newK_not (w : World) : NewK (KK w) 385 145 220 := ⟨⟨_, _, _, _, rfl, rfl, rfl⟩, by kernel_rfl, by kernel_rfl, by kernel_rfl, by kernel_rfl, [], by kernel_rfl⟩
theorem newK_xor (w : World) : NewK (KK w) 409 400 410 := ⟨⟨_, _, _, _, rfl, rfl, rfl⟩, by kernel_rfl, by kernel_rfl, by kernel_rfl, by kernel_rfl, [], by kernel_rfl⟩
theorem newK_imp (w : World) : NewK (KK w) 448 145 220 := ⟨⟨_, _, _, _, rfl, rfl, rfl⟩, by kernel_rfl, by kernel_rfl, by kernel_rfl, by kernel_rfl, [], by kernel_rfl⟩
theorem newK_eqv (w : World) : NewK (KK w) 481 462 482 := ⟨⟨_, _, _, _, rfl, rfl, rfl⟩, by kernel_rfl, by kernel_rfl, by kernel_rfl, by kernel_rfl, [], by kernel_rfl⟩
theorem newK_kd (w : World) (k : Kd) : ∃ nf p, NewK (KK w) (kC k) nf p := by
  cases k
  · exact ⟨_, _, newK_and w⟩
  · exact ⟨_, _, newK_or w⟩
  · exact ⟨_, _, newK_not w⟩
  · exact ⟨_, _, newK_xor w⟩
  · exact ⟨_, _, newK_imp w⟩
  · exact ⟨_, _, newK_eqv w⟩
theorem inst_kd (w : World) (k : Kd) (f : Fm) : ∃ b, subIn (KK w) (.ref (clsOf f)) (.ref (kC k)) = some b ∧ (b = true → ∃ as, f = .node k as) := by
  cases f with
  | sym i => exact ⟨false, by cases k <;> kernel_rfl, nofun⟩
  | node l as =>
    by_cases e : l = k
    · subst e; exact ⟨true, by cases l <;> kernel_rfl, fun _ => ⟨as, rfl⟩⟩
    · refine ⟨false, ?_, nofun⟩
      cases l <;> cases k <;> first | exact absurd rfl e | kernel_rfl
theorem bool_kd (w : World) (k : Kd) : subIn (KK w) (.type "bool") (.ref (kC k)) = some false := by cases k <;> kernel_rfl
theorem init_kd (w : World) (k : Kd) : findIn (KK w) (.ref (kC k)) "__init__" = some (some (.builtin "object.__init__")) := by cases k <;> kernel_rfl
theorem obj_kd (w : World) (k : Kd) : subIn (KK w) (.ref (kC k)) (.type "object") = some true := by cases k <;> kernel_rfl
section
variable {prog : Program} {w : World} {A : Around} {E : Value → Shared → Prop} {s : Shared} {K : Frag}
theorem madeBy_none {M : Model} {h : Heap} {C nf p : Addr} (X : K.In h) (N : NewK K C nf p) : Looks M h (Bind.madeBy (.ref C)) none := by
  obtain ⟨oc, od, cd, sl, ho, e4, e3⟩ := N.cls
  have hc : clsIn K C = some cd := by unfold clsIn; rw [ho]
  have hm : Looks M h (mroOf (.ref C)) cd.mro := (looks_clsIn X hc).andThen .now
  obtain ⟨c, l, hl⟩ : ∃ c l, cd.mro = c :: l := by cases q : cd.mro with | nil => rw [q] at e4; cases e4 | cons c l => exact ⟨c, l, rfl⟩
  intro A Q E s k q
  unfold Bind.madeBy
  refine wpAny_bind (hm A _ E s k ?_)
  rw [hl, List.forIn_cons]
  refine wpAny_bind (wpAny_bind (wpAny_bind (wpAny_bind (wpAny_loadPart (k _ _ (X _ _ ho)) (wpAny_pure ?_)))))
  dsimp only
  rw [← Array.getElem?_toList, e3]
  exact wpAny_pure (wpAny_pure (wpAny_pure q))
theorem init_args (a : Value) (rest : List Value) (kw : List (Str × Value)) : argsOk "object.__init__" ⟨a :: rest, kw⟩ := by unfold argsOk; kernel_rfl
theorem new_get {C nf p : Addr} {ex : Bool} {Q : Value → Shared → Prop} (X : K.In s.heap) (N : NewK K C nf p) (h : Q (.ref nf) { s with toks := s.toks + 1 }) : wpAny (model prog w) A (getAttr (.ref C) "__new__" ex) Q E s := by
  obtain ⟨rest, hrec⟩ := N.rec_
  exact cls_bind X N.reads N.get (wpAny_call (sm_get (s := { s with toks := s.toks + 1 }) X hrec (handed_on rfl h)))
theorem oi_call {k : Kd} {nf p x : Addr} {vs : List Value} {kvs : List (Str × Value)} {Q : Value → Shared → Prop} (X : (KK w).In s.heap) (N : NewK (KK w) (kC k) nf p) (hT : Looks (model prog w) s.heap (typeOf (.ref x)) (.ref (kC k))) (q : Q .none s) :
    wpAny (model prog w) A (call (.builtin "object.__init__") ([.ref x] ++ vs) kvs) Q E s := by
  show wpAny _ _ (call _ (.ref x :: vs) kvs) _ _ _
  have i1 : Looks (model prog w) s.heap (typeLookup (.ref (kC k)) "__init__") (some (.builtin "object.__init__")) := looks_findIn X (init_kd w k)
  have m1 : Looks (model prog w) s.heap (Bind.madeBy (.ref (kC k))) none := madeBy_none X N
  have t2 : Looks (model prog w) s.heap (isInstance (.ref x) (.type "object")) true := hT.andThen (looks_subIn X (obj_kd w k))
  refine wpAny_call (codeAny_call_builtin oi_plain entry_oi (@check_slot (model prog w) _ _ s "object.__init__" "object" "__init__" (.ref x) vs kvs _ oi_kind oi_split t2 (init_args (.ref x) vs kvs) ?_))
  obtain ⟨h, g, d, tk, os⟩ := s
  unfold Builtin.«object.__init__»
  dsimp only
  split
  · repeat (first | lk)
    exact q
  · exact wpAny_pure q
end
theorem CT_new {c : Cx} {m : Nat} {k : Kd} {nf p : Addr} {ps : List PV} {kws : List (Str × PV)} {e : Ex} (N : NewK (KK c.w) (kC k) nf p) (h : CT c m (.ref nf) (.val (.ref (kC k)) :: ps) kws e.pv) : CT c (m + 2) (.ref (kC k)) ps kws e.pv := by
  intro vs kvs A r F s hB hS hP hK Q hQ
  have X := hB.inK hS
  obtain ⟨oc, od, cd, sl, hC, e4, e3⟩ := N.cls
  have hCs := X _ _ hC
  obtain ⟨rest', hrec⟩ := N.rec_
  obtain ⟨hp, g, d, tk, os⟩ := s
  have call := looks_specialIn (M := c.M) X N.call
  have typ := looks_instIn (M := c.M) X N.typ
  have made := madeBy_none (M := c.M) X N
  refine codeAny_of_tree ?_
  show wpAny _ _ (callAny (.ref (kC k)) _) _ _ _
  refine nd_load hCs ?_
  show wpAny _ _ (callAny.viaDunder (.ref (kC k)) _) _ _ _
  unfold callAny.viaDunder
  refine wpAny_bind (call.at ?_)
  dsimp only
  rw [tc_bind]
  refine wpAny_bind (wpAny_pure (wpAny_bind (wpAny_pure ?_)))
  refine wpAny_pure (a := Fin.again (.call (.builtin "type.__call__") ⟨.ref (kC k) :: vs, kvs⟩)) (And.intro rfl ?_)
  refine codeAny_call_builtin_at (Code.quiet_builtin _ (by decide +kernel)) entry_typeCall (@check_slot c.M _ _ ⟨hp, g, d, tk, os⟩ "type.__call__" "type" "__call__" (.ref (kC k)) vs kvs _ tc_kind tc_split typ (tc_args (.ref (kC k)) vs kvs) ?_)
  unfold Builtin.«type.__call__»
  have hm : Looks c.M hp (mroOf (.ref (kC k))) cd.mro := ((Looks.ld (part := none) hCs).andThen .now).andThen .now
  repeat (first | simp only [e4, Bool.false_eq_true, if_false] | (with_reducible refine new_get X N ?_) | with_reducible refine wpAny_call ?_ | lk)
  have r' : Room m (A.under (Code.builtin "type.__call__" { pos := Value.ref (kC k) :: vs, kw := kvs })) := by
    have e1 : (Code.builtin "type.__call__" { pos := Value.ref (kC k) :: vs, kw := kvs }).weight = 1 := by rfl
    have e2 : (Code.builtin "type.__call__" { pos := Value.ref (kC k) :: vs, kw := kvs }).cUnits = 1 := by rfl
    refine ⟨?_, ?_, r.2.2⟩
    · show A.depth + (Code.builtin "type.__call__" { pos := Value.ref (kC k) :: vs, kw := kvs }).weight + 2 * m < 1000
      rw [e1]; have := r.1; omega
    · show A.units + (Code.builtin "type.__call__" { pos := Value.ref (kC k) :: vs, kw := kvs }).cUnits + 30 * m < 9900
      rw [e2]; have := r.2.1; omega
  refine codeAny_mono (h (.ref (kC k) :: vs) kvs _ r' F ⟨hp, g, d, tk + 1, os⟩ hB hS (Reps.cons rfl hP) hK (fun v s' => wpAny c.M _ (do
            let __do_lift ← isInstance v (Value.ref (kC k))
            if (!__do_lift) = true then do
                rule "type.call.new-gave-other-type"
                ret v
              else do
                let __do_lift ← holding [v] (callSpecial? v (Str.ofString "__init__") vs kvs)
                match __do_lift with
                  | none => ret v
                  | some r =>
                    if (r != Value.none) = true then do
                      rule "type.call.init-returned-value"
                      let __do_lift ← PySem.typeNameOf r
                      raiseErrorMade "TypeError"
                          (toString "__init__() should return None, not '" ++ toString __do_lift ++ toString "'")
                      ret v
                    else ret v) _ _ s') fun v F' h' tk' kp ex rv => ?_) fun r s' z => by
    rcases r with e | (v | _ | _ | _) <;> first | exact z | exact z.elim
  have hB' := hB.mono ex.le
  have X' := hB'.inK ex.sub
  have fin := hQ v F' h' tk' kp ex rv
  obtain ⟨T, b, hT, hs, hb⟩ : ∃ T b, Looks c.M h' (typeOf v) T ∧ subIn (KK c.w) T (.ref (kC k)) = some b ∧ (b = true → ∃ x, v = .ref x ∧ T = .ref (kC k)) := by
    cases e with
    | b u =>
      obtain rfl : v = .bool u := rv
      exact ⟨_, _, Looks.of_pure rfl, bool_kd c.w k, nofun⟩
    | f f =>
      obtain ⟨x, es, rfl, i, he⟩ := RepF.inst (show RepF F' f v from rv)
      obtain ⟨dd, mm, I⟩ := i.at ex.sub
      obtain ⟨b, hb, hk⟩ := inst_kd c.w k f
      exact ⟨_, b, I.type, hb, fun z => by obtain ⟨as, rfl⟩ := hk z; exact ⟨x, rfl, rfl⟩⟩
  have i0 : Looks c.M h' (isInstance v (Value.ref (kC k))) b := hT.andThen (looks_subIn X' hs)
  cases b with
  | false => exact wpAny_bind (i0.at (wpAny_bind (wpAny_rule (wpAny_pure fin))))
  | true =>
    obtain ⟨x, rfl, rfl⟩ := hb rfl
    have i1 : Looks c.M h' (typeLookup (.ref (kC k)) "__init__") (some (.builtin "object.__init__")) := looks_findIn X' (init_kd c.w k)
    have b1 : Looks c.M h' (bindSpecial (.builtin "object.__init__") (.ref x)) (.builtin "object.__init__", [.ref x]) := Looks.of_pure (oi_bind _)
    have m1 : Looks c.M h' (Bind.madeBy (.ref (kC k))) none := madeBy_none X' N
    refine wpAny_bind (i0.at ?_)
    unfold callSpecial? specialOf
    repeat (first | (with_reducible refine oi_call X' N hT ?_) | lk)
    exact fin
end Mine
end

-- J16
section
open PySem PySem.W PyProof.Rows PySem.Calls
set_option maxRecDepth 100000
set_option maxHeartbeats 1000000
namespace Mine
/-- d may change -/
def Pinless (fr : Fc) (d : Addr) : Prop := fr.stk = none ∧ ∀ q ∈ fr.pin, q.1 ≠ d
/-- like J, beside a dict that may yet change -/
def B (c : Cx) {α : Type} (n : Nat) (fr : Fc) (d : Addr) (σ : AS) (es : List DictEntry) (t : Sem α) (Φ : α → AS → List DictEntry → Prop) : Prop :=
  ∀ A, Rm n fr.env fr.stk A → ∀ F s k, Holds c fr F σ s.heap → Free fr F σ d → Pinless fr d → s.heap.get? d = some (dictOf es k) → ∀ Q : α → Shared → Prop,
    (∀ a σ' es' k' F' h' tk, Φ a σ' es' → Holds c fr F' σ' h' → Free fr F' σ' d → h'.get? d = some (dictOf es' k') → Q a { s with heap := h', toks := tk }) → wpAny c.M A t Q (fun _ _ => False) s
section
variable {c : Cx} {α β : Type} {n : Nat} {fr : Fc} {d : Addr} {σ : AS} {es : List DictEntry} {Φ : α → AS → List DictEntry → Prop}
theorem B_lift {t : Sem α} (h : ∀ F₁ pin, J c n (fr.at F₁ pin) σ t fun a σ' => Φ a σ' es) : B c n fr d σ es t Φ := fun A r F s k H Z hp hd Q q => by
  refine wpAny_mono (h F ((d, dictOf es k) :: fr.pin) A r F s (H.pinned Z hd (.inl hp.1)) Q fun a σ' F' h' tk z H' => ?_) (fun _ _ x => x) fun _ _ x => x
  obtain ⟨H₂, Z₂, hd₂, _⟩ := H.unpinned H'
  exact q a σ' es k F' h' tk z H₂ Z₂ hd₂
theorem B_bind {m : Sem α} {f : α → Sem β} {Ψ : β → AS → List DictEntry → Prop} (h : B c n fr d σ es m fun a σ' es' => B c n fr d σ' es' (f a) Ψ) : B c n fr d σ es (m >>= f) Ψ :=
  fun A r F s k H Z hp hd Q q => wpAny_bind (h A r F s k H Z hp hd _ fun a σ' es' k' F' h' tk z H' Z' hd' => z A r F' { s with heap := h', toks := tk } k' H' Z' hp hd' Q fun b σ'' es'' k'' F'' h'' tk' z' H'' Z'' hd'' => q b σ'' es'' k'' F'' h'' tk' z' H'' Z'' hd'')
theorem B_mono {t : Sem α} {Ψ : α → AS → List DictEntry → Prop} (h : B c n fr d σ es t Φ) (i : ∀ a σ' es', Φ a σ' es' → Ψ a σ' es') : B c n fr d σ es t Ψ :=
  fun A r F s k H Z hp hd Q q => h A r F s k H Z hp hd Q fun a σ' es' k' F' h' tk z H' Z' hd' => q a σ' es' k' F' h' tk (i a σ' es' z) H' Z' hd'
theorem B_pure {a : α} (h : Φ a σ es) : B c n fr d σ es (pure a) Φ := fun A r F s k H Z hp hd Q q => wpAny_pure (q a σ es k F s.heap s.toks h H Z hd)
theorem B_holding {vs : List Value} {t : Sem α} (h : B c n fr d σ es t Φ) : B c n fr d σ es (holding vs t) Φ := fun A r F s k H Z hp hd Q q => wpAny_holding (h A r F s k H Z hp hd Q q)
theorem B_standAt {pos : Pos} {Φ : Unit → AS → List DictEntry → Prop} (h : Φ () σ es) : B c n fr d σ es (standAt pos) Φ := fun A r F s k H Z hp hd Q q => wpAny_standAt (q () σ es k F s.heap s.toks h H Z hd)
theorem B_release {vs ks : List Value} {Φ : Unit → AS → List DictEntry → Prop} (h : Φ () σ es) : B c n fr d σ es (release vs ks) Φ := fun A r F s k H Z hp hd Q q => wpAny_release (q () σ es k F s.heap s.toks h H Z hd)
theorem B_execs_cons {st : Stmt} {rest : List Stmt} {env : Env} {Φ : Flow → AS → List DictEntry → Prop} (h : B c n fr d σ es (exec st env) fun fl σ' es' => match fl with | .next => B c n fr d σ' es' (execs rest env) Φ | f => Φ f σ' es') : B c n fr d σ es (execs (st :: rest) env) Φ :=
  fun A r F s k H Z hp hd Q q => wpAny_execs_cons (wpAny_mono (h A r F s k H Z hp hd (fun fl s' => match fl with | .next => wpAny c.M A (execs rest env) Q (fun _ _ => False) s' | f => Q f s') fun fl σ' es' k' F' h' tk z H' Z' hd' => by
    cases fl with
    | next => exact z A r F' { s with heap := h', toks := tk } k' H' Z' hp hd' Q q
    | brk => exact q _ σ' es' k' F' h' tk z H' Z' hd'
    | cont => exact q _ σ' es' k' F' h' tk z H' Z' hd'
    | ret v => exact q _ σ' es' k' F' h' tk z H' Z' hd') (fun fl s' q => q) fun _ _ x => x)
theorem B_execs_nil {env : Env} {Φ : Flow → AS → List DictEntry → Prop} (h : Φ .next σ es) : B c n fr d σ es (execs [] env) Φ := fun A r F s k H Z hp hd Q q => wpAny_execs_nil (q .next σ es k F s.heap s.toks h H Z hd)
end
section
variable {prog : Program} {w : World} {A : Around} {E : Value → Shared → Prop} {s : Shared} {K : Frag} {x C dx : Addr} {ox od : Obj} {name : Str} {v : Value} {es : List DictEntry} {k : Nat}
/-- a name set in an object's dict -/
theorem set_own {Q : Unit → Shared → Prop} (X : K.In s.heap) (hx : s.heap.get? x = some (instObj C dx)) (hd : s.heap.get? dx = some (dictOf es k)) (hs : findIn K (.ref C) "__setattr__" = some (some (.builtin "object.__setattr__"))) (hp : plainOver K C = true) (ht : takerIn K C name = some none) (hh : hasDictIn K C = true)
    (hl : (getL name es).isSome = true) (hz : (putL name (PyData.keyHash w.params name) (.str name (s.toks + 1)) v es).length ≤ 1000)
    (h : ∀ h', Heap.SameBut dx s.heap h' → h'.get? dx = some (dictOf (putL name (PyData.keyHash w.params name) (.str name (s.toks + 1)) v es) (putN name es k)) → Q () { s with heap := h', toks := s.toks + 2 }) : wpAny (model prog w) A (setAttr (.ref x) name v) Q E s := by
  have I : PySem.W.InstAt s.heap x (instObj C dx) C (some (dictOf es k)) := ⟨hx, rfl, rfl, hd⟩
  refine set_plain X I hs ?_
  refine osa_open (s := { s with toks := s.toks + 1 }) X I hp ht fun b => ?_
  obtain ⟨cd, hc, hd'⟩ := any_some hh
  have D := hd
  have sb := Heap.SameBut.update s.heap dx (Obj.putName name (PyData.keyHash w.params name) (.str name (s.toks + 1)) v)
  have D' : (s.heap.update dx (Obj.putName name (PyData.keyHash w.params name) (.str name (s.toks + 1)) v)).get? dx = some (dictOf (putL name (PyData.keyHash w.params name) (.str name (s.toks + 1)) v es) (putN name es k)) := by
    rw [Heap.get?_update_self _ hd (by rw [putName_dict]; rfl), putName_dict]
  refine wpAny_bind (wpAny_pure (wpAny_bind (wpAny_bind (wpAny_loadPart hx (wpAny_bind (Looks.here (s := { s with toks := s.toks + 1 }) (looks_clsIn X hc) ?_))))))
  rw [hd']
  refine wpAny_pure (a := some dx) (wpAny_bind (wpAny_pure (wpAny_bind ?_)))
  unfold nsSet
  refine wpAny_bind (wpAny_bind (wpAny_askSetting (wpAny_pure (wpAny_bind (wpAny_mkText (wpAny_bind (wpAny_loadPart D ?_)))))))
  dsimp only
  have c : (!es.toArray.any (·.key.isStr name) && es.toArray.any (·.refKey)) = false := by
    rw [← Array.any_toList, ← Array.any_toList]
    unfold getL at hl
    split at hl
    · rename_i en he
      rw [List.any_eq_true.mpr ⟨en, List.mem_of_find?_eq_some he, List.find?_some he⟩]; rfl
    · split at hl
      · cases hl
      · rename_i z; rw [Bool.not_eq_true] at z; rw [z, Bool.and_false]
  rw [aRefKeyMayBeTheName_at, c]
  refine wpAny_updatePart D ?_
  refine wpAny_bind (wpAny_lookBehind D' (pastItsLine_dict (by rw [List.size_toArray, sizeLine_eq]; omega)) ?_)
  exact wpAny_pure (h _ sb D')
end
end Mine
end

-- J17
section
open PySem PySem.W PyProof.Rows PySem.Calls
set_option maxRecDepth 100000
set_option maxHeartbeats 1000000
namespace Mine
structure CB (M : Model) (hp : Heap) : Prop where
  m219 : Looks M hp (Bind.madeBy (.ref 219)) none
  m247 : Looks M hp (Bind.madeBy (.ref 247)) none
  m89 : Looks M hp (Bind.madeBy (.ref 89)) (some "object.__new__")
  b89 : Looks M hp (Builtin.Slots.bestBase [.ref 89]) (.ref 89)
  b219 : Looks M hp (Builtin.Slots.bestBase [.ref 219]) (.ref 219)
  b247 : Looks M hp (Builtin.Slots.bestBase [.ref 247]) (.ref 247)
theorem cb (w : World) {h : Heap} (X : (KK w).In h) (M : Model) : CB M h := by
  have h89 := X 89 _ rfl
  have h219 := X 219 _ rfl
  have h247 := X 247 _ rfl
  constructor
  all_goals
    intro A Q E s k q
    obtain ⟨hp, g, d, tk, os⟩ := s
    have h1 := k _ _ h89
    have h2 := k _ _ h219
    have h3 := k _ _ h247
    dsimp only at h1 h2 h3
  · unfold Bind.madeBy; repeat lk
    exact q
  · unfold Bind.madeBy; repeat lk
    exact q
  · unfold Bind.madeBy; repeat lk
    exact q
  · unfold Builtin.Slots.bestBase; repeat lk
    exact q
  · unfold Builtin.Slots.bestBase; repeat lk
    exact q
  · unfold Builtin.Slots.bestBase; repeat lk
    exact q
theorem Looks.move {α : Type} {M : Model} {h h' : Heap} {t : Sem α} {a : α} (x : Looks M h t a) (k : Kp h h') : Looks M h' t a := x.keeps k
theorem static_kd (w : World) {h : Heap} (X : (KK w).In h) (M : Model) (k : Kd) : Looks M h (Bind.staticBase (.ref (kC k))) (.ref 89) := by
  obtain ⟨a1, a2, a3, a4, a5, a6⟩ := cb w X M
  have h1 := X 89 _ rfl
  have h2 := X 219 _ rfl
  have h3 := X 247 _ rfl
  intro A Q E s kp q
  have b1 := Looks.move a1 kp
  have b2 := Looks.move a2 kp
  have b3 := Looks.move a3 kp
  have b4 := Looks.move a4 kp
  have b5 := Looks.move a5 kp
  have b6 := Looks.move a6 kp
  have g1 := kp _ _ h1
  have g2 := kp _ _ h2
  have g3 := kp _ _ h3
  have X' := X.keeps kp
  clear a1 a2 a3 a4 a5 a6 h1 h2 h3 kp
  obtain ⟨hp, g, d, tk, os⟩ := s
  dsimp only at b1 b2 b3 b4 b5 b6 g1 g2 g3 X'
  cases k
  · have g4 := X' 268 _ rfl
    have b7 : Looks M hp (Bind.madeBy (.ref 268)) none := madeBy_none X' (newK_and w)
    show wpAny _ _ (Bind.staticBase (.ref 268)) _ _ _
    unfold Bind.staticBase; repeat lk
    exact q
  · have g4 := X' 349 _ rfl
    have b7 : Looks M hp (Bind.madeBy (.ref 349)) none := madeBy_none X' (newK_or w)
    show wpAny _ _ (Bind.staticBase (.ref 349)) _ _ _
    unfold Bind.staticBase; repeat lk
    exact q
  · have g4 := X' 385 _ rfl
    have b7 : Looks M hp (Bind.madeBy (.ref 385)) none := madeBy_none X' (newK_not w)
    show wpAny _ _ (Bind.staticBase (.ref 385)) _ _ _
    unfold Bind.staticBase; repeat lk
    exact q
  · have g4 := X' 409 _ rfl
    have b7 : Looks M hp (Bind.madeBy (.ref 409)) none := madeBy_none X' (newK_xor w)
    show wpAny _ _ (Bind.staticBase (.ref 409)) _ _ _
    unfold Bind.staticBase; repeat lk
    exact q
  · have g4 := X' 448 _ rfl
    have b7 : Looks M hp (Bind.madeBy (.ref 448)) none := madeBy_none X' (newK_imp w)
    show wpAny _ _ (Bind.staticBase (.ref 448)) _ _ _
    unfold Bind.staticBase; repeat lk
    exact q
  · have g4 := X' 481 _ rfl
    have b7 : Looks M hp (Bind.madeBy (.ref 481)) none := madeBy_none X' (newK_eqv w)
    show wpAny _ _ (Bind.staticBase (.ref 481)) _ _ _
    unfold Bind.staticBase; repeat lk
    exact q
structure KdF (K : Frag) (C : Addr) : Prop where
  cls : ∃ oc od cd sl, K.lookup C = some ⟨oc, od, .cls cd, sl⟩ ∧ cd.abstract = false ∧ cd.hasDel = false ∧ cd.hasDict = true
  typ : instIn K (.ref C) (.type "type") = some true
  self : subIn K (.ref C) (.ref C) = some true
  top : subIn K (.ref C) (.type "object") = some true
  set : findIn K (.ref C) "__setattr__" = some (some (.builtin "object.__setattr__"))
  over : plainOver K C = true
  hasD : hasDictIn K C = true
  args : takerIn K C "args" = some none
  text : takerIn K C "text" = some none
theorem kdF (w : World) (k : Kd) : KdF (KK w) (kC k) := by
  cases k <;> exact ⟨⟨_, _, _, _, rfl, rfl, rfl, rfl⟩, by kernel_rfl, by kernel_rfl, by kernel_rfl, by kernel_rfl, by kernel_rfl, by kernel_rfl, by kernel_rfl, by kernel_rfl⟩
theorem new_kd {w : World} {A : Around} {k : Kd} {R : Result → Shared → Prop} {h : Heap} {g : Array GenState} {d : Drawn} {t : Nat} {os : OsState} (X : (KK w).In h)
    (hq : R (.ok (.ret (.ref (h.objs.size + 1)))) ⟨(h.push emptyDict).push (instObj (kC k) h.objs.size), g, d, t, os⟩) :
    codeAny (model P0 w) A (.call (.builtin "object.__new__") ⟨[.ref (kC k)], []⟩) R ⟨h, g, d, t, os⟩ := by
  obtain ⟨oc, od, cd, sl, hC, e1, e2, e3⟩ := (kdF w k).cls
  have hC := X _ _ hC
  have base := static_kd w X (model P0 w) k
  have made := (cb w X (model P0 w)).m89
  have self := looks_subIn (M := model P0 w) X (kdF w k).self
  have top := looks_subIn (M := model P0 w) X (kdF w k).top
  have typ := looks_instIn (M := model P0 w) X (kdF w k).typ
  have F := PySem.F.objNew
  refine codeAny_call_builtin_code (Code.quiet_builtin _ F.quiet) ?_
  simp only [checkBuiltinCall, F.kind, F.split, F.row]
  have here : Looks (model P0 w) h (Bind.madeHere "object.__new__" (.ref (kC k))) () := base.andThen (made.andThen (Looks.of_pure (by simp only [Option.map_some, bne_self_eq_false, Bool.false_eq_true, if_false])))
  have args : Bind.checkArgs "object.__new__" ⟨.hand, "object.__new__", "__new__", .cls, []⟩ ⟨[.ref (kC k)], []⟩ = pure () := by kernel_rfl
  rw [args]
  repeat (first | simp only [bne_self_eq_false, Bool.false_eq_true, if_false] | lk)
  refine codeAny_builtin F.entry ?_
  unfold Builtin.«object.__new__»
  have fin : ∀ A', wpAny (model P0 w) A' (do
      let d ← if typeHasDict (.ref (kC k)) then some <$> alloc { cls := .type "dict", data := .dict #[] } else pure none
      ret (← newObj (.ref (kC k)) .plain d)) (fun fin s' => match fin with | .done f => R (.ok f) s' | .again c' => c'.quiet = true ∧ codeAny (model P0 w) A c' R s') (fun e s' => R (.error e) s') ⟨h, g, d, t, os⟩ := by
    intro A'
    show wpAny _ _ ((alloc emptyDict >>= fun x => pure (some x)) >>= _) _ _ _
    refine wpAny_bind (wpAny_bind (wpAny_alloc (wpAny_pure (wpAny_bind ?_))))
    show wpAny _ _ (newObjAsIs _ _ _) _ _ _
    unfold newObjAsIs classHasDel
    refine wpAny_bind (wpAny_alloc (wpAny_bind (wpAny_bind (wpAny_load (Heap.get?_push_of_some _ (Heap.get?_push_of_some _ hC)) (wpAny_pure ?_)))))
    rw [e2]
    refine wpAny_pure (wpAny_pure ?_)
    show R _ _
    rw [Heap.size_push]
    exact hq
  repeat (first | simp only [e1, Bool.false_eq_true, if_false] | exact fin _ | lk)
end Mine
end

-- J18
section
open PySem PySem.W PyProof.Rows PySem.Calls
set_option maxRecDepth 100000
set_option maxHeartbeats 1000000
namespace Mine
-- lengths of texts
theorem len_append (a b : Str) : (a ++ b).length = a.length + b.length := by
  show (a.cps ++ b.cps).size = _
  rw [Array.size_append]; rfl
theorem label_len (k : Kd) : (label k).length ≤ 10 := by cases k <;> decide +kernel
def lens : List Str → Nat
  | [] => 0
  | x :: r => x.length + 2 + lens r
theorem joinT_len : ∀ l : List Str, (joinT l).length ≤ lens l
  | [] => by show 0 ≤ 0; exact Nat.le_refl _
  | [x] => by show x.length ≤ x.length + 2 + 0; omega
  | x :: y :: r => by
    have := joinT_len (y :: r)
    rw [joinT, len_append, len_append]
    show x.length + 2 + (joinT (y :: r)).length ≤ x.length + 2 + lens (y :: r)
    omega
mutual
theorem text_len : ∀ f : Fm, (text f).length ≤ tl f
  | .sym i => by
    rw [text, tl]
    match i with
    | 0 => decide +kernel
    | 1 => decide +kernel
    | 2 => decide +kernel
  | .node k as => by
    rw [text, len_append, len_append, len_append, tl]
    have h1 := texts_len as
    have h2 := joinT_len (texts as)
    have h3 := label_len k
    have h4 : ("(" : Str).length = 1 := by decide +kernel
    have h5 : (")" : Str).length = 1 := by decide +kernel
    omega
theorem texts_len : ∀ as : List Fm, lens (texts as) ≤ tls as
  | [] => by rw [texts, tls]; exact Nat.le_refl _
  | f :: fs => by
    rw [texts, tls]
    have h1 := text_len f
    have h2 := texts_len fs
    show (text f).length + 2 + lens (texts fs) ≤ _
    omega
end
theorem texts_map (as : List Fm) : texts as = as.map text := by
  induction as with
  | nil => rfl
  | cons f fs ih => rw [texts, ih]; rfl
theorem joinT_eq : ∀ l : List Str, Str.join ", " l = joinT l
  | [] => rfl
  | [x] => rfl
  | x :: y :: r => by
    rw [joinT, ← joinT_eq (y :: r)]; rfl
theorem tls_len : ∀ as : List Fm, 2 * as.length ≤ tls as
  | [] => by rw [tls]; exact Nat.le_refl _
  | f :: fs => by rw [tls, List.length_cons]; have := tls_len fs; omega
theorem lens_total : ∀ (l : List Str), l.toArray.foldl (fun a p => a + p.length + (", " : Str).length) 0 = lens l := fun l => by
  rw [StrLaws.joinTotal]
  have h4 : (", " : Str).length = 2 := by decide +kernel
  rw [h4]
  induction l with
  | nil => rfl
  | cons x r ih => simp only [List.map_cons, List.sum_cons, List.length_cons, lens]; omega
theorem Reps.strs {F : PM} : ∀ {ts : List Str} {vs : List Value}, Reps F (ts.map .str) vs → ∃ l : List (Str × Tok), vs = strValues l ∧ l.map (·.1) = ts
  | [], _, h => ⟨[], h, rfl⟩
  | t :: ts, _, ⟨v, vs', e, ⟨u, r⟩, rs⟩ => by
    obtain ⟨l, e1, e2⟩ := Reps.strs rs
    exact ⟨(t, u) :: l, by rw [e, r, e1]; rfl, by rw [List.map_cons, e2]⟩
section
variable {c : Cx} {n : Nat} {fr : Fc} {σ : AS} {env : Env}
theorem J_addStr {v w : Value} {x y : Str} {Φ : Value → AS → Prop} (hv : Has c σ v (.str x)) (hw : Has c σ w (.str y)) (hz : x.length + y.length ≤ 16000000) (k : ∀ r, Φ r (σ.push r (.str (x ++ y)))) : J c n fr σ (binaryOp .Add v w) Φ := fun A r F s H Q q => by
  obtain ⟨t, rfl⟩ := hv _ _ _ H
  obtain ⟨u, rfl⟩ := hw _ _ _ H
  exact PyProof.Rows.add_str (fun t' tk => q _ _ F s.heap tk (k (.str (x ++ y) t')) (H.push ⟨t', rfl⟩)) (by rw [sizeLine_is]; omega)
theorem J_methJoin {v : Value} {x : Str} {pl : Sem Bool} {Φ : Value × List Value → AS → Prop} (hv : Has c σ v (.str x)) (k : Φ (.builtin "str.join", [v]) σ) : J c n fr σ (getMethod v "join" pl) Φ := fun A r F s H Q q => by
  obtain ⟨t, rfl⟩ := hv _ _ _ H
  exact GM.join (q _ σ F s.heap s.toks k H)
theorem J_join {v w : Value} {ts : List Str} {Φ : Value → AS → Prop} (hv : Has c σ v (.str ", ")) (hw : Has c σ w (.lst (ts.map .str))) (hz : lens ts ≤ 16000000) (k : ∀ r, Φ r (σ.push r (.str (joinT ts)))) : J c n fr σ (call (.builtin "str.join") [v, w]) Φ := fun A r F s H Q q => by
  obtain ⟨t, rfl⟩ := hv _ _ _ H
  obtain ⟨a, vs, nn, rfl, ha, hr⟩ := hw _ _ _ H
  obtain ⟨l, rfl, rfl⟩ := hr.strs
  have hl : Builtin.Str.tooLong ((l.map (·.1)).toArray.foldl (fun a p => a + p.length + (", " : Str).length) 0) = false := by
    rw [lens_total]; unfold Builtin.Str.tooLong; exact decide_eq_false (by rw [sizeLine_is]; omega)
  refine call_meets PySem.F.slot_str_join (typeIs_str s ", " t) PySem.F.entry_str_join (PySem.F.args_str_join_2 _ _) (meets_str_join_list ", " t a l hl) ⟨⟨_, H.sub _ _ ha, rfl, nn, rfl⟩, ?_⟩
  have fin : ∀ t' tk, Q (.str (joinT (l.map (·.1))) t') { s with heap := s.heap, toks := tk } := fun t' tk => q _ _ F s.heap tk (k (.str (joinT (l.map (·.1))) t')) (H.push (p := .str _) ⟨t', rfl⟩)
  have other : (Made.str (Builtin.Str.glued ", " (l.map (·.1)))).post (fun v s' => wants Q (fun _ _ => False) (.ok (.ret v)) s') s := by
    rw [StrLaws.glued_eq_join, joinT_eq]
    refine ⟨?_, fin _ _⟩
    have h1 := joinT_len (l.map (·.1))
    show (joinT (l.map (·.1))).length ≤ sizeLine
    rw [sizeLine_is]; omega
  match l, fin, other with
  | [], fin, other => exact other
  | [p], fin, other => exact fin p.2 s.toks
  | p :: q :: r, fin, other => exact other
theorem J_tupleOfL {w : Value} {xs : List PV} {Φ : Value → AS → Prop} (hw : Has c σ w (.lst xs)) (hz : xs.length ≤ 1000000) (k : ∀ r, Φ r (σ.push r (.tup xs))) : J c n fr σ (call (.type "tuple") [w]) Φ := fun A r F s H Q q => by
  obtain ⟨a, vs, nn, rfl, ha, hr⟩ := hw _ _ _ H
  refine call_tuple_list (items := vs.toArray) ⟨_, H.sub _ _ ha, rfl, nn, rfl⟩ (fun h' hk => ?_) (by rw [List.size_toArray, hr.length, sizeLine_is]; omega)
  have ex := Ext.keep H.sub hk
  have ee := Ext.alloc ex.sub (tupObj vs 0) rfl
  exact q _ _ _ _ _ (k (.ref h'.objs.size)) (((H.step hk ex).step (Kp.push _ _) ee).push ⟨_, vs, 0, rfl, put_self _ _ _, hr.mono ee.le⟩)
theorem find_str (w : World) (f : Fm) : findIn (KK w) (.ref (clsOf f)) "__str__" = some (some (.ref 79)) := by
  cases f with
  | sym i => kernel_rfl
  | node k as => cases k <;> kernel_rfl
theorem fn_str (w : World) : isFn (KK w) (.ref 79) = true := by kernel_rfl
/-- str(f), by the contract of its __str__ -/
theorem J_strFm {m : Nat} {v : Value} {f : Fm} {Φ : Value → AS → Prop} (h : CT c m (.ref 79) [.fm f] [] (.str (text f))) (hm : m + 2 ≤ n) (hv : Has c σ v (.fm f)) (k : ∀ r, Φ r (σ.push r (.str (text f)))) : J c n fr σ (call (.type "str") [v]) Φ := fun A r F s H Q q => by
  obtain ⟨x, es, rfl, i, he⟩ := RepF.inst (show RepF F f v from hv _ _ _ H)
  obtain ⟨d, mm, I⟩ := i.at H.sub
  have r2 : Room m A.in1.in1 := (r.mono hm).in1.in1
  refine kso_call r2.units H.inK I (find_str c.w f) (fn_str c.w) ?_
  refine wpAny_call (codeAny_mono (h [.ref x] [] A.in1.in1 r2 F s H.baseF H.sub (Reps.cons (hv _ _ _ H) Reps.nil) KReps.nil (StrBack Q) fun v F' h' tk kp ex rv => ?_) fun r s' z => by
    rcases r with e | (v | _ | _ | _) <;> first | exact z | exact z.elim)
  obtain ⟨t, rfl⟩ := rv
  exact q _ _ F' h' tk (k (.str (text f) t)) ((H.step kp ex).push ⟨t, rfl⟩)
end
section
variable {c : Cx} {n : Nat} {fr : Fc} {d : Addr} {σ : AS} {es : List DictEntry}
theorem B_setAttr {x C : Addr} {name : Str} {v : Value} {Φ : Unit → AS → List DictEntry → Prop} (hx : Has c σ (.ref x) (.raw (instObj C d))) (K : findIn (KK c.w) (.ref C) "__setattr__" = some (some (.builtin "object.__setattr__"))) (hp : plainOver (KK c.w) C = true) (ht : takerIn (KK c.w) C name = some none) (hh : hasDictIn (KK c.w) C = true)
    (hl : (getL name es).isSome = true) (hz : ∀ t, (putL name (PyData.keyHash c.w.params name) (.str name t) v es).length ≤ 1000) (k : ∀ t, Φ () σ (putL name (PyData.keyHash c.w.params name) (.str name t) v es)) : B c n fr d σ es (setAttr (.ref x) name v) Φ := fun A r F s kk H Z hp' hd Q q => by
  obtain ⟨x', e, ho⟩ := hx _ _ _ H
  cases e
  refine set_own H.inK (H.sub _ _ ho) hd K hp ht hh hl (hz _) fun h' hs hd' => ?_
  exact q _ _ _ _ F h' _ (k _) (H.extBut Z hp'.2 hs.extBut) Z hd'
theorem B_assignAttr {o : Expr} {attr : Str} {pos : Pos} {v : Value} {env : Env} {Φ : Unit → AS → List DictEntry → Prop} (h : B c n fr d σ es (eval o env) fun ov σ' es' => B c n fr d σ' es' (setAttr ov attr v) Φ) : B c n fr d σ es (assign (.Attribute o attr pos) env v) Φ := by
  rw [arm_assign_Attribute]
  exact B_bind (B_holding (B_mono h fun ov σ' es' z => B_bind (B_standAt (B_bind (B_holding (B_mono z fun u σ'' es'' z' => B_release z'))))))
theorem B_Assign1 {t value : Expr} {pos : Pos} {env : Env} {Φ : Flow → AS → List DictEntry → Prop} (h : B c n fr d σ es (eval value env) fun v σ' es' => B c n fr d σ' es' (assign t env v) fun _ σ'' es'' => Φ .next σ'' es'')
    (hs : swapsWithSole [t] value pos.line env = pure false := by rfl) (hw : swappedStores [t] value env = pure none := by rfl) (he : (assignEach [t] env).map (·.2) = [assign t env] := by rfl) : B c n fr d σ es (exec (.Assign [t] value pos) env) Φ := by
  rw [arm_exec_Assign, hs, hw, he]
  refine B_bind (B_standAt (B_bind (B_pure ?_)))
  simp only [Bool.false_eq_true, if_false]
  refine B_bind (B_mono h fun v σ' es' z => B_bind (B_pure ?_))
  exact B_bind (B_mono z fun u σ'' es'' z' => B_pure z')
theorem B_return {e : Expr} {pos : Pos} {env : Env} {Φ : Flow → AS → List DictEntry → Prop} (h : B c n fr d σ es (eval e env) fun v σ' es' => Φ (.ret v) σ' es') : B c n fr d σ es (exec (.Return (some e) pos) env) Φ := fun A r F s k H Z hp hd Q q =>
  wpAny_Return_some (h A r F s k H Z hp hd _ fun v σ' es' k' F' h' tk z H' Z' hd' => q _ σ' es' k' F' h' tk z H' Z' hd')
end
/-- the object is whole -/
theorem Holds.freeze {c : Cx} {fr : Fc} {F : PM} {σ : AS} {h : Heap} {d : Addr} {o : Obj} (H : Holds c fr F σ h) (Z : Free fr F σ d) (hp : ∀ q ∈ fr.pin, q.1 ≠ d) (hd : h.get? d = some o) : Holds c fr (put F d o) σ h := by
  obtain ⟨m, cm, L⟩ := H.loc
  have le : Le F (put F d o) := Le.put Z.off
  refine ⟨H.base, H.kind, H.outer, H.le.trans le, fun a x e => ?_, H.keep, fun a x e => ?_, ⟨m, cm, ⟨L.ns, ?_, L.fresh, fun y a z => ?_, L.apart, fun y p z => ?_, fun y l ps z => ?_, fun z hz => ?_, L.pinD⟩⟩, fun z hz => (H.tmp z hz).mono le⟩
  · unfold put at e; split at e
    · rename_i w; subst w; cases e; exact hd
    · exact H.sub a x e
  · unfold put at e; split at e
    · rename_i w; subst w; exact .inr Z.new
    · exact H.new a x e
  · rw [put_ne (Ne.symm Z.loc)]; exact L.offL
  · obtain ⟨b1, b2, b3, b4⟩ := L.cell y a z
    exact ⟨b1, b2, by rw [put_ne (Ne.symm (Z.cell y a z))]; exact b3, b4⟩
  · obtain ⟨v, r, w⟩ := L.val y p z
    exact ⟨v, r.mono le, w⟩
  · obtain ⟨a1, a2, ⟨vs, nn, a3, a4⟩, a5, a6, a7, a8⟩ := L.own y l ps z
    exact ⟨a1, a2, ⟨vs, nn, a3, a4.mono le⟩, by rw [put_ne (Ne.symm (Z.own y l ps z))]; exact a5, a6, a7, a8⟩
  · obtain ⟨b1, b2, b3⟩ := L.pin z hz
    exact ⟨b1, by rw [put_ne (hp z hz)]; exact b2, b3⟩
/-- like J, with a dict made meanwhile that may yet change -/
def N (c : Cx) {α : Type} (n : Nat) (fr : Fc) (σ : AS) (t : Sem α) (Φ : α → AS → Addr → List DictEntry → Prop) : Prop :=
  ∀ A, Rm n fr.env fr.stk A → ∀ F s, Holds c fr F σ s.heap → ∀ Q : α → Shared → Prop,
    (∀ a σ' d es k' F' h' tk, Φ a σ' d es → Holds c fr F' σ' h' → Free fr F' σ' d → Pinless fr d → h'.get? d = some (dictOf es k') → Q a { s with heap := h', toks := tk }) → wpAny c.M A t Q (fun _ _ => False) s
section
variable {c : Cx} {α β : Type} {n : Nat} {fr : Fc} {σ : AS}
theorem N_bindJ {m : Sem α} {f : α → Sem β} {Ψ : β → AS → Addr → List DictEntry → Prop} (h : J c n fr σ m fun a σ' => N c n fr σ' (f a) Ψ) : N c n fr σ (m >>= f) Ψ :=
  fun A r F s H Q k => wpAny_bind (h A r F s H _ fun a σ' F' h' tk q H' => q A r F' { s with heap := h', toks := tk } H' Q fun b σ'' d es k'' F'' h'' tk' z H'' => k b σ'' d es k'' F'' h'' tk' z H'')
theorem N_bindB {m : Sem α} {f : α → Sem β} {Ψ : β → AS → Addr → List DictEntry → Prop} (h : N c n fr σ m fun a σ' d es => B c n fr d σ' es (f a) fun b σ'' es' => Ψ b σ'' d es') : N c n fr σ (m >>= f) Ψ :=
  fun A r F s H Q k => wpAny_bind (h A r F s H _ fun a σ' d es k' F' h' tk q H' Z hp hd => q A r F' { s with heap := h', toks := tk } k' H' Z hp hd Q fun b σ'' es' k'' F'' h'' tk' z H'' Z'' hd'' => k b σ'' d es' k'' F'' h'' tk' z H'' Z'' hp hd'')
theorem N_holding {vs : List Value} {t : Sem α} {Φ : α → AS → Addr → List DictEntry → Prop} (h : N c n fr σ t Φ) : N c n fr σ (holding vs t) Φ := fun A r F s H Q k => wpAny_holding (h A r F s H Q k)
theorem N_operate {vs : List Value} {t : Sem Value} {Φ : Value → AS → Addr → List DictEntry → Prop} (h : N c n fr σ t Φ) : N c n fr σ (operate vs t) Φ := fun A r F s H Q k => wpAny_operating (h A r F s H Q k)
theorem N_keep {vs : List Value} {t : Sem α} {Φ : α → AS → Addr → List DictEntry → Prop} (h : N c n fr σ t Φ) : N c n fr σ (t.keep vs) Φ := fun A r F s H Q k => wpAny_keep (h A r F s H Q k)
theorem N_mono {t : Sem α} {Φ Ψ : α → AS → Addr → List DictEntry → Prop} (h : N c n fr σ t Φ) (i : ∀ a σ' d es, Φ a σ' d es → Ψ a σ' d es) : N c n fr σ t Ψ := fun A r F s H Q k => h A r F s H Q fun a σ' d es k' F' h' tk z => k a σ' d es k' F' h' tk (i _ _ _ _ z)
theorem N_execs_cons {st : Stmt} {rest : List Stmt} {env : Env} {Φ : Flow → AS → Addr → List DictEntry → Prop} (h : N c n fr σ (exec st env) fun fl σ' d es => fl = .next ∧ B c n fr d σ' es (execs rest env) fun b σ'' es' => Φ b σ'' d es') : N c n fr σ (execs (st :: rest) env) Φ :=
  fun A r F s H Q k => wpAny_execs_cons (h A r F s H _ fun fl σ' d es k' F' h' tk q H' Z hp hd => by
    obtain ⟨rfl, q⟩ := q
    exact q A r F' { s with heap := h', toks := tk } k' H' Z hp hd Q fun b σ'' es' k'' F'' h'' tk' z H'' Z'' hd'' => k b σ'' d es' k'' F'' h'' tk' z H'' Z'' hp hd'')
theorem J_ofN {t : Sem α} {Φ : α → AS → Prop} (h : N c n fr σ t fun a σ' d es => ∀ k F' h', Holds c fr F' σ' h' → F' d = some (dictOf es k) → ∃ σ'', Φ a σ'' ∧ Holds c fr F' σ'' h') : J c n fr σ t Φ := fun A r F s H Q q =>
  h A r F s H Q fun a σ' d es k' F' h' tk z H' Z hp hd => by
    obtain ⟨σ'', z1, z2⟩ := z k' _ h' (H'.freeze Z hp.2 hd) (put_self _ _ _)
    exact q a σ'' _ h' tk z1 z2
theorem N_new {k : Kd} {Φ : Value → AS → Addr → List DictEntry → Prop} (hstk : fr.stk = none) (h : ∀ x d, Φ (.ref x) (σ.push (.ref x) (.raw (instObj (kC k) d))) d []) : N c n fr σ (call (.builtin "object.__new__") [.ref (kC k)]) Φ := fun A r F s H Q q => by
  obtain ⟨hp, g, d, tk, os⟩ := s
  refine wpAny_call (new_kd H.inK ?_)
  have e1 : (hp.push emptyDict).objs.size = hp.objs.size + 1 := Heap.size_push ..
  have k1 := Kp.push hp emptyDict
  have k2 := Kp.push (hp.push emptyDict) (instObj (kC k) hp.objs.size)
  have sub1 : Sub F (hp.push emptyDict) := H.sub.kp k1
  have H1 := H.step k1 (Ext.keep H.sub k1)
  have ee := Ext.alloc sub1 (instObj (kC k) hp.objs.size) rfl
  have H2 := (H1.step k2 ee).push (v := .ref (hp.push emptyDict).objs.size) (p := .raw (instObj (kC k) hp.objs.size)) ⟨_, rfl, put_self _ _ _⟩
  obtain ⟨Z, hpin⟩ := H.fresh
  have off : (put F (hp.push emptyDict).objs.size (instObj (kC k) hp.objs.size)) hp.objs.size = none := by
    rw [put_ne (by rw [e1]; exact (Nat.succ_ne_self _).symm)]; exact Z.off
  have hd : ((hp.push emptyDict).push (instObj (kC k) hp.objs.size)).get? hp.objs.size = some (dictOf [] 0) := k2 _ _ (Heap.get?_push_size _ rfl)
  have := q (.ref (hp.push emptyDict).objs.size) _ hp.objs.size [] 0 _ _ tk (h _ _) H2 ⟨off, Z.loc, Z.new, Z.cell, Z.own⟩ ⟨hstk, hpin⟩ hd
  rw [e1] at this
  exact this
theorem N_callImm {pos : Pos} {f : Value} {first : List Value} {args : List (Bool × Sem Value)} {keywords : List (Option Str × Sem Value)} {Φ : Value → AS → Addr → List DictEntry → Prop} (hf : ∀ a, f ≠ .ref a)
    (h : J c n fr σ (evalArgs f true args keywords) fun a σ' => N c n fr σ' (call f (first ++ a.pos) a.kw) Φ) : N c n fr σ (callWith pos f first args keywords) Φ := by
  unfold callWith
  refine N_bindJ (J_holding (J_mono h fun a σ' q => N_bindJ (J_standAt ?_)))
  refine N_bindJ (J_looks (fun F h H => keeper_imm hf h H.kpH) ?_)
  have fin : ∀ t : Sem Value, N c n fr σ' t Φ → N c n fr σ' (t >>= fun r => holding [r] point >>= fun _ => pure r) Φ := fun t q => N_bindB (N_mono q fun r σ'' d es q => B_bind (B_holding (B_lift fun F₁ pin => J_point (B_pure q))))
  have mk : ∀ v, N c n fr σ' (callMarked v f (first ++ a.pos) a.kw) Φ := fun v => N_keep q
  cases (args.any (·.1) || keywords.any (·.1.isNone)) <;> dsimp only <;> first | exact fin _ (mk _) | exact fin _ (N_operate q) | exact fin _ q | (split; exact fin _ q; exact fin _ (mk _))
theorem objNew_found (w : World) : findCls (KK w) (.type "object") (.type "type") "__new__" = some (.val (.builtin "object.__new__")) := by kernel_rfl
theorem J_methObjNew {pl : Sem Bool} {Φ : Value × List Value → AS → Prop} (k : Φ (.builtin "object.__new__", []) σ) : J c n fr σ (getMethod (.type "object") "__new__" pl) Φ := fun A r F s H Q q => by
  have hstub : opaqueClassAbove (.type "object") = pure none := by unfold opaqueClassAbove; dsimp only; rw [show Manifest.isStub "object" = false from by decide +kernel]; rfl
  have L0 : Looks c.M s.heap (typeOf (.type "object")) (.type "type") := Looks.of_pure meta_object
  have hg : findIn (KK c.w) (.type "type") "__getattribute__" = some (some (.builtin "type.__getattribute__")) := type_tga
  unfold getMethod specialOf
  refine wpAny_bind (wpAny_bind (L0.here ((looks_findIn H.inK hg).here ?_)))
  dsimp only
  rw [if_pos canon_tga]
  refine wpAny_bind (wpAny_mono (Q := fun v => fun s' => Q (v, []) s') ?_ (fun _ _ z => wpAny_pure z) fun _ _ z => z)
  have LO : Looks c.M s.heap (opaqueClassAbove (.type "object")) none := Looks.of_pure hstub
  refine cls_open H.inK LO L0 hg (looks_hook H.inK (r := none) (by rfl)) (by show subIn (KK c.w) _ _ = _; rfl) (objNew_found c.w)
    (wpAny_pure (by show wpAny _ _ (handedOut _) _ _ _; rw [handedOut_of rfl]; exact wpAny_pure (q _ σ F s.heap _ k H)))
/-- x = object.__new__(cls) -/
theorem N_newStmt {k : Kd} {x y : Str} {xp op ap np pos spos : Pos} {Φ : Flow → AS → Addr → List DictEntry → Prop} (hcls : σ.ρ.lookup y = some (.val (.ref (kC k)))) (hx : fr.env.kindOf x = some .local) (ho : σ.own.all (fun y => y.1 != x) = true)
    (hobj : nsIn (KK c.w) mainGlobals "object" = some none) (hko : fr.env.kindOf "object" = some .globalImplicit) (hg : fr.env.globals = mainGlobals) (hb : fr.env.builtins = builtinsNs) (hy : (y == ("__debug__" : Str)) = false) (hy' : (y == ("__classdict__" : Str)) = false)
    (h : ∀ a d v, Φ .next ⟨(x, .val (.ref a)) :: σ.ρ, σ.own, (.ref a, .raw (instObj (kC k) d)) :: (v, .val (.ref (kC k))) :: σ.κ⟩ d [])
    (hp : (ap.endLine == pos.line) = true) (hstk : fr.stk = none := by rfl) (he : starEach [.Name y np] fr.env = (false, eval (.Name y np) fr.env) :: starEach [] fr.env := by rfl) :
    N c n fr σ (exec (.Assign [.Name x xp] (.Call (.Attribute (.Name "object" op) "__new__" ap) [.Name y np] [] pos) spos) fr.env) Φ := by
  have e1 : swapsWithSole [.Name x xp] (.Call (.Attribute (.Name "object" op) "__new__" ap) [.Name y np] [] pos) spos.line fr.env = pure false := by rfl
  have e2 : swappedStores [.Name x xp] (.Call (.Attribute (.Name "object" op) "__new__" ap) [.Name y np] [] pos) fr.env = pure none := by rfl
  rw [arm_exec_Assign, e1, e2]
  refine N_bindJ (J_standAt (N_bindJ (J_pure ?_)))
  simp only [Bool.false_eq_true, if_false]
  refine N_bindB (N_mono (Φ := fun v σ' d es => ∃ a w, v = .ref a ∧ es = [] ∧ σ' = ⟨σ.ρ, σ.own, (.ref a, .raw (instObj (kC k) d)) :: (w, .val (.ref (kC k))) :: σ.κ⟩) ?_ fun v σ' d es z => ?_)
  · rw [arm_eval_Call]
    show N c n fr σ (eval (.Name "object" op) fr.env >>= _) _
    refine N_bindJ (J_builtin (v := .type "object") hobj (by rfl) (by decide) ?_ hko hg hb)
    refine N_bindJ (J_standAt ?_)
    unfold methodCall
    have hf : methodCallForm ([Expr.Name y np].length + ([] : List Keyword).length) (backTo pos (starEach [.Name y np] fr.env)) (backToKw pos (keywordEach [] fr.env)) = true := by rw [he]; rfl
    rw [hf]
    refine N_bindJ (J_holding (J_calleeFew fun pl => J_methObjNew ?_))
    dsimp only
    unfold methodCallPos
    rw [if_pos (show (!true || ap.endLine == pos.line) = true by rw [hp]; rfl)]
    refine N_bindJ (J_pure (N_callImm (by intro a x; cases x) (J_evalArgs (J_spliced (J_name hcls (fun w => J_spliced_nil ?_) hy hy') he) he)))
    intro A r F s H Q q
    obtain rfl : w = .ref (kC k) := H.tmp _ (.head _)
    exact N_new hstk (fun a d => ⟨a, _, rfl, rfl, rfl⟩) A r F s H Q q
  · obtain ⟨a, w, rfl, rfl, rfl⟩ := z
    refine B_bind (B_pure ?_)
    show B c n fr d _ [] (assignAll (.ref a) [assign (.Name x xp) fr.env] >>= _) _
    refine B_bind (B_lift fun F₁ pin => J_assignName (J_store (p := .val (.ref a)) Has.val hx ho (B_pure (h a d w))))
end
end Mine
end

-- J19
section
open PySem PySem.W PyProof.Rows PySem.Calls
set_option maxRecDepth 100000
set_option maxHeartbeats 1000000
namespace Mine
section
variable {c : Cx} {n : Nat} {fr : Fc} {σ : AS} {env : Env}
theorem J_eqE {x y : Ex} {v w : Value} {Φ : Value → AS → Prop} (hn : 5 ≤ n) (hv : Has c σ v x.pv) (hw : Has c σ w y.pv) (k : Φ (.bool (Ex.eq x y)) σ) : J c n fr σ (compareOp .Eq v w) Φ := fun A r F s H Q q =>
  cmp_ofEq (richE hn r.1 H.baseF H.sub (hv _ _ _ H) (hw _ _ _ H) fun F' h' tk kp ex => q _ σ F' h' tk k (H.step kp ex))
theorem Ex.eq_of {x y : Ex} (h : Ex.eq x y = true) : x = y := by
  cases x with
  | b u => cases y with
    | b w => rw [show u = w from by simpa [Ex.eq] using h]
    | f g => cases h
  | f f => cases y with
    | b w => cases h
    | f g => rw [show f = g from beq_iff.mp h]
/-- what stands for a truth value is one -/
theorem J_known {α : Type} {v w : Value} {t : Value → Sem α} {Φ : α → AS → Prop} (hv : Has c σ v (.val w)) (h : J c n fr σ (t w) Φ) : J c n fr σ (t v) Φ := fun A r F s H Q q => by
  obtain rfl : v = w := hv _ _ _ H
  exact h A r F s H Q q
theorem Has.ex {e : Ex} {v : Value} (h : Has c σ v e.pv) : (∃ u, e = .b u ∧ Has c σ v (.val (.bool u))) ∨ ∃ f, e = .f f ∧ Has c σ v (.fm f) := by
  cases e with
  | b u => exact .inl ⟨u, rfl, h⟩
  | f g => exact .inr ⟨g, rfl, h⟩
theorem Has.bv {v : Value} {u : Bool} (h : Has c σ v (.bool u)) : Has c σ v (.val (.bool u)) := h
theorem seq_at (k n : Nat) (h : k < n) : seqIndex? (k : Int) n = some k := by
  unfold seqIndex?
  have h1 : ¬ ((k : Int) < 0) := by omega
  simp [h1, h]
def tyOf : Ex → Value
  | .b _ => .type "bool"
  | .f g => .ref (clsOf g)
theorem J_isiE {e : Ex} {v D : Value} {b : Bool} {Φ : Value → AS → Prop} (hv : Has c σ v e.pv) (h : kitOne (KK c.w) (tyOf e) D = some b) (k : Φ (.bool b) σ) : J c n fr σ (call (.builtin "isinstance") [v, D]) Φ := by
  cases e with
  | b u => exact J_known (t := fun v => call (.builtin "isinstance") [v, D]) (w := .bool u) hv (J_isiB h k)
  | f g => exact J_isiF hv h k
theorem J_isiET {e : Ex} {v tv : Value} {Ds : List Value} {b : Bool} {Φ : Value → AS → Prop} (hv : Has c σ v e.pv) (ht : Has c σ tv (.tup (Ds.map .val))) (h : kitAny (KK c.w) (tyOf e) Ds = some b) (k : Φ (.bool b) σ) : J c n fr σ (call (.builtin "isinstance") [v, tv]) Φ := by
  cases e with
  | b u => exact J_known (t := fun v => call (.builtin "isinstance") [v, tv]) (w := .bool u) hv (J_isiBT ht h k)
  | f g => exact J_isiFT hv ht h k
end
section
variable {c : Cx} {n : Nat} {fr : Fc} {σ : AS} {env : Env}
theorem readsK (w : World) (k : Kd) : readsIn (KK w) (kC k) (.type "type") = true := by cases k <;> kernel_rfl
theorem labelK (w : World) (k : Kd) : findCls (KK w) (.ref (kC k)) (.type "type") "label" = some (.val (.str (label k) (labTok k))) := by cases k <;> kernel_rfl
theorem J_labelC {k : Kd} {ex : Bool} {Φ : Value → AS → Prop} (kk : ∀ v, Φ v (σ.push v (.str (label k)))) : J c n fr σ (getAttr (.ref (kC k)) "label" ex) Φ := fun A r F s H Q q =>
  J_clsVal (Φ := fun v σ' => v = .str (label k) (labTok k) ∧ σ' = σ) (readsK c.w k) (labelK c.w k) rfl ⟨rfl, rfl⟩ A r F s H Q fun a σ' F' h' tk z H' => by
    obtain ⟨rfl, rfl⟩ := z
    exact q _ _ F' h' tk (kk _) (H'.push ⟨_, rfl⟩)
theorem B_known {d : Addr} {es : List DictEntry} {α : Type} {v w : Value} {t : Value → Sem α} {Φ : α → AS → List DictEntry → Prop} (hv : Has c σ v (.val w)) (h : B c n fr d σ es (t w) Φ) : B c n fr d σ es (t v) Φ := fun A r F s k H Z hp hd Q q => by
  obtain rfl : v = w := hv _ _ _ H
  exact h A r F s k H Z hp hd Q q
end
theorem putL_len (name : Str) (hs : Int) (key v : Value) : ∀ es : List DictEntry, (putL name hs key v es).length ≤ es.length + 1
  | [] => Nat.le_refl _
  | e :: r => by
    unfold putL
    split
    · simp
    · have := putL_len name hs key v r
      simp only [List.length_cons]; omega
theorem filterMap_text (as : List Fm) : (as.map PV.fm).filterMap (fun p => match p with | .fm f => some (PV.str (text f)) | _ => none) = (texts as).map .str := by
  rw [texts_map]
  induction as with
  | nil => rfl
  | cons f fs ih => simp only [List.map_cons, List.filterMap_cons]; rw [ih]

-- calls whose binding is known but for a part
theorem CT_defZ {c : Cx} {n : Nat} {f : Addr} {oc : Value} {od : Option Addr} {sl : Array (Option Value)} {fd : FuncData} {body : List Stmt} {ps : List PV} {kws : List (Str × PV)} {p : PV} {names : List Str} (Z : List PV → List (Value × PV) → Prop)
    (ho : (KK c.w).lookup f = some ⟨oc, od, .func fd, sl⟩) (hb : fd.body = .stmts body) (hcl : fd.closure = []) (hcd : codeIn (KK c.w) fd.code fd.qualname = true)
    (hbind : ∀ vs kvs, Steps c n (bindArgs fd ⟨vs, kvs⟩) (fun F _ => Reps F ps vs ∧ KReps F kws kvs) (fun F _ b => b.map (·.1) = names ∧ ∃ pvs κ, Z pvs κ ∧ Reps F pvs (b.map (·.2)) ∧ ∀ q ∈ κ, Rep F q.2 q.1))
    (hnd : names.Nodup) (hkind : ∀ L, ∀ x ∈ names, fd.scope.names.lookup x = some .local ∨ (fd.scope.names.lookup x = some .cell ∧ ((cellsFrom (L + 1) fd.scope.names []).lookup x).isSome = true))
    (hJ : ∀ pvs κ, Z pvs κ → ∀ s₀ F₀ L, J c n ⟨s₀, F₀, callEnvC fd L f, (callEnvC fd L f).cells, [], none⟩ ⟨names.zip pvs, none, κ⟩ (execs body (callEnvC fd L f)) (RetP c p))
    (hco : fd.scope.isCoroutine = false := by rfl) (hgen : fd.scope.isGenerator = false := by rfl) (hk : fd.scope.kind = .function := by rfl) :
    CT c (n + 1) (.ref f) ps kws p := by
  intro vs kvs A r F s hB hS hP1 hP2 Q hQ
  have r1 : Room n A.in1 := ⟨by have := r.1; show A.depth + 2 * n < 1000; omega, by have := r.2.1; show A.units + 1 + 30 * n < 9900; omega, r.2.2⟩
  refine codeAny_call_function (by have := r.1; show A.depth < 1000; omega) ((hB.inK hS) _ _ ho) rfl hco hgen hb (codeRec_of (hB.inK hS) hcd) ?_
  refine wpAny_mono (hbind vs kvs A.in1 r1 F s hB hS ⟨hP1, hP2⟩ _ fun binds F' h' tk kp e hr => ?_) (fun _ _ x => x) (fun _ _ x => x.elim)
  obtain ⟨hr1, pvs, κ, hZ, hr2, hκ⟩ := hr
  rw [hcl]
  refine wpAny_newFunctionEnv_cells hk (fun x hx => hkind _ x.1 (hr1 ▸ List.mem_map_of_mem hx)) fun env he s' x => ?_
  subst he
  refine ⟨(c.nolimit.keeps (hB.kp hS)).keeps fun b o q => x.toInCall.keep b o (kp b o q), codeAny_func ?_⟩
  obtain ⟨h₁, tk₁, hs'⟩ := x.toInCall.same
  subst hs'
  have r2 : Room n (A.deeper (callEnvC fd h'.objs.size f)) := ⟨by have := r.1; show A.depth + 1 + 2 * n < 1000; omega, by have := r.2.1; show A.units + 3 + 30 * n < 9900; omega, r.2.2⟩
  have off : ∀ a, h'.objs.size ≤ a → F' a = none := fun a ha => by
    cases q : F' a with
    | none => rfl
    | some o => exact absurd (Heap.lt_size (e.sub a o q)) (Nat.not_lt.mpr ha)
  have hn : (binds.map (·.1)).Nodup := hr1 ▸ hnd
  have H : Holds c ⟨{ s with heap := h', toks := tk }, F', callEnvC fd h'.objs.size f, (callEnvC fd h'.objs.size f).cells, [], none⟩ F' ⟨names.zip pvs, none, κ⟩ h₁ := by
    have none_of : ∀ a, h'.objs.size ≤ a → h'.get? a = none := fun a ha => by
      cases q : h'.get? a with
      | none => rfl
      | some o => exact absurd (Heap.lt_size q) (Nat.not_lt.mpr ha)
    refine ⟨hB.mono e.le, hk, nofun, Le.refl _, fun a o q => x.toInCall.keep a o (e.sub a o q), fun b o q => x.toInCall.keep b o q, fun a o q => .inl q, ⟨_, (bindC (callEnvC fd h'.objs.size f).kindOf binds fun _ => none), ⟨x.toInCall.ns, off _ (Nat.le_refl _), none_of _ (Nat.le_refl _), fun y d q => ?_, fun y y' d q q' => name_of_addr x.apart (PySem.mem_of_lookup q) (PySem.mem_of_lookup q'), fun y p q => ?_, fun y l ps q => (by cases q), fun q hq => (nomatch hq), fun q hq => (nomatch hq)⟩⟩, hκ⟩
    · have ab := x.above y d (PySem.mem_of_lookup q)
      exact ⟨x.cell y d q, Nat.ne_of_gt ab, off d (Nat.le_of_lt ab), none_of d (Nat.le_of_lt ab)⟩
    · obtain ⟨v, hv, hrv⟩ := lookup_zip hr1 hr2 q
      have hm : y ∈ names := by
        rw [← hr1]
        exact List.mem_map_of_mem (PySem.mem_of_lookup hv)
      have bv := (bind_val (kindOf := (callEnvC fd h'.objs.size f).kindOf) binds (fun _ => none) (fun _ => none) hn).1 y v hv
      rcases hkind h'.objs.size y hm with hl | ⟨hl, hs⟩
      · exact ⟨v, hrv, .inl ⟨hl, bv.1 hl⟩⟩
      · obtain ⟨d, hd⟩ := Option.isSome_iff_exists.mp hs
        have hl' : (callEnvC fd h'.objs.size f).kindOf y = some .cell := hl
        exact ⟨v, hrv, .inr (.inl ⟨hl', d, hd, hd, bv.2 (by rw [hl']; decide)⟩)⟩
  refine wpAny_mono (hJ _ _ hZ _ _ _ _ (Rm.strong r2) F' _ H (fun fl s' => Q (match fl with | .ret v => v | _ => .none) s') fun fl σ' F'' h'' tk'' hΦ H' => ?_) (fun fl s' q => q) (fun _ _ x => x.elim)
  have kp' : Kp s.heap h'' := kp.trans H'.keep
  have e' : Ext F F'' s.heap h'' := ⟨e.le.trans H'.le, H'.sub, fun a o q => by
    rcases H'.new a o q with z | z
    · exact e.new a o z
    · exact .inr (kp.none z)⟩
  refine hQ _ F'' h'' tk'' kp' e' ?_
  cases fl with
  | ret v => exact hΦ _ _ _ H'
  | _ => unfold RetP at hΦ; dsimp only at hΦ ⊢; rw [hΦ]; exact rfl
theorem alloc_wp {M : Model} {A : Around} {E : Value → Shared → Prop} {s : Shared} {o : Obj} {Q : Addr → Shared → Prop} (h : Q s.heap.objs.size { s with heap := s.heap.push o }) : wpAny M A (alloc o) Q E s := wpAny_alloc h
/-- cls, *args -/
theorem bindStar {c : Cx} {n : Nat} {fd : FuncData} {ps : List PV} {w : Value} {x y : Str} (e : ∀ v vs, bindArgs fd ⟨v :: vs, []⟩ = (newTuple vs >>= fun t => pure [(x, v), (y, t)])) (hz : ps.length ≤ sizeLine) : BindSpec c n fd (.val w :: ps) [] [x, y] [.val w, .tup ps] := fun vs kvs A r F s hB hS hP Q q => by
  obtain ⟨⟨v, vs', rfl, rv, rs⟩, hk⟩ := hP
  obtain rfl := hk.nilEq
  rw [e]
  refine wpAny_bind (Steps_newTuple (n := n) (ps := ps) (hz := by rw [rs.length]; exact hz) A r F s hB hS rs _ fun t F' h' tk kp ex rt => wpAny_pure (q _ F' h' tk kp ex ⟨rfl, ?_⟩))
  exact Reps.cons (show Rep F' (.val w) v from rv) (Reps.cons rt Reps.nil)
/-- cls, *args, **options, none given -/
theorem bindStarK {c : Cx} {n : Nat} {fd : FuncData} {ps : List PV} {w : Value} {x y z : Str} (e : ∀ v vs, bindArgs fd ⟨v :: vs, []⟩ = (newTuple vs >>= fun t => alloc emptyDict >>= fun d => pure [(x, v), (y, t), (z, .ref d)])) (hz : ps.length ≤ sizeLine) : BindSpec c n fd (.val w :: ps) [] [x, y, z] [.val w, .tup ps, .raw emptyDict] := fun vs kvs A r F s hB hS hP Q q => by
  obtain ⟨⟨v, vs', rfl, rv, rs⟩, hk⟩ := hP
  obtain rfl := hk.nilEq
  rw [e]
  refine wpAny_bind (Steps_newTuple (n := n) (ps := ps) (hz := by rw [rs.length]; exact hz) A r F s hB hS rs _ fun t F' h' tk kp ex rt => wpAny_bind (wpAny_alloc (wpAny_pure ?_)))
  have e2 := Ext.alloc ex.sub emptyDict rfl
  refine q _ _ _ _ (kp.trans (Kp.push _ _)) (Ext.trans kp ex e2) ⟨rfl, ?_⟩
  exact Reps.cons (show Rep _ (.val w) v from rv) (Reps.cons (rt.mono e2.le) (Reps.cons ⟨_, rfl, put_self _ _ _⟩ Reps.nil))
end Mine
end

-- J20
section
open PySem PySem.W PyProof.Rows PySem.Calls
set_option maxRecDepth 100000
set_option maxHeartbeats 1000000
namespace Mine
theorem bindArgs_starK {fd : FuncData} {a b k : Arg} (hp : fd.params = { posonlyargs := [], args := [a], vararg := some b, kwonlyargs := [], kw_defaults := [], kwarg := some k, defaults := [] }) (hd : fd.defaults = .none) (v : Value) (vs : List Value) :
    bindArgs fd ⟨v :: vs, []⟩ = (newTuple vs >>= fun t => alloc emptyDict >>= fun d => pure [(a.arg, v), (b.arg, t), (k.arg, .ref d)]) := by
  unfold bindArgs
  rw [hp, hd]
  simp [seqItems?, show notAStandIn .none = pure () from rfl]
theorem bindArgs_star {fd : FuncData} {a b : Arg} (hp : fd.params = { posonlyargs := [], args := [a], vararg := some b, kwonlyargs := [], kw_defaults := [], kwarg := none, defaults := [] }) (hd : fd.defaults = .none) (v : Value) (vs : List Value) :
    bindArgs fd ⟨v :: vs, []⟩ = (newTuple vs >>= fun t => pure [(a.arg, v), (b.arg, t)]) := by
  unfold bindArgs
  rw [hp, hd]
  simp [seqItems?, show notAStandIn .none = pure () from rfl]
theorem bindArgs_starKw {fd : FuncData} {a b k : Arg} (hp : fd.params = { posonlyargs := [], args := [a], vararg := some b, kwonlyargs := [], kw_defaults := [], kwarg := some k, defaults := [] }) (hd : fd.defaults = .none) (v : Value) (vs : List Value) (x : Str) (w : Value) (hx : (x == a.arg) = false) :
    bindArgs fd ⟨v :: vs, [(x, w)]⟩ = (newTuple vs >>= fun t => alloc emptyDict >>= fun d => nsSet d x w >>= fun _ => pure [(a.arg, v), (b.arg, t), (k.arg, .ref d)]) := by
  unfold bindArgs
  rw [hp, hd]
  have hx' : x ≠ a.arg := fun e => by rw [e] at hx; simp at hx
  simp [seqItems?, show notAStandIn .none = pure () from rfl, hx', sizeLine_is]
theorem ex_of {α β : Type} {m : Sem α} {t : Sem β} {P : (α → Sem β) → Prop} {K : α → Sem β} (h : t = m >>= K) (hP : P K) : ∃ K, t = m >>= K ∧ P K := ⟨K, h, hP⟩
theorem bindArgs_starO {fd : FuncData} {a b k o : Arg} {kd : List (Option Expr)} {d : Addr} (hp : fd.params = { posonlyargs := [], args := [a], vararg := some b, kwonlyargs := [o], kw_defaults := kd, kwarg := some k, defaults := [] }) (hd : fd.defaults = .none) (hkd : fd.kwdefaults = .ref d) (ho : (o.arg == a.arg) = false) (v : Value) (vs : List Value) :
    ∃ K : Option Value → Sem (List (Str × Value)), bindArgs fd ⟨v :: vs, []⟩ = (nsGet d o.arg >>= K) ∧ ∀ dv, K (some dv) = (newTuple vs >>= fun t => alloc emptyDict >>= fun d => pure [(a.arg, v), (o.arg, dv), (b.arg, t), (k.arg, .ref d)]) := by
  have hx' : o.arg ≠ a.arg := fun e => by rw [e] at ho; simp at ho
  have hx2 : (o.arg == a.arg) = false := ho
  have hx3 : (a.arg == o.arg) = false := by rw [beq_eq_false_iff_ne]; exact Ne.symm hx'
  refine ex_of (h := by
    unfold bindArgs
    rw [hp, hd, hkd]
    simp only [List.forIn_nil, pure_bind, bind_assoc, List.map_nil, List.map_cons, List.nil_append, seqItems?, show notAStandIn .none = pure () from rfl]
    simp [List.lookup_cons, hx2, hx3]
    exact rfl) ?_
  intro dv
  simp [List.lookup_cons, hx2, hx3]
section
variable {c : Cx} {n : Nat}
/-- cls, *args, o=default, **options, none given -/
theorem bindStarO {fd : FuncData} {ps : List PV} {w dv : Value} {x y z o : Str} {pd : PV} {d : Addr} (e : ∀ v vs, ∃ K : Option Value → Sem (List (Str × Value)), bindArgs fd ⟨v :: vs, []⟩ = (nsGet d o >>= K) ∧ ∀ dv, K (some dv) = (newTuple vs >>= fun t => alloc emptyDict >>= fun d => pure [(x, v), (o, dv), (y, t), (z, .ref d)]))
    (hd : nsIn (KK c.w) d o = some (some dv)) (hdv : ∀ F, Rep F pd dv) (hz : ps.length ≤ sizeLine) : BindSpec c n fd (.val w :: ps) [] [x, o, y, z] [.val w, pd, .tup ps, .raw emptyDict] := fun vs kvs A r F s hB hS hP Q q => by
  obtain ⟨⟨v, vs', rfl, rv, rs⟩, hk⟩ := hP
  obtain rfl := hk.nilEq
  obtain ⟨K, e1, e2⟩ := e v vs'
  rw [e1]
  refine wpAny_bind ((looks_nsIn (hB.inK hS) hd).here ?_)
  rw [e2]
  refine wpAny_bind (Steps_newTuple (n := n) (ps := ps) (hz := by rw [rs.length]; exact hz) A r F s hB hS rs _ fun t F' h' tk kp ex rt => wpAny_bind (wpAny_alloc (wpAny_pure ?_)))
  have e2 := Ext.alloc ex.sub emptyDict rfl
  refine q _ _ _ _ (kp.trans (Kp.push _ _)) (Ext.trans kp ex e2) ⟨rfl, ?_⟩
  exact Reps.cons (show Rep _ (.val w) v from rv) (Reps.cons (hdv _) (Reps.cons (rt.mono e2.le) (Reps.cons ⟨_, rfl, put_self _ _ _⟩ Reps.nil)))
/-- cls, *args, **options, one given by name -/
def KwZ (c : Cx) (w : Value) (ps : List PV) (name : Str) (v : Value) (pvs : List PV) (κ : List (Value × PV)) : Prop := ∃ d t k, d ≠ 1 ∧ pvs = [.val w, .tup ps, .val (.ref d)] ∧ κ = [(.ref d, .raw (dictOf [⟨PyData.keyHash c.w.params name, .str name t, v⟩] k))]
theorem bindStarKw {fd : FuncData} {ps : List PV} {w : Value} {x y z name : Str} {b : Bool} (e : ∀ v vs u, bindArgs fd ⟨v :: vs, [(name, u)]⟩ = (newTuple vs >>= fun t => alloc emptyDict >>= fun d => nsSet d name u >>= fun _ => pure [(x, v), (y, t), (z, .ref d)])) (hz : ps.length ≤ sizeLine) :
    ∀ vs kvs, Steps c n (bindArgs fd ⟨vs, kvs⟩) (fun F _ => Reps F (.val w :: ps) vs ∧ KReps F [(name, .bool b)] kvs) (fun F _ bs => bs.map (·.1) = [x, y, z] ∧ ∃ pvs κ, KwZ c w ps name (.bool b) pvs κ ∧ Reps F pvs (bs.map (·.2)) ∧ ∀ q ∈ κ, Rep F q.2 q.1) := fun vs kvs A r F s hB hS hP Q q => by
  obtain ⟨⟨v, vs', rfl, rv, rs⟩, hk1, hk2⟩ := hP
  match kvs, hk1, hk2 with
  | [(nm, u)], hk1, hk2 =>
    obtain rfl : nm = name := by simpa using hk1
    obtain ⟨u', rfl_, ru⟩ := Reps.one hk2
    have ru' : u = .bool b := by
      have : u' = .bool b := ru
      simp only [List.map_cons, List.map_nil, List.cons.injEq, and_true] at rfl_
      rw [rfl_, this]
    subst ru'
    rw [e]
    refine wpAny_bind (Steps_newTuple (n := n) (ps := ps) (hz := by rw [rs.length]; exact hz) A r F s hB hS rs _ fun t F' h' tk kp ex rt => wpAny_bind (wpAny_alloc ?_))
    have nd : h'.get? h'.objs.size = none := none_size h'
    have D : (h'.push emptyDict).get? h'.objs.size = some (dictOf [] 0) := Heap.get?_push_size _ rfl
    have sb := Heap.SameBut.update (h'.push emptyDict) h'.objs.size (Obj.putName nm (PyData.keyHash c.w.params nm) (.str nm tk) (.bool b))
    have D' : ((h'.push emptyDict).update h'.objs.size (Obj.putName nm (PyData.keyHash c.w.params nm) (.str nm tk) (.bool b))).get? h'.objs.size = some (dictOf [⟨PyData.keyHash c.w.params nm, .str nm tk, .bool b⟩] (putN nm [] 0)) := by
      rw [Heap.get?_update_self _ D (by rw [putName_dict]; rfl), putName_dict]; rfl
    unfold nsSet
    refine wpAny_bind (wpAny_bind (wpAny_bind (wpAny_askSetting (wpAny_pure (wpAny_bind (wpAny_mkText (wpAny_bind (wpAny_loadPart D ?_))))))))
    dsimp only
    rw [aRefKeyMayBeTheName_at, show (!(#[] : Array DictEntry).any (·.key.isStr nm) && (#[] : Array DictEntry).any (·.refKey)) = false from by simp]
    refine wpAny_updatePart D ?_
    have past : (dictOf [⟨PyData.keyHash c.w.params nm, .str nm tk, .bool b⟩] (putN nm [] 0)).data.pastItsLine = none := pastItsLine_dict (by rw [List.size_toArray, sizeLine_eq]; exact Nat.le_add_left 1 _)
    refine wpAny_pure ?_
    have kp2 : Kp h' ((h'.push emptyDict).update h'.objs.size (Obj.putName nm (PyData.keyHash c.w.params nm) (.str nm tk) (.bool b))) := fun a o q => (sb.2 a (fun z => by rw [z, nd] at q; cases q)).trans (Heap.get?_push_of_some _ q)
    have offd := ex.sub.off nd
    have le2 : Le F' (put F' h'.objs.size (dictOf [⟨PyData.keyHash c.w.params nm, .str nm tk, .bool b⟩] (putN nm [] 0))) := Le.put offd
    have e3 : Ext F' (put F' h'.objs.size (dictOf [⟨PyData.keyHash c.w.params nm, .str nm tk, .bool b⟩] (putN nm [] 0))) h' ((h'.push emptyDict).update h'.objs.size (Obj.putName nm (PyData.keyHash c.w.params nm) (.str nm tk) (.bool b))) := ⟨le2, fun a o q => by
        unfold put at q; split at q
        · rename_i z; subst z; cases q; exact D'
        · exact kp2 _ _ (ex.sub a o q), fun a o q => by
        unfold put at q; split at q
        · rename_i z; subst z; exact .inr nd
        · exact .inl q⟩
    have big : h'.objs.size ≠ 1 := by
      have hk := (hB.mono ex.le).kp ex.sub
      obtain ⟨o, es, ep, ho, _⟩ := c.g
      exact Nat.ne_of_gt (Nat.lt_of_le_of_lt (show 1 ≤ mainGlobals by decide) (Heap.lt_size (hk _ _ ho)))
    refine q _ _ _ _ (kp.trans kp2) (Ext.trans kp ex e3) ⟨rfl, _, _, ⟨_, tk, putN nm [] 0, big, rfl, rfl⟩, ?_, fun z hz => ?_⟩
    · exact Reps.cons (show Rep _ (.val w) v from rv) (Reps.cons (rt.mono le2) (Reps.cons rfl Reps.nil))
    · rcases List.mem_cons.mp hz with rfl | hz
      · exact ⟨_, rfl, put_self _ _ _⟩
      · cases hz
end
end Mine
end

-- J21
section
open PySem PySem.W PyProof.Rows PySem.Calls
set_option maxRecDepth 100000
set_option maxHeartbeats 1000000
namespace Mine
section
variable {c : Cx} {n : Nat} {fr : Fc} {σ : AS}
theorem J_Try {body orelse : List Stmt} {h₀ : ExceptHandler} {hs : List ExceptHandler} {pos : Pos} {Φ : Flow → AS → Prop} (h : J c n fr σ (execs body fr.env) fun fl σ' => match fl with | .next => J c n fr σ' (execs orelse fr.env) Φ | f => Φ f σ') : J c n fr σ (exec (.Try body (h₀ :: hs) orelse [] pos) fr.env) Φ :=
  fun A r F s H Q k => wpAny_Try_except (wpAny_mono (h A r F s H (fun fl s' => match fl with | .next => wpAny c.M A (execs orelse fr.env) Q (fun _ _ => False) s' | f => Q f s') fun fl σ' F' h' tk q H' => by
    cases fl with
    | next => exact q A r F' { s with heap := h', toks := tk } H' Q k
    | brk => exact k _ σ' F' h' tk q H'
    | cont => exact k _ σ' F' h' tk q H'
    | ret v => exact k _ σ' F' h' tk q H') (fun fl s' q => by cases fl <;> exact q) fun _ _ x => x.elim)
theorem J_while {test : Expr} {body orelse : List Stmt} {pos : Pos} {Φ : Flow → AS → Prop} (I : Nat → AS → Prop)
    (h : ∀ k σ, I k σ → J c n fr σ (isTrue test fr.env (eval test fr.env)) fun b σ₁ => if b then J c n fr σ₁ (execs body fr.env) fun fl σ₂ => match fl with
      | .next | .cont => ∃ m, m < k ∧ I m σ₂
      | .brk => Φ .next σ₂
      | .ret v => Φ (.ret v) σ₂
      else J c n fr σ₁ (execs orelse fr.env) Φ) (k : Nat) (h0 : I k σ) : J c n fr σ (exec (.While test body orelse pos) fr.env) Φ := fun A r F s H Q q => by
  refine wpAny_While (codeAny_mono (R := fun r s' => match r with | .ok f => Q f s' | .error _ => False) (codeAny_whileLoop (fun k s' => ∃ σ F h tk, s' = { s with heap := h, toks := tk } ∧ Holds c fr F σ h ∧ I k σ) ?_ k ⟨σ, F, s.heap, s.toks, rfl, H, h0⟩) fun r s' z => ?_)
  · rintro k s' ⟨σ, F, h', tk, rfl, H, hI⟩
    refine wpAny_mono (h k σ hI A r F { s with heap := h', toks := tk } H _ fun b σ₁ F₁ h₁ tk₁ z₁ H₁ => ?_) (fun _ _ x => x) fun _ _ x => x.elim
    cases b with
    | false =>
      simp only [Bool.false_eq_true, if_false] at z₁ ⊢
      exact wpAny_mono (z₁ A r F₁ { s with heap := h₁, toks := tk₁ } H₁ Q fun fl σ₂ F₂ h₂ tk₂ z₂ H₂ => q fl σ₂ F₂ h₂ tk₂ z₂ H₂) (fun _ _ x => x) fun _ _ x => x.elim
    | true =>
      simp only [if_true] at z₁ ⊢
      refine wpAny_mono (z₁ A r F₁ { s with heap := h₁, toks := tk₁ } H₁ (fun fl s₃ => match fl with | .next | .cont => ∃ m, m < k ∧ ∃ σ F h tk, s₃ = { s with heap := h, toks := tk } ∧ Holds c fr F σ h ∧ I m σ | .brk => Q .next s₃ | .ret v => Q (.ret v) s₃) fun fl σ₂ F₂ h₂ tk₂ z₂ H₂ => ?_) (fun fl s₃ z => by cases fl <;> exact z) fun _ _ x => x.elim
      cases fl with
      | next => obtain ⟨m, hm, hI'⟩ := z₂; exact ⟨m, hm, σ₂, F₂, h₂, tk₂, rfl, H₂, hI'⟩
      | cont => obtain ⟨m, hm, hI'⟩ := z₂; exact ⟨m, hm, σ₂, F₂, h₂, tk₂, rfl, H₂, hI'⟩
      | brk => exact q _ σ₂ F₂ h₂ tk₂ z₂ H₂
      | ret v => exact q _ σ₂ F₂ h₂ tk₂ z₂ H₂
  · cases r with
    | ok f => exact z
    | error e => exact z.elim
/-- kwargs.get(name, dflt) where it was given -/
theorem J_kwGet {d : Addr} {name : Str} {v dv nv : Value} {k : Nat} {Φ : Value → AS → Prop} (hd : Has c σ (.ref d) (.raw (dictOf [⟨PyData.keyHash c.w.params name, .str name tt, v⟩] k))) (hne : d ≠ 1) (hn : Has c σ nv (.str name)) (h : Φ v σ) : J c n fr σ (call (.builtin "dict.get") [.ref d, nv, dv]) Φ := fun A r F s H Q q => by
  obtain ⟨a, e, ha⟩ := hd _ _ _ H
  cases e
  obtain ⟨t, rfl⟩ := hn _ _ _ H
  have ho := H.sub _ _ ha
  refine call_meetsIn PySem.F.slot_dict_get ⟨_, ho, rfl⟩ PySem.F.entry_dict_get (PySem.F.args_dict_get_3 _ _ _) (meets_dict_get_default (PySem.strKind P0 c.w) d (k := name) (strKind_is _ _ _ _) (by simpa [sysModules] using hne) dv) ⟨fun y => if y = name then some v else none, ⟨_, _, _, ho, ⟨rfl, rfl, rfl⟩, rfl, ?_, fun y => ?_⟩, ?_⟩
  · intro e he
    simp at he
    subst he
    exact ⟨name, strKind_is _ _ _ _, rfl⟩
  · show ((#[(⟨PyData.keyHash c.w.params name, .str name tt, v⟩ : DictEntry)]).find? fun e => PySem.Value.isStrOf y e.key).map (·.val) = _
    by_cases e : y = name
    · subst e; simp [PySem.Value.isStrOf]
    · have : (name == y) = false := by simpa using Ne.symm e
      simp [PySem.Value.isStrOf, this, e]
  · simp only [if_true, Option.getD_some]
    exact q _ σ F s.heap _ h H
end
end Mine
end

-- S1
section
open PySem
namespace Mine
theorem lex_trans_lt {x y z : List Nat} (h1 : x < y) (h2 : y < z) : x < z := List.lt_trans h1 h2
theorem lt_iff (f g : Fm) : Fm.lt f g = true ↔ T f < T g := by rw [← text_lt]; simp
theorem lt_false (f g : Fm) : Fm.lt f g = false ↔ ¬ T f < T g := by rw [← text_lt]; simp
theorem lt_total {f g : Fm} (h1 : Fm.lt f g = false) (h2 : Fm.lt g f = false) : f = g :=
  text_inj (List.le_antisymm (List.not_lt.mp ((lt_false g f).mp h2)) (List.not_lt.mp ((lt_false f g).mp h1)))
theorem lt_trans' {f g k : Fm} (h1 : Fm.lt g f = false) (h2 : Fm.lt k g = false) : Fm.lt k f = false := by
  rw [lt_false] at *
  exact List.not_lt.mpr (List.le_trans (List.not_lt.mp h1) (List.not_lt.mp h2))
theorem lt_asymm' {f g : Fm} (h : Fm.lt f g = true) : Fm.lt g f = false := by
  rw [lt_false]; rw [lt_iff] at h
  exact List.not_lt.mpr (List.le_of_lt h)
theorem ins_perm (f : Fm) : ∀ l : List Fm, (ins f l).Perm (f :: l)
  | [] => .refl _
  | g :: r => by
    unfold ins; split
    · exact (List.Perm.cons g (ins_perm f r)).trans (.swap f g r)
    · exact .refl _
theorem sortF_perm : ∀ l : List Fm, (sortF l).Perm l
  | [] => .refl _
  | f :: r => (ins_perm f (sortF r)).trans (.cons f (sortF_perm r))
theorem ins_sorted (f : Fm) : ∀ l : List Fm, l.Pairwise (fun a b => Fm.lt b a = false) → (ins f l).Pairwise (fun a b => Fm.lt b a = false)
  | [], _ => by unfold ins; exact List.pairwise_singleton ..
  | g :: r, h => by
    have hg := List.pairwise_cons.mp h
    unfold ins; split
    · rename_i q
      refine List.pairwise_cons.mpr ⟨fun b hb => ?_, ins_sorted f r hg.2⟩
      rcases List.mem_cons.mp ((ins_perm f r).mem_iff.mp hb) with rfl | hb
      · exact lt_asymm' q
      · exact hg.1 b hb
    · rename_i q
      have q' : Fm.lt g f = false := by simpa using q
      refine List.pairwise_cons.mpr ⟨fun b hb => ?_, h⟩
      rcases List.mem_cons.mp hb with rfl | hb
      · exact q'
      · exact lt_trans' q' (hg.1 b hb)
theorem sortF_sorted : ∀ l : List Fm, (sortF l).Pairwise (fun a b => Fm.lt b a = false)
  | [] => .nil
  | f :: r => ins_sorted f _ (sortF_sorted r)
theorem sorted_unique {l l' : List Fm} (p : l.Perm l') (h : l.Pairwise (fun a b => Fm.lt b a = false)) (h' : l'.Pairwise (fun a b => Fm.lt b a = false)) : l = l' := by
  induction l generalizing l' with
  | nil => exact (List.Perm.nil_eq p)
  | cons f r ih =>
    cases l' with
    | nil => exact absurd p.length_eq (by simp)
    | cons g s =>
      have e : f = g := by
        have hf := List.pairwise_cons.mp h
        have hg := List.pairwise_cons.mp h'
        rcases List.mem_cons.mp (p.mem_iff.mp (.head _)) with e | m1
        · exact e
        · rcases List.mem_cons.mp (p.mem_iff.mpr (.head _)) with e | m2
          · exact e.symm
          · exact lt_total (hg.1 f m1) (hf.1 g m2)
      subst e
      rw [ih (List.Perm.cons_inv p) (List.pairwise_cons.mp h).2 (List.pairwise_cons.mp h').2]
theorem sortF_eq {l l' : List Fm} (p : l'.Perm l) (h : l'.Pairwise (fun a b => Fm.lt b a = false)) : l' = sortF l := sorted_unique (p.trans (sortF_perm l).symm) h (sortF_sorted l)
inductive All2 {α β : Type} (R : α → β → Prop) : List α → List β → Prop
  | nil : All2 R [] []
  | cons {a b l m} : R a b → All2 R l m → All2 R (a :: l) (b :: m)
/-- pairs that stand for formulas, put in another order -/
theorem all2_perm {α β : Type} {R : α → β → Prop} {x x' : List α} (p : x.Perm x') : ∀ {y : List β}, All2 R x y → ∃ y' : List β, y'.Perm y ∧ All2 R x' y' := by
  induction p with
  | nil => intro y h; exact ⟨y, .refl _, h⟩
  | cons a _ ih =>
    intro y h
    cases h with
    | cons r rs =>
      obtain ⟨y', p', h'⟩ := ih rs
      exact ⟨_, .cons _ p', .cons r h'⟩
  | swap a b l =>
    intro y h
    cases h with
    | cons r rs => cases rs with
      | cons r' rs' => exact ⟨_, .swap _ _ _, .cons r' (.cons r rs')⟩
  | trans _ _ ih1 ih2 =>
    intro y h
    obtain ⟨y1, p1, h1⟩ := ih1 h
    obtain ⟨y2, p2, h2⟩ := ih2 h1
    exact ⟨y2, p2.trans p1, h2⟩
theorem All2.get {α β : Type} {R : α → β → Prop} : ∀ {x : List α} {y : List β}, All2 R x y → ∀ (i : Nat) (b : β), y[i]? = some b → ∃ a, x[i]? = some a ∧ R a b
  | _, _, .nil, i, b, h => by simp at h
  | _, _, .cons r rs, 0, b, h => by simp at h; subst h; exact ⟨_, rfl, r⟩
  | _, _, .cons r rs, i + 1, b, h => by
    obtain ⟨a, h1, h2⟩ := rs.get i b (by simpa using h)
    exact ⟨a, by simpa using h1, h2⟩
theorem All2.length {α β : Type} {R : α → β → Prop} : ∀ {x : List α} {y : List β}, All2 R x y → x.length = y.length
  | _, _, .nil => rfl
  | _, _, .cons _ rs => by simp [rs.length]
end Mine
end

-- J22
section
open PySem PySem.W PyProof.Rows PySem.Calls
set_option maxRecDepth 100000
set_option maxHeartbeats 1000000
namespace Mine
/-- a key and its item stand for a formula -/
def KeyR (F : PM) (p : Keyed) (f : Fm) : Prop := (∃ t, p.1 = .str (text f) t) ∧ RepF F f p.2
theorem keyR_zip {F : PM} : ∀ {ks vs : List Value} {as : List Fm}, Reps F ((texts as).map .str) ks → RepFs F as vs → All2 (KeyR F) (ks.zip vs) as
  | _, _, [], h1, h2 => by rw [show _ = ([] : List Value) from h1]; exact .nil
  | _, _, f :: fs, ⟨k, ks, e1, ⟨t, r1⟩, rs1⟩, ⟨v, vs, e2, r2, rs2⟩ => by
    rw [e1, e2]
    exact .cons ⟨⟨t, r1⟩, r2⟩ (keyR_zip rs1 rs2)
theorem keyR_out {F : PM} : ∀ {ps : List Keyed} {bs : List Fm}, All2 (KeyR F) ps bs → RepFs F bs (ps.map (·.2))
  | _, _, .nil => rfl
  | _, _, .cons r rs => ⟨_, _, rfl, r.2, keyR_out rs⟩
theorem keyR_K {F : PM} {xs : Array Keyed} {bs : List Fm} (h : All2 (KeyR F) xs.toList bs) (i : Nat) (b : Fm) (hb : bs[i]? = some b) : PyProof.Rows.KK PyProof.Rows.strKind xs i = T b := by
  obtain ⟨p, hp, ⟨t, ht⟩, _⟩ := h.get i b hb
  have hp' : xs[i]? = some p := by rw [← Array.getElem?_toList]; exact hp
  unfold PyProof.Rows.KK
  rw [hp']
  show (PyProof.Rows.strKind.keyOf p.1).getD PyProof.Rows.strKind.dflt = _
  rw [ht]
  rfl
theorem sorted_keys {F : PM} {xs : Array Keyed} {ks vs : List Value} {as : List Fm} (h : All2 (KeyR F) (ks.zip vs) as) (hp : xs.toList.Perm (ks.zip vs)) (hs : SortedToK PyProof.Rows.strKind xs xs.size) : RepFs F (sortF as) (xs.map (·.2)).toList := by
  obtain ⟨bs, pb, hb⟩ := all2_perm hp.symm h
  have e : bs = sortF as := by
    refine sortF_eq pb (List.pairwise_iff_getElem.mpr fun i j hi hj hij => ?_)
    have hl := hb.length
    have q := hs i j (Nat.le_of_lt hij) (by rw [← Array.length_toList, hl]; exact hj)
    rw [keyR_K hb i _ (List.getElem?_eq_getElem hi), keyR_K hb j _ (List.getElem?_eq_getElem hj)] at q
    have q' : decide (T bs[j] < T bs[i]) = false := q
    rw [lt_false]
    simpa using q'
  rw [← e, Array.toList_map]
  exact keyR_out hb
theorem Reps.strsAre {F : PM} : ∀ {ts : List Str} {vs : List Value}, Reps F (ts.map .str) vs → StrsAre vs ts
  | [], _, h => by rw [show _ = ([] : List Value) from h]; exact .nil
  | t :: ts, _, ⟨v, vs', e, ⟨u, r⟩, rs⟩ => by rw [e, r]; exact .cons _ _ (Reps.strsAre rs)
theorem texts_take (as : List Fm) (j : Nat) (f : Fm) (h : as[j]? = some f) : texts (as.take (j + 1)) = texts (as.take j) ++ [text f] := by
  rw [texts_map, texts_map, List.take_add_one, h]; simp
theorem RepFs.get {F : PM} : ∀ {as : List Fm} {vs : List Value} {i : Nat} {v : Value}, RepFs F as vs → vs[i]? = some v → ∃ f, as[i]? = some f ∧ RepF F f v
  | [], _, i, v, e, h => by rw [show _ = ([] : List Value) from e] at h; simp at h
  | f :: fs, _, i, v, ⟨w, ws, e, r, rs⟩, h => by
    subst e
    cases i with
    | zero => simp at h; subst h; exact ⟨f, rfl, r⟩
    | succ i => simp only [List.getElem?_cons_succ] at h ⊢; exact RepFs.get rs h
/-- the state of a sort's key making -/
structure SortI (c : Cx) (F : PM) (s : Shared) (kS a : Addr) (e1 : Nat) (as : List Fm) (i : Nat) (s' : Shared) (F' : PM) (h' : Heap) (tk : Nat) (kA : Array Value) (e : Nat) : Prop where
  eq : s' = { s with heap := h', toks := tk }
  kp : Kp s.heap h'
  ex : Ext F F' s.heap h'
  offK : F' kS = none
  offA : F' a = none
  atK : h'.get? kS = some (seqObj "list" kA e)
  atA : h'.get? a = some (seqObj "list" #[] e1)
  keys : Reps F' ((texts (as.take i)).map .str) kA.toList
section
variable {c : Cx} {n : Nat} {A : Around}
theorem sort_tail {F F' : PM} {s : Shared} {kS a : Addr} {e1 : Nat} {as : List Fm} {vs : List Value} {h' : Heap} {tk : Nat} {kA : Array Value} {e : Nat} {s' : Shared} {st : SortSt} {P : PySem.Fin → Shared → Prop} (I : SortI c F s kS a e1 as as.length s' F' h' tk kA e)
    (hka : kS ≠ a) (nK : s.heap.get? kS = none) (nA : s.heap.get? a = none) (h64 : as.length < 64) (hr : RepFs F as vs) (hp : (arrOf st).Perm (kA.zip vs.toArray)) (hs : SortedToK PyProof.Rows.strKind (arrOf st) (arrOf st).size) (hfl : failedOf st = none)
    (h : ∀ F₂ h₂ tk₂ ws k, Kp s.heap h₂ → Ext F F₂ s.heap h₂ → F₂ a = some (lstObj ws k) → RepFs F₂ (sortF as) ws → P (.done (.ret .none)) { s with heap := h₂, toks := tk₂ }) : wpAny c.M A (ksk_tail a false e1 (.ref kS) st) P (fun _ _ => False) s' := by
  obtain ⟨rfl, kp, ex, oK, oA, aK, aA, ks⟩ := I
  rw [List.take_length] at ks
  have e2 : vs.length = as.length := by have := (hr.reps).length; rw [List.length_map] at this; exact this
  have e3 : kA.size = as.length := by have := ks.length; rw [List.length_map, texts_map, List.length_map, Array.length_toList] at this; exact this
  have z := keyR_zip ks (hr.mono ex.le)
  have hpl : (arrOf st).toList.Perm (kA.toList.zip vs) := by rw [← ksk_zip]; exact Array.perm_iff_toList_perm.mp hp
  have out := sorted_keys z hpl hs
  have hsz2 : (arrOf st).size = as.length := by rw [hp.size_eq, Array.size_zip, e3, List.size_toArray, e2, Nat.min_self]
  have s1 := Heap.SameBut.update h' kS (Obj.mapSeq fun _ => (#[] : Array Value))
  have na1 := (s1.2 a hka.symm).trans aA
  have s2 := Heap.SameBut.update (h'.update kS (Obj.mapSeq fun _ => (#[] : Array Value))) a (Obj.mapSeq fun _ => (arrOf st).map (·.2))
  have g := get?_update_seq (c := "list") na1 fun _ => (arrOf st).map (·.2)
  unfold ksk_tail
  try dsimp only
  refine wpAny_bind (listUpdate_at aK rfl ?_ (by rw [e3, sizeLine_eq]; omega) (Nat.zero_le _))
  refine wpAny_bind (wpAny_letGo ?_)
  refine wpAny_bind (seqEpoch_at na1 rfl ?_)
  simp only [Bool.false_eq_true, if_false]
  refine wpAny_bind (listUpdate_at na1 rfl ?_ (Nat.zero_le _) (by rw [Array.size_map, hsz2, sizeLine_eq]; omega))
  rw [hfl]
  simp only [bne_self_eq_false, Bool.false_eq_true, if_false]
  have oldK : ∀ b o, s.heap.get? b = some o → b ≠ kS := fun b o q z => by rw [z, nK] at q; cases q
  have oldA : ∀ b o, s.heap.get? b = some o → b ≠ a := fun b o q z => by rw [z, nA] at q; cases q
  have kp2 : Kp s.heap ((h'.update kS (Obj.mapSeq fun _ => (#[] : Array Value))).update a (Obj.mapSeq fun _ => (arrOf st).map (·.2))) := fun b o q => (s2.2 b (oldA b o q)).trans ((s1.2 b (oldK b o q)).trans (kp b o q))
  obtain ⟨k2, g'⟩ : ∃ k2, ((h'.update kS (Obj.mapSeq fun _ => (#[] : Array Value))).update a (Obj.mapSeq fun _ => (arrOf st).map (·.2))).get? a = some (lstObj ((arrOf st).map (·.2)).toList k2) := ⟨_, g⟩
  have le2 : Le F' (put F' a (lstObj ((arrOf st).map (·.2)).toList k2)) := Le.put oA
  refine wpAny_pure (h (put F' a (lstObj ((arrOf st).map (·.2)).toList k2)) _ _ _ _ kp2 ⟨ex.le.trans le2, fun b o q => ?_, fun b o q => ?_⟩ (put_self _ _ _) (out.mono le2))
  · unfold put at q; split at q
    · rename_i z; subst z; cases q; exact g'
    · rename_i z
      have hb : b ≠ kS := fun w => by rw [w, oK] at q; cases q
      exact (s2.2 b z).trans ((s1.2 b hb).trans (ex.sub b o q))
  · unfold put at q; split at q
    · rename_i z; subst z; exact .inr nA
    · exact ex.new b o q
theorem sort_end {F F' : PM} {s : Shared} {kS a : Addr} {e1 : Nat} {as : List Fm} {vs : List Value} {h' : Heap} {tk : Nat} {kA : Array Value} {e : Nat} {s' : Shared} {P : PySem.Fin → Shared → Prop} (I : SortI c F s kS a e1 as as.length s' F' h' tk kA e)
    (hka : kS ≠ a) (nK : s.heap.get? kS = none) (nA : s.heap.get? a = none) (h64 : as.length < 64) (hr : RepFs F as vs)
    (h : ∀ F₂ h₂ tk₂ ws k, Kp s.heap h₂ → Ext F F₂ s.heap h₂ → F₂ a = some (lstObj ws k) → RepFs F₂ (sortF as) ws → P (.done (.ret .none)) { s with heap := h₂, toks := tk₂ }) : wpAny c.M A (ksk_end a false vs.toArray e1 (.ref kS) kA) P (fun _ _ => False) s' := by
  have ks := I.keys
  rw [List.take_length] at ks
  have hS := ks.strsAre
  have e2 : vs.length = as.length := by have := (hr.reps).length; rw [List.length_map] at this; exact this
  have e3 : kA.size = as.length := by have := ks.length; rw [List.length_map, texts_map, List.length_map, Array.length_toList] at this; exact this
  have hzs : (kA.zip vs.toArray).size = as.length := by rw [Array.size_zip, e3, List.size_toArray, e2, Nat.min_self]
  unfold ksk_end
  try dsimp only
  simp only [Bool.false_eq_true, if_false]
  by_cases h2 : vs.toArray.size < 2
  · rw [if_pos h2, if_pos h2]
    refine wpAny_bind (wpAny_pure ?_)
    rw [StateT.run_pure]
    refine wpAny_bind (wpAny_pure ?_)
    try dsimp only
    refine sort_tail (st := SortSt.mk' general' (kA.zip vs.toArray) #[] 7 none) I hka nK nA h64 hr (Array.Perm.refl _) ?_ rfl h
    intro i j hij hj
    have hj2 : j < (kA.zip vs.toArray).size := hj
    rw [hzs] at hj2
    rw [List.size_toArray, e2] at h2
    have : i = j := by omega
    subst this
    exact PyProof.Rows.KeyOrd.kle_refl _
  · rw [if_neg h2, if_neg h2]
    rw [List.size_toArray, e2] at h2
    have kk : keyKind' kA = pure oneType' := by
      cases q : kA.toList with
      | nil => have := Array.length_toList (xs := kA); rw [q, e3] at this; simp at this; omega
      | cons v₁ r =>
        cases r with
        | nil => have := Array.length_toList (xs := kA); rw [q, e3] at this; simp at this; omega
        | cons v₂ rest =>
          have ek : kA = (v₁ :: v₂ :: rest).toArray := by rw [← q, Array.toArray_toList]
          rw [ek]
          exact keyKind_strs (by rw [q] at hS; exact hS)
    rw [kk]
    refine wpAny_bind (wpAny_pure ?_)
    have hko : PyProof.Rows.KeysOf PyProof.Rows.strKind (kA.zip vs.toArray) := by
      intro p hp
      rw [ksk_zip] at hp
      obtain ⟨x, y⟩ := p
      obtain ⟨z, t, hz⟩ := hS.all _ (List.of_mem_zip hp).1
      exact ⟨z.cps.toList, by show PyProof.Rows.strKind.keyOf x = _; rw [hz]⟩
    refine wpAny_bind (wpAny_mono (wpS_sortRunsK (κ := PyProof.Rows.strKind) (a₀ := kA.zip vs.toArray) (st := SortSt.mk' oneType' (kA.zip vs.toArray) #[] 7 none)
      (Q := fun _ st' => (arrOf st').Perm (kA.zip vs.toArray) ∧ failedOf st' = none ∧ SortedToK PyProof.Rows.strKind (arrOf st') (kA.zip vs.toArray).size)
      strKind_oneLt hko ⟨Array.Perm.refl _, rfl, rfl, rfl⟩ (by rw [hzs]; omega) (by rw [hzs]; exact h64) fun st' a1 a2 a3 => ⟨a1, a2, a3⟩) ?_ fun _ _ e => e)
    rintro ⟨⟨⟩, st'⟩ s'' ⟨rfl, hp, hf, hs⟩
    try dsimp only
    exact sort_tail I hka nK nA h64 hr hp (by rw [hp.size_eq]; exact hs) hf h
theorem sort_rest {m : Nat} (r : Room m A) {f : Value} (hf : ∀ g : Fm, CT c m f [.fm g] [] (.str (text g))) {F : PM} {s : Shared} {kS a : Addr} {e1 : Nat} {as : List Fm} {vs : List Value} {h₀ : Heap} {tk₀ : Nat} {e : Nat} {P : PySem.Fin → Shared → Prop} (hB : Base c F)
    (I : SortI c F s kS a e1 as 0 { s with heap := h₀, toks := tk₀ } F h₀ tk₀ #[] e) (hka : kS ≠ a) (nK : s.heap.get? kS = none) (nA : s.heap.get? a = none) (h64 : as.length < 64) (hr : RepFs F as vs)
    (h : ∀ F₂ h₂ tk₂ ws k, Kp s.heap h₂ → Ext F F₂ s.heap h₂ → F₂ a = some (lstObj ws k) → RepFs F₂ (sortF as) ws → P (.done (.ret .none)) { s with heap := h₂, toks := tk₂ }) : wpAny c.M A (ksk_rest a f false vs.toArray e1 (.ref kS)) P (fun _ _ => False) { s with heap := h₀, toks := tk₀ } := by
  have e2 : vs.length = as.length := by have := (hr.reps).length; rw [List.length_map] at this; exact this
  unfold ksk_rest
  refine wpAny_bind (wpAny_rule ?_)
  first
    | rw [List.forIn_toArray]
    | (rw [← Array.forIn_toList]; simp only [List.toList_toArray])
    | rw [← Array.forIn_toList]
  refine wpAny_bind (ksk_fold (fun i s' => ∃ F' h' tk kA e, SortI c F s kS a e1 as i s' F' h' tk kA e) vs 0 _ ⟨F, h₀, tk₀, #[], e, I⟩ ?step ?done)
  case step =>
    rintro j x s' hx ⟨F', h', tk, kA, e, rfl, kp, ex, oK, oA, aK, aA, ks⟩
    simp only [Nat.zero_add] at ks ⊢
    obtain ⟨g, hg, rg⟩ := hr.get hx
    have hj : j < as.length := (List.getElem?_eq_some_iff.mp hg).1
    have e3 : kA.size = j := by have := ks.length; rw [List.length_map, texts_map, List.length_map, Array.length_toList, List.length_take] at this; omega
    refine wpAny_bind (wpAny_attempt (wpAny_call (codeAny_mono (hf g [x] [] A r F' { s with heap := h', toks := tk } (hB.mono ex.le) ex.sub (Reps.cons (rg.mono ex.le) Reps.nil) KReps.nil _ fun v F'' h'' tk'' kp' ex' rv => ?_) fun r s' z => by
      rcases r with e | (v | _ | _ | _) <;> first | exact z | exact z.elim)))
    obtain ⟨t2, rfl⟩ := rv
    try dsimp only
    have aK' := kp' _ _ aK
    have oK' := ex'.off oK aK
    have s1 := Heap.SameBut.update h'' kS (Obj.mapSeq (·.push (.str (text g) t2)))
    obtain ⟨c2, hc2⟩ : ∃ c2, (h''.update kS (Obj.mapSeq (·.push (.str (text g) t2)))).get? kS = some (seqObj "list" (kA.push (.str (text g) t2)) c2) := ⟨_, get?_update_seq aK' (·.push (.str (text g) t2))⟩
    refine wpAny_bind (listUpdate_at aK' rfl ?_ (by rw [e3, sizeLine_eq]; omega) (by rw [Array.size_push, e3, sizeLine_eq]; omega))
    have old : ∀ b o, s.heap.get? b = some o → b ≠ kS := fun b o q z => by rw [z, nK] at q; cases q
    refine wpAny_pure ⟨rfl, F'', _, _, kA.push (.str (text g) t2), c2, rfl, fun b o q => (s1.2 b (old b o q)).trans (kp' _ _ (kp b o q)), ⟨ex.le.trans ex'.le, fun b o q => (s1.2 b fun z => by rw [z, oK'] at q; cases q).trans (ex'.sub b o q), fun b o q => ?_⟩, oK', ex'.off oA aA, hc2, (s1.2 a (Ne.symm hka)).trans (kp' _ _ aA), ?_⟩
    · rcases ex'.new b o q with z | z
      · exact ex.new b o z
      · exact .inr (kp.none z)
    · rw [texts_take as j g hg, List.map_append, Array.toList_push]
      exact (ks.mono ex'.le).append (Reps.cons ⟨t2, rfl⟩ Reps.nil)
  case done =>
    rintro s' ⟨F', h', tk, kA, e, I'⟩
    rw [show 0 + vs.length = as.length by omega] at I'
    try dsimp only
    have aK := I'.atK
    have hs' := I'.eq
    refine wpAny_bind (listItems_at (s := s') (by rw [hs']; exact aK) rfl ?_)
    exact sort_end I' hka nK nA h64 hr h
end
section
variable {c : Cx} {n : Nat} {fr : Fc} {σ : AS}
/-- sorted(args, key=f), the keys being the texts -/
theorem J_sortedKey {m : Nat} {v : Value} {qa : Addr} {as : List Fm} {Φ : Value → AS → Prop} (hf : ∀ g : Fm, CT c m (.ref qa) [.fm g] [] (.str (text g))) (hm : m + 2 ≤ n) (hv : Has c σ v (.lst (as.map .fm))) (h64 : as.length < 64) (kk : ∀ r, Φ r (σ.push r (.lst ((sortF as).map .fm)))) :
    J c n fr σ (call (.builtin "sorted") [v] [("key", .ref qa)]) Φ := fun A r F s H Q q => by
  obtain ⟨l, vs, nn, rfl, ha, hr⟩ := hv _ _ _ H
  have hr' := hr.repFs
  have e2 : vs.length = as.length := by have := hr.length; rw [List.length_map] at this; exact this
  have r2 : Room m A.in1.in1 := (r.mono hm).in1.in1
  have hl : s.heap.IsList l vs.toArray := ⟨_, H.sub _ _ ha, rfl, nn, rfl⟩
  refine call_function_entry_kw kind_sorted plain_sorted entry_sorted (ksk_s1 _ _) ?_
  unfold Builtin.«sorted»
  refine wpAny_bind (m := checkCount "sorted" 1 1 _) (wpAny_pure ?_)
  refine wpAny_bind (collect_list hl ?_ (by rw [sizeLine_eq]; omega))
  refine wpAny_bind (wpAny_newList ?_ (by rw [sizeLine_eq]; omega))
  have hsz : ((s.heap.push (seqObj "list" #[] 0)).update s.heap.objs.size (Obj.mapSeq (· ++ vs.toArray))).objs.size = s.heap.objs.size + 1 := by
    rw [Heap.size_update, size_push']
  have hoL : (((s.heap.push (seqObj "list" #[] 0)).update s.heap.objs.size (Obj.mapSeq (· ++ vs.toArray))).push (seqObj "list" vs.toArray 0)).get? (s.heap.objs.size + 1) = some (seqObj "list" vs.toArray 0) := by
    rw [← hsz]; exact Heap.get?_push_size _ rfl
  have keep : Kp s.heap (((s.heap.push (seqObj "list" #[] 0)).update s.heap.objs.size (Obj.mapSeq (· ++ vs.toArray))).push (seqObj "list" vs.toArray 0)) := fun b o q => by
    have hlt : b < s.heap.objs.size := Heap.lt_size q
    rw [Heap.get?_push_ne _ _ _ (by rw [hsz]; exact Nat.ne_of_lt (Nat.lt_succ_of_lt hlt)), Heap.get?_update_ne _ _ _ _ (Nat.ne_of_lt hlt), Heap.get?_push_ne _ _ _ (Nat.ne_of_lt hlt)]
    exact q
  show wpAny _ _ _ _ _ { s with heap := ((s.heap.push (seqObj "list" #[] 0)).update s.heap.objs.size (Obj.mapSeq (· ++ vs.toArray))).push (seqObj "list" vs.toArray 0) }
  rw [hsz]
  refine wpAny_bind (wpAny_holding (wpAny_call_entry_kw slot_list_sort ⟨_, hoL, rfl⟩ entry_list_sort ?body (ksk_l1 _ _)))
  case body =>
    show wpAny c.M A.in1.in1 (Builtin.«list.sort» ⟨[.ref (s.heap.objs.size + 1)], [(Str.ofString "key", .ref qa)]⟩) _ _ _
    rw [ksk_t1]
    generalize hH : ((s.heap.push (seqObj "list" #[] 0)).update s.heap.objs.size (Obj.mapSeq (· ++ vs.toArray))).push (seqObj "list" vs.toArray 0) = h1 at hoL keep ⊢
    generalize haD : s.heap.objs.size + 1 = a at hoL ⊢
    have nA : s.heap.get? a = none := Heap.get?_none_of_le (by rw [← haD]; exact Nat.le_succ _)
    have la : a < h1.objs.size := Heap.lt_size hoL
    have s1 := Heap.SameBut.update h1 a (Obj.mapSeq fun _ => (#[] : Array Value))
    obtain ⟨e1, ho1⟩ : ∃ e1, (h1.update a (Obj.mapSeq fun _ => (#[] : Array Value))).get? a = some (seqObj "list" #[] e1) := ⟨_, get?_update_seq hoL fun _ => #[]⟩
    have hz1 : (h1.update a (Obj.mapSeq fun _ => (#[] : Array Value))).objs.size = h1.objs.size := Heap.size_update ..
    have hz2 : ((h1.update a (Obj.mapSeq fun _ => (#[] : Array Value))).push (seqObj "tuple" vs.toArray 0)).objs.size = h1.objs.size + 1 := by rw [size_push', hz1]
    have k2 : ∀ b o, b ≠ a → h1.get? b = some o → (((h1.update a (Obj.mapSeq fun _ => (#[] : Array Value))).push (seqObj "tuple" vs.toArray 0)).push (seqObj "list" #[] 0)).get? b = some o := fun b o ne w => Heap.get?_push_of_some _ (Heap.get?_push_of_some _ ((s1.2 b ne).trans w))
    have kp : Kp s.heap (((h1.update a (Obj.mapSeq fun _ => (#[] : Array Value))).push (seqObj "tuple" vs.toArray 0)).push (seqObj "list" #[] 0)) := fun b o w => k2 b o (fun z => by rw [z, nA] at w; cases w) (keep _ _ w)
    unfold ksk_tree
    refine wpAny_bind (listItems_at hoL rfl ?_)
    refine wpAny_bind (listUpdate_at hoL rfl ?_ (by rw [List.size_toArray, sizeLine_eq]; omega) (Nat.zero_le _))
    refine wpAny_bind (seqEpoch_at ho1 rfl ?_)
    refine wpAny_bind (wpAny_newTuple ?_ (by show vs.length ≤ _; rw [sizeLine_eq]; omega))
    refine wpAny_bind (wpAny_newList ?_ (Nat.zero_le _))
    refine wpAny_holding ?_
    have nK : s.heap.get? (h1.objs.size + 1) = none := Heap.get?_none_of_le (by
      have : s.heap.objs.size < a := by rw [← haD]; exact Nat.lt_succ_self _
      exact Nat.le_of_lt (Nat.lt_trans this (Nat.lt_succ_of_lt la)))
    have offK := H.sub.off nK
    have offA := H.sub.off nA
    have atK : (((h1.update a (Obj.mapSeq fun _ => (#[] : Array Value))).push (seqObj "tuple" vs.toArray 0)).push (seqObj "list" #[] 0)).get? (h1.objs.size + 1) = some (seqObj "list" #[] 0) := by
      rw [← hz2]; exact Heap.get?_push_size _ rfl
    have atA : (((h1.update a (Obj.mapSeq fun _ => (#[] : Array Value))).push (seqObj "tuple" vs.toArray 0)).push (seqObj "list" #[] 0)).get? a = some (seqObj "list" #[] e1) := Heap.get?_push_of_some _ (Heap.get?_push_of_some _ ho1)
    have I : SortI c F s (h1.objs.size + 1) a e1 as 0 { s with heap := ((h1.update a (Obj.mapSeq fun _ => (#[] : Array Value))).push (seqObj "tuple" vs.toArray 0)).push (seqObj "list" #[] 0) } F (((h1.update a (Obj.mapSeq fun _ => (#[] : Array Value))).push (seqObj "tuple" vs.toArray 0)).push (seqObj "list" #[] 0)) s.toks #[] 0 :=
      ⟨rfl, kp, Ext.keep H.sub kp, offK, offA, atK, atA, Reps.nil⟩
    have main := sort_rest (c := c) (A := A.in1.in1) r2 hf (kS := h1.objs.size + 1) (tk₀ := s.toks) (P := fun fin s' => ∃ v, fin = .done (.ret v) ∧ wpAny c.M A.in1 (ret (.ref a)) (fun fin s' => ∃ v, fin = .done (.ret v) ∧ Q v s') (fun _ _ => False) s') H.baseF I (Nat.ne_of_gt (Nat.lt_succ_of_lt la)) nK nA h64 hr' fun F₂ h₂ tk₂ ws k kp₂ ex₂ fa rw' => ⟨_, rfl, wpAny_pure ⟨_, rfl, q (.ref a) _ F₂ h₂ tk₂ (kk _) ((H.step kp₂ ex₂).push ⟨a, ws, k, rfl, fa, rw'.reps⟩)⟩⟩
    rw [show ((h1.update a (Obj.mapSeq fun _ => (#[] : Array Value))).push (seqObj "tuple" vs.toArray 0)).objs.size = h1.objs.size + 1 from hz2]
    exact main
end
end Mine
end

-- J23
section
open PySem PySem.W PyProof.Rows PySem.Calls
set_option maxRecDepth 100000
set_option maxHeartbeats 1000000
namespace Mine
section
variable {c : Cx} {n : Nat} {fr : Fc} {σ : AS} {env : Env}
theorem J_Expr {e : Expr} {pos : Pos} {Φ : Flow → AS → Prop} (h : J c n fr σ (eval e env) fun v σ' => (∀ a, v ≠ .ref a) ∧ Φ .next σ') (hi : interactive env = false := by rfl) (hs : swapsWith e none pos.line env = pure false := by rfl) : J c n fr σ (exec (.Expr e pos) env) Φ := fun A r F s H Q q =>
  wpAny_Expr (h A r F s H _ fun v σ' F' h' tk z H' => by
    have := q .next σ' F' h' tk z.2 H'
    cases v <;> first | exact absurd rfl (z.1 _) | exact this) hi hs
theorem ForJ_ind {target : Expr} {body orelse : List Stmt} {Φ : Flow → AS → Prop} (P : List PV → AS → Prop) (h0 : ∀ σ, P [] σ → J c n fr σ (execs orelse fr.env) Φ)
    (h1 : ∀ p ps σ, P (p :: ps) σ → ∀ v F₁ pin, J c n (fr.at F₁ pin) (σ.push v p) (assign target fr.env v) fun _ σ₁ => J c n (fr.at F₁ pin) σ₁ (execs body fr.env) fun fl σ₂ => match fl with
      | .next | .cont => P ps σ₂
      | .brk => Φ .next σ₂
      | .ret w => Φ (.ret w) σ₂) : ∀ (xs : List PV) (σ : AS), P xs σ → ForJ c n fr target body orelse Φ xs σ
  | [], σ, h => h0 σ h
  | p :: ps, σ, h => fun v F₁ pin => J_mono (h1 p ps σ h v F₁ pin) fun _ σ₁ z => J_mono z fun fl σ₂ z => by
    cases fl with
    | next => exact ForJ_ind P h0 h1 ps σ₂ z
    | cont => exact ForJ_ind P h0 h1 ps σ₂ z
    | brk => exact z
    | ret w => exact z
theorem Has.noRefB {v : Value} {u : Bool} : ∀ a, Value.bool u ≠ .ref a := fun a e => by cases e
theorem none_noRef : ∀ a, Value.none ≠ .ref a := fun a e => by cases e
/-- a condition in a test -/
theorem J_isTrueIn {l r : Expr} {neg : Bool} {op : CmpOp} {pos : Pos} {whole : Sem Value} {Φ : Bool → AS → Prop} (h : J c n fr σ (eval l env) fun a σ₁ => J c n fr σ₁ (eval r env) fun b σ₂ => J c n fr σ₂ (contains b a) fun d σ₃ => Φ (neg != d) σ₃)
    (ho : op = if neg then .NotIn else .In := by rfl) (hm : behindInMarks op r = false := by rfl) : J c n fr σ (isTrue (.Compare l [op] [r] pos) env whole) Φ :=
  J_isTrueCmp (J_mono h fun a σ₁ q => J_mono q fun b σ₂ q => J_inC (neg := neg) (J_mono q fun d σ₃ q => J_truthyB q) ho) hm
end
theorem keep_len {z : Bool} : ∀ {ones : List Ex} {kept kept' : List Fm}, keep z ones kept = some kept' → kept'.length ≤ kept.length + ones.length
  | [], kept, kept', h => by cases h; simp
  | .b v :: r, kept, kept', h => by
    unfold keep at h
    split at h
    · cases h
    · have := keep_len h; simp only [List.length_cons]; omega
  | .f f :: r, kept, kept', h => by
    unfold keep at h
    split at h
    · have := keep_len h; simp only [List.length_cons]; omega
    · have := keep_len h; simp only [List.length_cons, List.length_append, List.length_nil] at this ⊢; omega
theorem inE_fms (f : Fm) (l : List Fm) : inE (.f f) (l.map Ex.f) = l.any fun g => Fm.beq g f := by
  unfold inE
  rw [List.any_map]
  rfl
end Mine
end

-- J24
section
open PySem PySem.W PyProof.Rows PySem.Calls
set_option maxRecDepth 100000
set_option maxHeartbeats 1000000
namespace Mine
section
variable {c : Cx} {n : Nat} {fr : Fc} {σ : AS} {env : Env}
theorem J_leInt {v w : Value} {x y : Int} {Φ : Value → AS → Prop} (hv : Has c σ v (.int x)) (hw : Has c σ w (.int y)) (k : Φ (.bool (decide (x ≤ y))) σ) : J c n fr σ (compareOp .LtE v w) Φ := fun A r F s H Q q => by
  obtain ⟨t, rfl⟩ := hv _ _ _ H
  obtain ⟨u, rfl⟩ := hw _ _ _ H
  exact PyProof.Rows.le_int (q _ σ F s.heap s.toks k H)
theorem J_gtInt {v w : Value} {x y : Int} {Φ : Value → AS → Prop} (hv : Has c σ v (.int x)) (hw : Has c σ w (.int y)) (k : Φ (.bool (decide (y < x))) σ) : J c n fr σ (compareOp .Gt v w) Φ := fun A r F s H Q q => by
  obtain ⟨t, rfl⟩ := hv _ _ _ H
  obtain ⟨u, rfl⟩ := hw _ _ _ H
  exact PyProof.Rows.gt_int (q _ σ F s.heap s.toks k H)
theorem J_geInt {v w : Value} {x y : Int} {Φ : Value → AS → Prop} (hv : Has c σ v (.int x)) (hw : Has c σ w (.int y)) (k : Φ (.bool (decide (y ≤ x))) σ) : J c n fr σ (compareOp .GtE v w) Φ := fun A r F s H Q q => by
  obtain ⟨t, rfl⟩ := hv _ _ _ H
  obtain ⟨u, rfl⟩ := hw _ _ _ H
  exact PyProof.Rows.ge_int (q _ σ F s.heap s.toks k H)
theorem J_addInt {v w : Value} {x y : Int} {Φ : Value → AS → Prop} (hv : Has c σ v (.int x)) (hw : Has c σ w (.int y)) (k : ∀ t, Φ (.int (x + y) t) σ) : J c n fr σ (binaryOp .Add v w) Φ := fun A r F s H Q q => by
  obtain ⟨t, rfl⟩ := hv _ _ _ H
  obtain ⟨u, rfl⟩ := hw _ _ _ H
  exact PyProof.Rows.add_int (q _ σ F s.heap _ (k _) H)
theorem J_subInt {v w : Value} {x y : Int} {Φ : Value → AS → Prop} (hv : Has c σ v (.int x)) (hw : Has c σ w (.int y)) (k : ∀ t, Φ (.int (x - y) t) σ) : J c n fr σ (binaryOp .Sub v w) Φ := fun A r F s H Q q => by
  obtain ⟨t, rfl⟩ := hv _ _ _ H
  obtain ⟨u, rfl⟩ := hw _ _ _ H
  exact PyProof.Rows.sub_int (q _ σ F s.heap _ (k _) H)
theorem J_modInt {v w : Value} {x y : Int} {Φ : Value → AS → Prop} (hv : Has c σ v (.int x)) (hw : Has c σ w (.int y)) (hy : y ≠ 0) (k : ∀ t, Φ (.int (x.fmod y) t) σ) : J c n fr σ (binaryOp .Mod v w) Φ := fun A r F s H Q q => by
  obtain ⟨t, rfl⟩ := hv _ _ _ H
  obtain ⟨u, rfl⟩ := hw _ _ _ H
  exact PyProof.Rows.mod_int hy (q _ σ F s.heap _ (k _) H)
theorem J_divInt {v w : Value} {x y : Int} {Φ : Value → AS → Prop} (hv : Has c σ v (.int x)) (hw : Has c σ w (.int y)) (hy : y ≠ 0) (hp : Builtin.divisionGoesByPylong x y = false) (k : ∀ t, Φ (.int (x.fdiv y) t) σ) : J c n fr σ (binaryOp .FloorDiv v w) Φ := fun A r F s H Q q => by
  obtain ⟨t, rfl⟩ := hv _ _ _ H
  obtain ⟨u, rfl⟩ := hw _ _ _ H
  exact PyProof.Rows.floordiv_int hy (q _ σ F s.heap _ (k _) H) (hp := .inl hp)
/-- l.remove(x), where x is the only item -/
theorem J_removeOne {y : Str} {l : Addr} {w : Value} {x x' : Ex} {Φ : Value → AS → Prop} (hn : 6 ≤ n) (ho : σ.own = some (y, l, [x'.pv])) (hw : Has c σ w x.pv) (he : Ex.eq x' x = true) (k : Φ .none ⟨σ.ρ, some (y, l, []), σ.κ⟩) : J c n fr σ (call (.builtin "list.remove") [.ref l, w]) Φ := fun A r F s H Q q => by
  obtain ⟨vs, kk, ha, hr⟩ := H.ownAt ho
  obtain ⟨v, hvs, rv⟩ := hr.one
  have hT : s.TypeIs (.ref l) "list" := ⟨_, ha, rfl⟩
  refine wpAny_call (codeAny_call_builtin PySem.F.slot_list_remove.plain PySem.F.entry_list_remove (PySem.F.slot_list_remove.check _ _ _ _ _ _ _ _ hT (PySem.F.args_list_remove_2 _ _) ?_))
  have rr : Room 5 A.in1 := (r.mono hn).in1
  have hB := H.baseF
  obtain ⟨hp, g, d, tk, os⟩ := s
  wp_walk using AutoSeq1.wpAny_loadPart' ha
  refine ⟨plainId_quiet MeetsSeq.plain_remove_loop _, codeAny_builtin MeetsSeq.entry_remove_loop ?_⟩
  rw [Around.under_plainId MeetsSeq.plain_remove_loop _]
  wp_walk using AutoSeq1.wpAny_loadPart' ha
  rw [show vs.toArray[((0 : Int)).toNat]? = some v from by rw [hvs]; rfl]
  refine wpAny_bind (wpAny_mono (eqB (n := 5) (Nat.le_refl _) rr (s := ⟨hp, g, d, tk, os⟩) hB H.sub rv (hw _ _ _ H) (Q := fun b s' => b = true ∧ ∃ F' h' tk', s' = ⟨h', g, d, tk', os⟩ ∧ Kp hp h' ∧ Ext F F' hp h') fun F' h' tk' kp ex => ⟨he, F', h', tk', rfl, kp, ex⟩) (fun b s' z => ?_) fun _ _ z => z.elim)
  obtain ⟨rfl, F', h', tk', rfl, kp, ex⟩ := z
  have ha' := kp _ _ ha
  have g' := get?_update_seq (c := "list") (xs := vs.toArray) (n := kk) ha' fun xs : Array Value => xs.eraseIdxIfInBounds ((0 : Int)).toNat
  rw [show vs.toArray.eraseIdxIfInBounds ((0 : Int)).toNat = List.toArray [] from by rw [hvs]; apply Array.toList_inj.mp; simp [Array.toList_eraseIdxIfInBounds]] at g'
  refine wpAny_bind (listUpdate_at (s := ⟨h', g, d, tk', os⟩) ha' rfl ?_ (by rw [hvs, List.size_toArray, sizeLine_eq]; exact (by decide : 1 ≤ 16777216)) (by rw [hvs]; simp))
  refine wpAny_pure (q .none _ F' _ tk' k ((H.step kp ex).setOwn ho (Heap.SameBut.update ..) (vs' := []) ⟨_, g'⟩ Reps.nil))
theorem J_popOne {y : Str} {l : Addr} {p : PV} {Φ : Value → AS → Prop} (ho : σ.own = some (y, l, [p])) (k : ∀ v, Φ v ⟨σ.ρ, some (y, l, []), (v, p) :: σ.κ⟩) : J c n fr σ (call (.builtin "list.pop") [.ref l]) Φ := J_pop (ps := []) ho (by rw [sizeLine_is]; decide) k
theorem J_G {x : Str} {pos : Pos} {v : Value} {Φ : Value → AS → Prop} (e : nsIn (KK c.w) mainGlobals x = some (some v)) (hx : fr.env.kindOf x = some .globalImplicit) (k : Φ v σ) (hg : fr.env.globals = mainGlobals := by rfl) (hd : (x == ("__debug__" : Str)) = false := by decide) :
    J c n fr σ (eval (.Name x pos) fr.env) Φ := J_glob e k hx hg hd
theorem J_Bt {x : Str} {pos : Pos} {v : Value} {Φ : Value → AS → Prop} (e : nsIn (KK c.w) mainGlobals x = some none) (hv : bootBuiltins x = some v) (hx0 : x ≠ "__name__") (hx : fr.env.kindOf x = some .globalImplicit) (k : Φ v σ) (hg : fr.env.globals = mainGlobals := by rfl)
    (hb : fr.env.builtins = builtinsNs := by rfl) (hd : (x == ("__debug__" : Str)) = false := by decide) :
    J c n fr σ (eval (.Name x pos) fr.env) Φ := J_builtin e hv hx0 k hx hg hb hd
end
section
variable {c : Cx} {n : Nat}
theorem bind2e {fd : FuncData} {p q : PV} {x y : Str} {T : Addr} {o : Obj} {items : Array Value} {m : Nat} {k : Value → Value → Option (Array Value) → Sem (List (Str × Value))} (hf : fd.defaults = .ref T) (ht : (KK c.w).lookup T = some o) (hd : o.data = .seq items m)
    (h₁ : ∀ a b, bindArgs fd ⟨[a, b], []⟩ = seqItems? fd.defaults >>= k a b) (h₂ : ∀ a b, k a b (some items) = pure [(x, a), (y, b)]) : BindSpec c n fd [p, q] [] [x, y] [p, q] := bind2d ht hd h₁ hf h₂
theorem bind1e {fd : FuncData} {p q : PV} {x y : Str} {T : Addr} {o : Obj} {items : Array Value} {m : Nat} {k : Value → Option (Array Value) → Sem (List (Str × Value))} {dv : Value} (hf : fd.defaults = .ref T) (ht : (KK c.w).lookup T = some o) (hd : o.data = .seq items m)
    (h₁ : ∀ a, bindArgs fd ⟨[a], []⟩ = seqItems? fd.defaults >>= k a) (h₂ : ∀ a, k a (some items) = pure [(x, a), (y, dv)]) (hq : ∀ F, Rep F q dv) : BindSpec c n fd [p] [] [x, y] [p, q] := bind1d ht hd h₁ hf h₂ hq
theorem bind1ee {fd : FuncData} {p q q' : PV} {x y z : Str} {T : Addr} {o : Obj} {items : Array Value} {m : Nat} {k : Value → Option (Array Value) → Sem (List (Str × Value))} {dv dv' : Value} (hf : fd.defaults = .ref T) (ht : (KK c.w).lookup T = some o) (hd : o.data = .seq items m)
    (h₁ : ∀ a, bindArgs fd ⟨[a], []⟩ = seqItems? fd.defaults >>= k a) (h₂ : ∀ a, k a (some items) = pure [(x, a), (y, dv), (z, dv')]) (hq : ∀ F, Rep F q dv) (hq' : ∀ F, Rep F q' dv') : BindSpec c n fd [p] [] [x, y, z] [p, q, q'] := bind1dd ht hd h₁ hf h₂ hq hq'
end
end Mine
end

-- J38
section
open PySem PySem.W PyProof.Rows PySem.Calls PySem.SeqAt PySem.EqBoolInt
set_option maxRecDepth 100000
set_option maxHeartbeats 1000000
namespace Mine
theorem Reps.bools {F : PM} : ∀ {bs : List Bool} {vs : List Value}, Reps F (bs.map .bool) vs → vs = bs.map Value.bool
  | [], _, h => h
  | b :: bs, _, ⟨v, vs', rfl, rv, rr⟩ => by
    obtain rfl : v = .bool b := rv
    rw [Reps.bools rr]; rfl
theorem countP_bools (k : Bool) : ∀ (bs : List Bool), (bs.map Value.bool).countP (isBoolOf k) = bs.count k
  | [] => rfl
  | b :: bs => by
    rw [List.map_cons, List.countP_cons, List.count_cons, countP_bools k bs]
    rfl
section
variable {c : Cx} {n : Nat} {fr : Fc} {σ : AS} {env : Env}
theorem line_of {A : Around} (r : Room n A) : A.units < cLine := by
  have := r.2.1
  show A.units < 9900
  omega
theorem J_methL {v : Value} {xs : List PV} {name : Str} {id : String} {pl : Sem Bool} {Φ : Value × List Value → AS → Prop} (hv : Has c σ v (.lst xs)) (slot : Slot "list" name id) (hty : typeOf (.builtin id) = pure (.type "method_descriptor")) (k : Φ (.builtin id, [v]) σ) :
    J c n fr σ (getMethod v name pl) Φ := fun A r F s H Q q => by
  obtain ⟨a, vs, nn, rfl, ha, hr⟩ := hv _ _ _ H
  exact getMethod_builtin ⟨_, H.sub _ _ ha, rfl⟩ PySem.F.plainAttrs_list slot hty (fun a e => by cases e; exact ⟨_, H.sub _ _ ha, rfl⟩) (q _ σ F s.heap s.toks k H)
theorem J_methStr {v : Value} {x : Str} {name : Str} {id : String} {pl : Sem Bool} {Φ : Value × List Value → AS → Prop} (hv : Has c σ v (.str x)) (slot : Slot "str" name id) (hty : typeOf (.builtin id) = pure (.type "method_descriptor")) (k : Φ (.builtin id, [v]) σ) :
    J c n fr σ (getMethod v name pl) Φ := fun A r F s H Q q => by
  obtain ⟨t, rfl⟩ := hv _ _ _ H
  exact getMethod_builtin (typeIs_str _ _ _) PySem.F.plainAttrs_str slot hty (fun a e => nomatch e) (q _ σ F s.heap s.toks k H)
theorem J_countB {v : Value} {bs : List Bool} {b : Bool} {Φ : Value → AS → Prop} (hv : Has c σ v (.lst (bs.map .bool))) (k : ∀ t, Φ (.int ((bs.count b : Nat) : Int) t) σ) : J c n fr σ (call (.builtin "list.count") [v, .bool b]) Φ := fun A r F s H Q q => by
  obtain ⟨a, vs, nn, rfl, ha, hr⟩ := hv _ _ _ H
  obtain rfl := hr.bools
  refine call_meets PySem.F.slot_list_count ⟨_, H.sub _ _ ha, rfl⟩ PySem.F.entry_list_count (PySem.F.args_list_count_2 _ _) (list_countAt a (bs.map Value.bool).toArray nn none #[] (.bool b) (isBoolOf b)) ⟨H.sub _ _ ha, fun y hy => ?_, ?_⟩
  · obtain ⟨b', _, rfl⟩ := List.mem_map.mp (by simpa using hy : y ∈ bs.map Value.bool)
    exact EqAt.bool_bool b' b
  · rw [show (bs.map Value.bool).toArray.toList = bs.map Value.bool from rfl, countP_bools]
    exact q _ σ F s.heap _ (k _) H
theorem J_strIndex {v w : Value} {x y : Str} {i : Nat} {rest : List Nat} {Φ : Value → AS → Prop} (hv : Has c σ v (.str x)) (hw : Has c σ w (.str y)) (h : Builtin.Str.occurrences x y 0 x.length 1 = i :: rest) (k : ∀ t, Φ (.int (i : Int) t) σ) : J c n fr σ (call (.builtin "str.index") [v, w]) Φ := fun A r F s H Q q => by
  obtain ⟨t, rfl⟩ := hv _ _ _ H
  obtain ⟨u, rfl⟩ := hw _ _ _ H
  exact call_gives PySem.F.slot_str_index (typeIs_str _ _ _) PySem.F.entry_str_index (PySem.F.args_str_index_2 _ _) (gives_str_index x y t u i rest h) (q _ σ F s.heap _ (k _) H)
theorem J_inTup2 {v w : Value} {x a b : Int} {Φ : Value → AS → Prop} (hv : Has c σ v (.int x)) (hw : Has c σ w (.tup [.int a, .int b])) (k : Φ (.bool (a == x || b == x)) σ) : J c n fr σ (compareOp .In v w) Φ := fun A r F s H Q q => by
  obtain ⟨t, rfl⟩ := hv _ _ _ H
  obtain ⟨l, vs, nn, rfl, hl, hr⟩ := hw _ _ _ H
  obtain ⟨u1, u2, rfl, ⟨t1, rfl⟩, ⟨t2, rfl⟩⟩ := hr.two
  refine in_tupleAt (items := [Value.int a t1, Value.int b t2].toArray) (fun y => match y with | .int z _ => z == x | _ => false) ⟨_, H.sub _ _ hl, rfl, nn, rfl⟩ (fun y hy => ?_) ?_
  · simp at hy
    rcases hy with rfl | rfl
    · exact EqAt.int_int _ _ _ _
    · exact EqAt.int_int _ _ _ _
  · have : ([Value.int a t1, Value.int b t2].toArray.any fun y => match y with | .int z _ => z == x | _ => false) = (a == x || b == x) := by simp
    rw [this]
    exact q _ σ F s.heap s.toks k H
theorem J_eqL0 {v w : Value} {xs : List PV} {Φ : Value → AS → Prop} (hv : Has c σ v (.lst xs)) (hw : Has c σ w (.lst [])) (k : Φ (.bool xs.isEmpty) σ) : J c n fr σ (compareOp .Eq v w) Φ := fun A r F s H Q q => by
  obtain ⟨a, vs, nn, rfl, ha, hr⟩ := hv _ _ _ H
  obtain ⟨b, ws, mm, rfl, hb, hs⟩ := hw _ _ _ H
  obtain rfl : ws = [] := hs
  have hl := hr.length
  have I1 : s.heap.IsList a vs.toArray := ⟨_, H.sub _ _ ha, rfl, nn, rfl⟩
  have I2 : s.heap.IsList b ([] : List Value).toArray := ⟨_, H.sub _ _ hb, rfl, mm, rfl⟩
  cases xs with
  | nil =>
    obtain rfl : vs = [] := hr
    exact eq_listAt (e := fun _ => true) I1 I2 rfl (line_of r.1) (fun j h1 h2 => absurd h1 (by simp)) (q _ σ F s.heap s.toks k H)
  | cons x xs =>
    refine eq_list_lengthsAt I1 I2 ?_ (line_of r.1) (q _ σ F s.heap s.toks k H)
    simp [hl]
theorem J_neL0 {v w : Value} {xs : List PV} {Φ : Value → AS → Prop} (hv : Has c σ v (.lst xs)) (hw : Has c σ w (.lst [])) (k : Φ (.bool (!xs.isEmpty)) σ) : J c n fr σ (compareOp .NotEq v w) Φ := fun A r F s H Q q => by
  obtain ⟨a, vs, nn, rfl, ha, hr⟩ := hv _ _ _ H
  obtain ⟨b, ws, mm, rfl, hb, hs⟩ := hw _ _ _ H
  obtain rfl : ws = [] := hs
  have hl := hr.length
  have I1 : s.heap.IsList a vs.toArray := ⟨_, H.sub _ _ ha, rfl, nn, rfl⟩
  have I2 : s.heap.IsList b ([] : List Value).toArray := ⟨_, H.sub _ _ hb, rfl, mm, rfl⟩
  cases xs with
  | nil =>
    obtain rfl : vs = [] := hr
    exact of_rcne (RcNeAt.lists (e := fun _ => true) I1 I2 rfl (line_of r.1) (fun j h1 h2 => absurd h1 (by simp))) (q _ σ F s.heap s.toks k H)
  | cons x xs =>
    exact of_rcne (RcNeAt.lists_lengths I1 I2 (by simp [hl]) (line_of r.1)) (q _ σ F s.heap s.toks k H)
theorem all_range : ∀ (xs ys : List Bool), xs.length = ys.length → ((List.range xs.length).all fun j => xs[j]? == ys[j]?) = (xs == ys)
  | [], [], _ => rfl
  | x :: xs, y :: ys, h => by
    rw [List.length_cons, List.range_succ_eq_map, List.all_cons, List.all_map]
    have := all_range xs ys (by simpa using h)
    show ((some x == some y) && (List.range xs.length).all fun j => xs[j]? == ys[j]?) = _
    rw [this]
    simp
theorem J_neBools {v w : Value} {xs ys : List Bool} {Φ : Value → AS → Prop} (hv : Has c σ v (.lst (xs.map .bool))) (hw : Has c σ w (.lst (ys.map .bool))) (hl : xs.length = ys.length) (k : Φ (.bool (!(xs == ys))) σ) : J c n fr σ (compareOp .NotEq v w) Φ := fun A r F s H Q q => by
  obtain ⟨a, vs, nn, rfl, ha, hr⟩ := hv _ _ _ H
  obtain ⟨b, ws, mm, rfl, hb, hs⟩ := hw _ _ _ H
  obtain rfl := hr.bools
  obtain rfl := hs.bools
  have I1 : s.heap.IsList a (xs.map Value.bool).toArray := ⟨_, H.sub _ _ ha, rfl, nn, rfl⟩
  have I2 : s.heap.IsList b (ys.map Value.bool).toArray := ⟨_, H.sub _ _ hb, rfl, mm, rfl⟩
  have h2 := RcNeAt.lists (A := A) (e := fun j => xs[j]? == ys[j]?) I1 I2 (by simp [hl]) (line_of r.1) (fun j h1 h2 => by
    have h1' : j < xs.length := by simpa using h1
    have h2' : j < ys.length := by simpa using h2
    have e1 : (xs.map Value.bool).toArray[j] = .bool xs[j] := by simp
    have e2 : (ys.map Value.bool).toArray[j] = .bool ys[j] := by simp
    rw [e1, e2, List.getElem?_eq_getElem h1', List.getElem?_eq_getElem h2']
    exact EqAt.bool_bool _ _)
  rw [show (xs.map Value.bool).toArray.size = xs.length by simp, all_range xs ys hl] at h2
  exact of_rcne h2 (q _ σ F s.heap s.toks k H)
theorem J_neBool {a b : Bool} {Φ : Value → AS → Prop} (k : Φ (.bool (!(a == b))) σ) : J c n fr σ (compareOp .NotEq (.bool a) (.bool b)) Φ := fun A r F s H Q q =>
  of_rcne (RcNeAt.bool_bool a b) (q _ σ F s.heap s.toks k H)
theorem J_toL {lo up : Option Expr} {sp : Pos} {o i : Value} {xs : List PV} {k : Nat} {t : Tok} {Φ : Value → AS → Prop} (ho : Has c σ o (.lst xs)) (hi : Has c σ i (.raw { cls := .type "slice", data := .fields #[.none, .int k t, .none] })) (hz : xs.length ≤ sizeLine) (kk : ∀ v, Φ v (σ.push v (.lst (xs.take k)))) :
    J c n fr σ (tailOf (.Slice lo up none sp) o i) Φ :=
  J_tail (T := "list") (fun F h H s e => by subst e; obtain ⟨a, vs, nn, rfl, ha, hr⟩ := ho _ _ _ H; exact ⟨_, H.sub _ _ ha, rfl⟩) list_getitem_lookup (ops := [i, o]) rfl fun A r F s H Q q => by
    obtain ⟨a, vs, nn, rfl, ha, hr⟩ := ho _ _ _ H
    obtain ⟨b, rfl, hb⟩ := hi _ _ _ H
    refine wpAny_getItem_list_slice (items := vs.toArray) (lo := none) (hi := some (k : Int)) (st := none) ⟨_, H.sub _ _ ha, rfl, nn, rfl⟩ ⟨_, H.sub _ _ hb, rfl, rfl⟩ .none (.int _ t) .none (by simp) ?_ (by rw [List.size_toArray, hr.length]; exact hz)
    rw [slicePick_upto']
    have ee := Ext.alloc H.sub (lstObj (vs.take k) 0) rfl
    exact q _ _ _ _ _ (kk (.ref s.heap.objs.size)) ((H.step (Kp.push _ _) ee).push ⟨_, _, _, rfl, put_self _ _ _, (hr.take k).mono ee.le⟩)
end
end Mine
end

-- P2
section
namespace Mine
def opS : Nat → PySem.Str
  | 4 => "and" | 5 => "or" | 6 => "xor" | 7 => "implies" | _ => "same"
def treePV : Tr → PV
  | .var i => .tup [.str "var", .int (i.val : Int)]
  | .not t => .tup [.str "not", treePV t]
  | .bin k a b => .tup [.str (opS k), treePV a, treePV b]
abbrev rowPV (row : Fin 3 → Bool) : PV := .lst [.bool (row 0), .bool (row 1), .bool (row 2)]
def dV : Tr → Nat
  | .var _ => 0
  | .not t => dV t + 1
  | .bin _ a b => dV a + dV b + 1
def fin3 (n : Int) : Fin 3 := Fin.ofNat 3 ((n.fdiv 9).fmod 3).toNat
def parse0 : List Int → Tr × List Int
  | [] => (.var 0, [])
  | n :: rest => (.var (fin3 n), rest)
def parse : Nat → List Int → Tr × List Int
  | 0, ns => parse0 ns
  | _ + 1, [] => (.var 0, [])
  | d + 1, n :: rest =>
    if n.fmod 9 < 3 then (.var (fin3 n), rest)
    else
      let one := if n.fmod 9 < 6 then parse d rest else parse0 rest
      if n.fmod 9 = 3 then (.not one.1, one.2)
      else
        let other := if n.fmod 9 < 6 then parse d one.2 else parse0 one.2
        (.bin (n.fmod 9).toNat one.1 other.1, other.2)
/-- well made, to that depth -/
def wfD : Nat → Fm → Bool
  | 0, _ => false
  | _ + 1, .sym _ => true
  | n + 1, .node k as => decide (as.length ≤ 1000) && as.all (fun a => wfD n a) && (match k with
    | .not => decide (as.length = 1)
    | .imp => decide (as.length = 2)
    | _ => true)
def wfE : Ex → Bool
  | .b _ => true
  | .f f => wfD 8 f
end Mine
end

-- C2
section
open PySem PySem.W PyProof.Rows PySem.Calls
set_option maxRecDepth 100000
set_option maxHeartbeats 1000000
namespace Mine
theorem ct_str (c : Cx) (f : Fm) : CT c 3 (.ref 79) [.fm f] [] (.str (text f)) := by
  refine CT_def (n := 2) (f := 79) (by rfl) rfl rfl (by rfl) (bind1 (fun a => by rfl)) (by decide) (kindsN (by rfl)) ?_
  intro s₀ F₀ L
  exact J_execs_cons (J_return (J_Attribute (J_name (by rfl) fun v => J_text (Has.mem (.head _)) fun r => Has.mem (.head _))))
theorem ct_sympify (c : Cx) (p : PV) : CT c 3 (.ref 32) [p] [] p := by
  refine CT_def (n := 2) (f := 32) (by rfl) rfl rfl (by rfl) (bind1 (fun a => by rfl)) (by decide) (kindsN (by rfl)) ?_
  intro s₀ F₀ L
  exact J_execs_cons (J_return (J_name (by rfl) fun v => Has.mem (.head _)))
theorem ct_dsk (c : Cx) (f : Fm) : CT c 9 (.ref 39) [.fm f] [] (.str (text f)) := by
  refine CT_def (n := 8) (f := 39) (by rfl) rfl rfl (by rfl) (bind1 (fun a => by rfl)) (by decide) (kindsN (by rfl)) ?_
  intro s₀ F₀ L
  refine J_execs_cons (J_return (J_CallName (J_builtin (v := .type "str") (by kernel_rfl) (by rfl) (by decide) ?_ (by rfl))))
  exact J_callImm (J_evalArgs (J_spliced (J_name (by rfl) fun v => J_spliced_nil (J_strFm (ct_str c f) (by decide) (Has.mem (.head _)) fun r => Has.mem (.head _)))))
theorem ct_asBoolean (c : Cx) (e : Ex) : CT c 8 (.ref 133) [e.pv] [] e.pv := by
  refine CT_def (n := 7) (f := 133) (by rfl) rfl rfl (by rfl) (bind1 (fun a => by rfl)) (by decide) (kindsN (by rfl)) ?_
  intro s₀ F₀ L
  refine J_execs_cons (J_if ?_)
  refine J_isTrueCmp (J_name (by rfl) fun v => J_bool (J_eqE (y := .b true) (by decide) (Has.mem (.head _)) Has.bool (J_truthyB ?_)))
  cases hb : Ex.eq e (.b true) with
  | true =>
    have : e = .b true := by exact Ex.eq_of hb
    subst this
    exact J_execs_cons (J_return (J_glob (v := .bool true) (by kernel_rfl) Has.bool (by rfl)))
  | false =>
    refine J_execs_nil (J_execs_cons (J_if ?_))
    refine J_isTrueCmp (J_name (by rfl) fun v => J_bool (J_eqE (y := .b false) (by decide) (Has.mem (.head _)) Has.bool (J_truthyB ?_)))
    cases hb2 : Ex.eq e (.b false) with
    | true =>
      have : e = .b false := by exact Ex.eq_of hb2
      subst this
      exact J_execs_cons (J_return (J_glob (v := .bool false) (by kernel_rfl) Has.bool (by rfl)))
    | false =>
      refine J_execs_nil (J_execs_cons (J_if ?_))
      cases e with
      | b u =>
        cases u with
        | false => exact absurd hb2 (by decide)
        | true => exact absurd hb (by decide)
      | f f =>
        refine J_isTrue (J_CallName (J_builtin (v := .builtin "isinstance") (by kernel_rfl) (by rfl) (by decide) ?_ (by rfl)))
        refine J_callImm (J_evalArgs (J_spliced (J_name (by rfl) fun v1 => J_spliced (J_glob (v := .ref 89) (by kernel_rfl) ?_ (by rfl)))))
        refine J_spliced_nil (J_isiF (Has.mem (.head _)) (isi_bool c.w f) (J_truthyB ?_))
        exact J_execs_cons (J_return (J_name (by rfl) fun v => Has.mem (.head _)))
end Mine
end

-- C3
section
open PySem PySem.W PyProof.Rows PySem.Calls
set_option maxRecDepth 100000
set_option maxHeartbeats 1000000
namespace Mine
theorem ct_made (c : Cx) (k : Kd) (as : List Fm) (hz : tls as ≤ big) : CT c 12 (.ref 150) [.val (.ref (kC k)), .lst (as.map .fm)] [] (.fm (.node k as)) := by
  refine CT_def (n := 11) (f := 150) (by rfl) rfl rfl (by rfl) (bind2 (fun a b => by rfl)) (by decide) (kindsN (by rfl)) ?_
  intro s₀ F₀ L
  have hl := tls_len as
  have hb : big = 1000000 := rfl
  have h1 := label_len k
  have h2 : ("(" : Str).length = 1 := by decide +kernel
  have h3 : (")" : Str).length = 1 := by decide +kernel
  have h4 := texts_len as
  have h5 := joinT_len (texts as)
  refine J_ofN (N_execs_cons (N_newStmt (k := k) (by rfl) (by rfl) (by rfl) (by kernel_rfl) (by rfl) rfl rfl (by decide) (by decide) (fun a d v => ⟨rfl, ?_⟩) (by decide)))
  refine B_execs_cons (B_Assign1 (B_lift fun F₁ pin => J_CallName (J_builtin (v := .type "tuple") (by kernel_rfl) (by rfl) (by decide) ?_ (by rfl))))
  refine J_callImm (J_evalArgs (J_spliced (J_name (by rfl) fun v1 => J_spliced_nil (J_tupleOfL (Has.mem (.head _)) (by rw [List.length_map]; omega) fun w => ?_))))
  refine B_assignAttr (B_lift fun F₁ pin => J_name (by rfl) fun v2 => ?_)
  refine B_known (t := fun v => setAttr v _ _) (Has.mem (.head _)) (B_setAttr (C := kC k) (Has.mem (by simp)) (kdF c.w k).set (kdF c.w k).over (kdF c.w k).args (kdF c.w k).hasD rfl (fun t => Nat.le_trans (putL_len _ _ _ _ _) (by decide)) fun t1 => ?_)
  refine B_execs_cons (B_Assign1 (B_lift fun F₁ pin => J_BinOp (J_BinOp (J_BinOp (J_Attribute (J_name (by rfl) fun v3 => J_known (t := fun v => getAttr v _ _) (Has.mem (.head _)) (J_labelC fun v4 => ?_)))))))
  refine J_str fun t2 => J_addStr (Has.mem (.head _)) Has.str (by omega) fun v5 => ?_
  refine J_CallAttr (J_str fun t3 => J_calleeFew fun pl => J_methJoin Has.str (J_callImm (J_evalArgs (J_spliced ?_))))
  refine (J_ListComp (ρ₂ := []) (g := fun p => match p with | .fm f => some (PV.str (text f)) | _ => none) (J_name (by rfl) fun v6 => ⟨as.map .fm, iterK_lst (Has.mem (.head _)), ?el, Sees.nil, by rw [List.length_map]; omega, fun v7 => ?_⟩) (by rfl))
  case el =>
    intro p hp s₁ F₁ C pin v
    obtain ⟨f, hf, rfl⟩ := List.mem_map.mp hp
    refine J_assignName (J_store (Has.mem (.head _)) (by rfl) (by rfl) (J_ok0 ?_))
    refine ⟨_, rfl, ?_⟩
    refine J_CallName (J_builtin (v := .type "str") (by kernel_rfl) (by rfl) (by decide) ?_ (by rfl))
    exact J_callImm (J_evalArgs (J_spliced (J_name (by rfl) fun v => J_spliced_nil (J_strFm (ct_str c f) (by decide) (Has.mem (.head _)) fun r => Has.mem (.head _)))))
  refine J_spliced_nil (J_join Has.str (ts := texts as) (by rw [← filterMap_text]; exact Has.mem (.head _)) (by have := texts_len as; omega) fun v8 => ?_)
  refine J_addStr (x := label k ++ "(") (y := joinT (texts as)) (Has.mem (.tail _ (.tail _ (.tail _ (.head _))))) (Has.mem (.head _)) (by rw [len_append]; omega) fun v9 => ?_
  refine J_str fun t4 => J_addStr (x := label k ++ "(" ++ joinT (texts as)) (y := ")") (Has.mem (.head _)) Has.str (by rw [len_append, len_append]; omega) fun v10 => ?_
  refine B_assignAttr (B_lift fun F₁ pin => J_name (by rfl) fun v11 => ?_)
  refine B_known (t := fun v => setAttr v _ _) (Has.mem (.head _)) (B_setAttr (C := kC k) (Has.mem (by simp)) (kdF c.w k).set (kdF c.w k).over (kdF c.w k).text (kdF c.w k).hasD rfl (fun t => Nat.le_trans (putL_len _ _ _ _ _) (Nat.le_trans (Nat.succ_le_succ (putL_len _ _ _ _ _)) (by decide))) fun t5 => ?_)
  refine B_execs_cons (B_return (B_lift fun F₁ pin => J_name (by rfl) fun v12 kk F' h' H hd => ⟨_, ?_, H.push (v := v12) (p := .fm (.node k as)) ?_⟩))
  · exact Has.mem (.head _)
  · have r12 : v12 = .ref a := H.tmp _ (.head _)
    subst r12
    have ha := H.tmp (.ref a, .raw (instObj (kC k) d)) (by simp)
    have hw := H.tmp (w, .tup (as.map .fm)) (by simp)
    have ht := H.tmp (v10, .str (label k ++ "(" ++ joinT (texts as) ++ ")")) (by simp)
    obtain ⟨a', e, ha⟩ := ha
    cases e
    obtain ⟨b, vs, nn, rfl, hb', hr⟩ := hw
    obtain ⟨u, rfl⟩ := ht
    exact ⟨a, b, vs, nn, _, _, _, _, _, rfl, ⟨d, _, ha, hd⟩, hb', hr.repFs⟩
end Mine
end

-- C4
section
open PySem PySem.W PyProof.Rows PySem.Calls
set_option maxRecDepth 100000
set_option maxHeartbeats 1000000
namespace Mine
def isB : Ex → Bool
  | .b _ => true
  | _ => false
theorem isi_boolT (w : World) (e : Ex) : kitOne (KK w) (tyOf e) (.type "bool") = some (isB e) := by
  cases e with
  | b u => kernel_rfl
  | f f => cases f with
    | sym i => kernel_rfl
    | node k as => cases k <;> kernel_rfl
/-- what Not.eval gives -/
def evNot : Ex → PV
  | .b v => .bool (!v)
  | .f (.node .not (g :: _)) => .fm g
  | _ => .none
theorem evNot_simple (e : Ex) : evNot e = .none ∨ ∃ x : Ex, evNot e = x.pv := by
  cases e with
  | b v => exact .inr ⟨.b !v, rfl⟩
  | f f => cases f with
    | sym i => exact .inl rfl
    | node k as => cases k <;> first | exact .inl rfl | (cases as with | nil => exact .inl rfl | cons g r => exact .inr ⟨.f g, rfl⟩)
theorem ct_notEval (c : Cx) (e : Ex) (hne : e ≠ .f (.node .not [])) : CT c 5 (.ref 365) [.val (.ref 385), e.pv] [] (evNot e) := by
  refine CT_def (n := 4) (f := 365) (by rfl) rfl rfl (by rfl) (bind2 (fun a b => by rfl)) (by decide) (kindsN (by rfl)) ?_
  intro s₀ F₀ L
  refine J_execs_cons (J_if (J_isTrue (J_CallName (J_builtin (v := .builtin "isinstance") (by kernel_rfl) (by rfl) (by decide) ?_ (by rfl)))))
  refine J_callImm (J_evalArgs (J_spliced (J_name (by rfl) fun v1 => J_spliced (J_builtin (v := .type "bool") (by kernel_rfl) (by rfl) (by decide) (J_spliced_nil (J_isiE (Has.mem (.head _)) (isi_boolT c.w e) (J_truthyB ?_))) (by rfl)))))
  cases e with
  | b u =>
    refine J_execs_cons (J_return (J_ifexp (J_isTrue (J_name (by rfl) fun v2 => J_known (w := .bool u) (Has.bv (Has.mem (.head _))) (J_truthyB ?_)))))
    cases u with
    | true => exact J_glob (v := .bool false) (by kernel_rfl) Has.bool (by rfl)
    | false => exact J_glob (v := .bool true) (by kernel_rfl) Has.bool (by rfl)
  | f f =>
    refine J_execs_nil (J_execs_cons (J_if (J_isTrue (J_Attribute (J_name (by rfl) fun v2 => J_isNot (Has.mem (.head _)) (J_truthyB ?_))))))
    cases f with
    | sym i => exact J_execs_nil (J_execs_cons (J_return (J_none Has.none)))
    | node k as =>
      cases k with
      | not =>
        cases as with
        | nil => exact absurd rfl hne
        | cons g r =>
          refine J_execs_cons (J_return (J_Subscript (J_Attribute (J_name (by rfl) fun v3 => J_args (Has.mem (.head _)) fun v4 => ?_))))
          exact J_int fun t => J_tailT (k := 0) (j := 0) (Has.mem (.head _)) Has.int (seq_at 0 _ (by simp)) (by rfl) fun v5 => Has.mem (.head _)
      | _ => exact J_execs_nil (J_execs_cons (J_return (J_none Has.none)))
end Mine
end

-- C5
section
open PySem PySem.W PyProof.Rows PySem.Calls
set_option maxRecDepth 100000
set_option maxHeartbeats 1000000
namespace Mine
section
variable {c : Cx} {n : Nat} {fr : Fc} {σ : AS}
theorem HasAll.of {vs : List Value} {ps : List PV} {ps' : List PV} (h : HasAll c σ vs ps) (e : ps = ps') : HasAll c σ vs ps' := e ▸ h
/-- [as_Boolean(arg) for arg in args] -/
theorem as_el {scope : Scope} {x f : Str} {xp fp np pos : Pos} {κ : List (Value × PV)} {ps : List Ex} (hn : 9 ≤ n) (hx : ∀ C, (compEnvC scope [] C fr.env).kindOf x = some .local) (hf : nsIn (KK c.w) mainGlobals f = some (some (.ref 133)))
    (hk : ∀ C, (compEnvC scope [] C fr.env).kindOf f = some .globalImplicit) (hg : fr.env.globals = mainGlobals) (hd : (x == ("__debug__" : Str)) = false) (hc : (x == ("__classdict__" : Str)) = false) (hfd : (f == ("__debug__" : Str)) = false)
    (he : ∀ env, starEach [.Name x np] env = (false, eval (.Name x np) env) :: starEach [] env) :
    CompEl c n fr scope [] [] κ (.Name x xp) (.Call (.Name f fp) [.Name x np] [] pos) [] (ps.map Ex.pv) some := by
  intro p hp s₁ F₁ C pin v
  obtain ⟨e, hpe, rfl⟩ := List.mem_map.mp hp
  refine J_assignName (J_store (Has.mem (.head _)) (hx C) rfl (J_ok0 ⟨_, rfl, ?_⟩))
  refine J_CallName (J_glob (v := .ref 133) hf ?_ (hk C) hg hfd)
  refine J_callBase (by kernel_rfl) (J_evalArgs (J_spliced (J_name (by rw [List.lookup_cons, beq_self_eq_true]) (fun v1 => J_spliced_nil ?_) hd hc) (he _)) (he _))
  exact J_ct (ct_asBoolean c e) (by omega) (.cons (Has.mem (.head _)) .nil) fun v2 => Has.mem (.head _)
theorem getK (w : World) (k : Kd) : specialIn (KK w) (.ref (kC k)) "__getattribute__" = some (some (.builtin "type.__getattribute__")) := by cases k <;> kernel_rfl
theorem madeK (w : World) (k : Kd) : findCls (KK w) (.ref (kC k)) (.type "type") "_made" = some (.get (.builtin "classmethod.__get__") (.ref 152) .none (.ref (kC k))) := by cases k <;> kernel_rfl
theorem madeRec (w : World) : recIn (KK w) 152 "classmethod" = some [.ref 150, .bool false] := by kernel_rfl
theorem madeFn (w : World) : fnIn (KK w) 150 = true := by kernel_rfl
end
theorem isNoneP_pv (e : Ex) : isNoneP e.pv = false := by cases e <;> rfl
theorem fms_map (as : List Fm) : (as.map Ex.f).map Ex.pv = as.map PV.fm := by rw [List.map_map]; rfl
theorem ct_bfNew (c : Cx) (k : Kd) (g p' : Addr) (rest : List Value) {m : Nat} (hm : 5 ≤ m) (hg : findCls (KK c.w) (.ref (kC k)) (.type "type") "eval" = some (.get (.builtin "classmethod.__get__") (.ref p') .none (.ref (kC k)))) (hrec : recIn (KK c.w) p' "classmethod" = some (.ref g :: rest)) (hfn : fnIn (KK c.w) g = true)
    (ps : List Ex) (r out : PV) (hz : ps.length ≤ big) (hEval : CT c m (.ref g) (.val (.ref (kC k)) :: ps.map Ex.pv) [] r) (hr : (r = .none ∧ ∃ as, ps = as.map Ex.f ∧ tls as ≤ big ∧ out = .fm (.node k as)) ∨ ∃ x : Ex, r = x.pv ∧ out = r) :
    CT c (m + 10) (.ref 145) (.val (.ref (kC k)) :: ps.map Ex.pv) [] out := by
  have hb : big = 1000000 := rfl
  refine CT_def (n := m + 9) (f := 145) (by rfl) rfl rfl (by rfl) (bindStarK (bindArgs_starK (by rfl) (by rfl)) (by rw [List.length_map, sizeLine_is]; omega)) (by decide) (kindsN (by rfl)) ?_
  intro s₀ F₀ L
  refine J_execs_cons (J_Assign (J_CallAttr (J_name (by rfl) fun v1 => J_known (t := fun v => calleeOf _ _ _ v _) (Has.mem (.head _)) (J_calleeStar (J_cm (readsK c.w k) hg hrec fun v2 => ?_)))))
  refine J_callBound (Has.mem (.head _)) hfn (J_evalStar (J_ListComp (ρ₂ := []) (cl := []) (g := some) (J_name (by rfl) fun v3 => ⟨ps.map Ex.pv, iterK_tup (Has.mem (.head _)), as_el (by omega) (fun C => by rfl) (by kernel_rfl) (fun C => by rfl) rfl (by decide) (by decide) (by decide) (fun env => by rfl), Sees.nil, by rw [List.length_map]; omega, fun v4 => ?_⟩) (by rfl)))
  rw [List.filterMap_some]
  refine J_evalAll_nil (notIter_lst (Has.mem (.head _)) ⟨rfl, J_collectL (Has.mem (.head _)) (by rw [List.length_map, sizeLine_is]; omega) fun vs hvs => ⟨Has.mem (by simp), ?_⟩⟩)
  refine J_ctBound (Has.mem (by simp)) hEval (by omega) Has.val (hasAll_pushAll _ hvs) ⟨rfl, .nil⟩ fun v5 => ?_
  refine J_store (Has.mem (.head _)) (by rfl) (by rfl) ?_
  refine J_execs_cons (J_if (J_isTrueCmp (J_name (by rfl) fun v6 => J_none (J_isB (neg := true) (J_isNone (Has.mem (.head _)) ?_ (J_truthyB ?_))))))
  · rcases hr with ⟨rfl, _⟩ | ⟨x, rfl, _⟩
    · exact .inl rfl
    · exact .inr ⟨x, rfl⟩
  · rcases hr with ⟨rfl, as, rfl, hz', rfl⟩ | ⟨x, rfl, rfl⟩
    · refine J_execs_nil (J_execs_cons (J_return (J_CallAttr (J_name (by rfl) fun v7 => J_known (t := fun v => calleeOf _ _ _ v _) (Has.mem (.head _)) (J_calleeFew fun pl => J_methC (getK c.w k) (J_cm (readsK c.w k) (madeK c.w k) (madeRec c.w) fun v8 => ?_))))))
      refine J_callBound (Has.mem (.head _)) (madeFn c.w) (J_evalArgs (J_spliced (J_ListComp (ρ₂ := []) (cl := []) (g := some) (J_name (by rfl) fun v9 => ⟨(as.map Ex.f).map Ex.pv, iterK_tup (Has.mem (.head _)), as_el (by omega) (fun C => by rfl) (by kernel_rfl) (fun C => by rfl) rfl (by decide) (by decide) (by decide) (fun env => by rfl), Sees.nil, by rw [List.length_map]; omega, fun v10 => ?_⟩) (by rfl))))
      rw [List.filterMap_some, fms_map]
      refine J_spliced_nil ⟨Has.mem (by simp), ?_⟩
      exact J_ctBound (Has.mem (by simp)) (ct_made c k as hz') (by omega) Has.val (.cons (Has.mem (.head _)) .nil) ⟨rfl, .nil⟩ fun v11 => Has.mem (.head _)
    · rw [isNoneP_pv]
      exact J_execs_cons (J_return (J_name (by rfl) fun v7 => Has.mem (.head _)))
end Mine
end

-- C6
section
open PySem PySem.W PyProof.Rows PySem.Calls
set_option maxRecDepth 100000
set_option maxHeartbeats 1000000
namespace Mine
theorem evalK (w : World) : findCls (KK w) (.ref (kC .not)) (.type "type") "eval" = some (.get (.builtin "classmethod.__get__") (.ref 367) .none (.ref (kC .not))) := by kernel_rfl
theorem evalKI (w : World) : findCls (KK w) (.ref (kC .imp)) (.type "type") "eval" = some (.get (.builtin "classmethod.__get__") (.ref 428) .none (.ref (kC .imp))) := by kernel_rfl
theorem made_eq {k : Kd} {as : List Fm} {r : Ex} (h : made k as = some r) : tls as ≤ big ∧ r = .f (.node k as) := by
  unfold made at h
  split at h
  · rename_i q; cases h; exact ⟨q, rfl⟩
  · cases h
theorem notE_ev {e r : Ex} (h : notE e = some r) : e ≠ .f (.node .not []) ∧ ((evNot e = .none ∧ ∃ as, [e] = as.map Ex.f ∧ tls as ≤ big ∧ r.pv = .fm (.node .not as)) ∨ ∃ x : Ex, evNot e = x.pv ∧ r.pv = evNot e) := by
  have mk : ∀ f : Fm, made .not [f] = some r → [Ex.f f] = [f].map Ex.f ∧ tls [f] ≤ big ∧ r.pv = .fm (.node .not [f]) := fun f h => by
    obtain ⟨h1, h2⟩ := made_eq h
    exact ⟨rfl, h1, by rw [h2]; rfl⟩
  cases e with
  | b v =>
    cases h
    exact ⟨nofun, .inr ⟨.b !v, rfl, rfl⟩⟩
  | f f =>
    cases f with
    | sym i => exact ⟨nofun, .inl ⟨rfl, _, mk _ h⟩⟩
    | node k as =>
      cases k with
      | not =>
        cases as with
        | nil => cases h
        | cons g gs =>
          cases h
          exact ⟨nofun, .inr ⟨.f g, rfl, rfl⟩⟩
      | _ => exact ⟨nofun, .inl ⟨rfl, _, mk _ h⟩⟩
theorem ct_Not (c : Cx) {e r : Ex} (h : notE e = some r) : CT c 17 (.ref 385) [e.pv] [] r.pv := by
  obtain ⟨hne, hr⟩ := notE_ev h
  exact CT_new (k := .not) (newK_not c.w) (ct_bfNew c .not 365 367 [.bool false] (by decide) (evalK c.w) (by kernel_rfl) (by kernel_rfl) [e] (evNot e) r.pv (show 1 ≤ 1000000 by decide) (ct_notEval c e hne) hr)
theorem ct_impEval (c : Cx) (f g : Fm) : CT c 8 (.ref 426) [.val (.ref 448), .fm f, .fm g] [] (if Fm.beq f g then .bool true else .none) := by
  refine CT_def (n := 7) (f := 426) (by rfl) rfl rfl (by rfl) (bindStar (bindArgs_star (by rfl) (by rfl)) (show 2 ≤ 16777216 by decide)) (by decide) (kindsN (by rfl)) ?_
  intro s₀ F₀ L
  refine J_execs_cons (J_Try (J_execs_cons (J_AssignTuple (J_name (by rfl) fun v1 => J_unpack (xs := [.fm f, .fm g]) (Has.mem (.head _)) (by rfl) (by rfl) fun vs hvs => ?_))))
  match vs, hvs with
  | [a, b], _ =>
    refine J_inOrder (J_assignName (J_store (p := .fm f) (Has.mem (by simp)) (by rfl) (by rfl) (J_inOrder (J_assignName (J_store (p := .fm g) (Has.mem (by simp)) (by rfl) (by rfl) (J_inOrder_nil (J_execs_nil (J_execs_nil ?_))))))))
    refine J_execs_cons (J_if (J_isTrueAnd (J_allOr ?_)))
    refine J_isTrue (J_CallName (J_builtin (v := .builtin "isinstance") (by kernel_rfl) (by rfl) (by decide) (J_callImm (J_evalArgs (J_spliced (J_name (by rfl) fun v2 => J_spliced (J_builtin (v := .type "bool") (by kernel_rfl) (by rfl) (by decide) (J_spliced_nil (J_isiF (Has.mem (.head _)) (isi_boolT c.w (.f f)) (J_truthyB ?_))) (by rfl)))))) (by rfl)))
    refine J_allOr ?_
    refine J_isTrue (J_CallName (J_builtin (v := .builtin "isinstance") (by kernel_rfl) (by rfl) (by decide) (J_callImm (J_evalArgs (J_spliced (J_name (by rfl) fun v3 => J_spliced (J_builtin (v := .type "bool") (by kernel_rfl) (by rfl) (by decide) (J_spliced_nil (J_isiF (Has.mem (.head _)) (isi_boolT c.w (.f g)) (J_truthyB ?_))) (by rfl)))))) (by rfl)))
    refine J_allOr_nil (J_execs_cons (J_if ?_))
    refine J_isTrueCmp (J_name (by rfl) fun v4 => J_name (by rfl) fun v5 => J_eqE (x := .f f) (y := .f g) (by decide) (Has.mem (.tail _ (.head _))) (Has.mem (.head _)) (J_truthyB ?_))
    show if Fm.beq f g = true then _ else _
    cases hb : Fm.beq f g with
    | true => exact J_execs_cons (J_return (J_glob (v := .bool true) (by kernel_rfl) Has.bool (by rfl)))
    | false => exact J_execs_nil (J_execs_nil (J_execs_cons (J_return (J_none Has.none))))
theorem ct_Imp (c : Cx) {i j : Fin 3} {r : Ex} (h : impE (.f (.sym i)) (.f (.sym j)) = some r) : CT c 20 (.ref 448) [.fm (.sym i), .fm (.sym j)] [] r.pv := by
  refine CT_new (k := .imp) (newK_imp c.w) (ct_bfNew c .imp 426 428 [.bool false] (by decide) (evalKI c.w) (by kernel_rfl) (by kernel_rfl) [.f (.sym i), .f (.sym j)] _ r.pv (show 2 ≤ 1000000 by decide) (ct_impEval c (.sym i) (.sym j)) ?_)
  have h' : (if Fm.beq (.sym i) (.sym j) then some (Ex.b true) else made .imp [.sym i, .sym j]) = some r := h
  split
  · rename_i q
    rw [if_pos q] at h'
    cases h'
    exact .inr ⟨.b true, rfl, rfl⟩
  · rename_i q
    rw [if_neg q] at h'
    obtain ⟨h1, h2⟩ := made_eq h'
    exact .inl ⟨rfl, _, rfl, h1, by rw [h2]; rfl⟩
end Mine
end

-- C7
section
open PySem PySem.W PyProof.Rows PySem.Calls
set_option maxRecDepth 100000
set_option maxHeartbeats 1000000
namespace Mine
theorem ct_ordered (c : Cx) (as : List Fm) (h64 : as.length < 64) : CT c 14 (.ref 46) [.lst (as.map .fm)] [] (.lst ((sortF as).map .fm)) := by
  refine CT_def (n := 13) (f := 46) (by rfl) rfl rfl (by rfl) (bind1 (fun a => by rfl)) (by decide) (kindsN (by rfl)) ?_
  intro s₀ F₀ L
  refine J_execs_cons (J_return (J_CallName (J_builtin (v := .builtin "sorted") (by kernel_rfl) (by rfl) (by decide) ?_ (by rfl))))
  refine J_callImm (J_evalKw (J_spliced (J_name (by rfl) fun v1 => J_spliced_nil (J_evalAll (J_glob (v := .ref 39) (by kernel_rfl) (J_evalAll_nil ?_) (by rfl))))))
  exact J_sortedKey (ct_dsk c) (by decide) (Has.mem (.head _)) h64 fun r => Has.mem (.head _)
theorem isi_kd (w : World) (k : Kd) (e : Ex) : kitOne (KK w) (tyOf e) (.ref (kC k)) = some (kindIs k e) := by
  cases e with
  | b u => cases k <;> kernel_rfl
  | f f => cases f with
    | sym i => cases k <;> kernel_rfl
    | node l as => cases k <;> cases l <;> kernel_rfl
theorem parts_kind (k : Kd) (e : Ex) : (kindIs k e = true ∧ ∃ as, e = .f (.node k as) ∧ parts k e = as.map Ex.f) ∨ (kindIs k e = false ∧ parts k e = [e]) := by
  cases e with
  | b u => exact .inr ⟨rfl, rfl⟩
  | f f => cases f with
    | sym i => exact .inr ⟨rfl, rfl⟩
    | node l as =>
      by_cases h : l = k
      · subst h; exact .inl ⟨by simp [kindIs], as, rfl, by simp [parts]⟩
      · exact .inr ⟨by simp [kindIs, h], by simp [parts, h]⟩
theorem keeps_len {k : Kd} : ∀ {args : List Ex} {kept kept' : List Fm}, keeps k args kept = some kept' → kept'.length ≤ kept.length + (args.flatMap (parts k)).length
  | [], kept, kept', h => by cases h; simp
  | a :: r, kept, kept', h => by
    have e : keeps k (a :: r) kept = match keep (zeroOf k) (parts k a) kept with | none => none | some kept => keeps k r kept := rfl
    rw [e] at h
    cases q : keep (zeroOf k) (parts k a) kept with
    | none => rw [q] at h; cases h
    | some k2 =>
      rw [q] at h
      have h1 := keep_len q
      have h2 := keeps_len h
      rw [List.flatMap_cons, List.length_append]
      omega
def latK (k : Kd) : Prop := k = .and ∨ k = .or
theorem zeroC (w : World) {k : Kd} (h : latK k) : findCls (KK w) (.ref (kC k)) (.type "type") "zero" = some (.val (.bool (zeroOf k))) := by rcases h with rfl | rfl <;> kernel_rfl
theorem identC (w : World) {k : Kd} (h : latK k) : findCls (KK w) (.ref (kC k)) (.type "type") "identity" = some (.val (.bool (!zeroOf k))) := by rcases h with rfl | rfl <;> kernel_rfl
def LatI (k : Kd) (kept : List Fm) (σ : AS) : Prop := (∃ l : Addr, σ.own = some (("kept" : Str), l, (kept.map Ex.f).map Ex.pv)) ∧ σ.ρ.lookup ("cls" : Str) = some (.val (.ref (kC k)))
theorem ct_latNew (c : Cx) {k : Kd} (hk : latK k) (args : List Ex) (r : Ex) (h : latE k args = some r) (hlen : args.length ≤ 1000) : CT c 30 (.ref 234) (.val (.ref (kC k)) :: args.map Ex.pv) [] r.pv := by
  refine CT_def (n := 29) (f := 234) (by rfl) rfl rfl (by rfl) (bindStarK (bindArgs_starK (by rfl) (by rfl)) (by rw [List.length_map, sizeLine_is]; omega)) (by decide) (kindsN (by rfl)) ?_
  intro s₀ F₀ L
  unfold latE at h
  split at h
  case isFalse => cases h
  rename_i hsz
  replace hsz := hsz.2
  refine J_execs_cons (J_assignOwn (J_spliced_nil ⟨by rfl, [], .nil, Nat.zero_le _, fun l => ?_⟩) (by rfl))
  refine J_execs_cons (J_mono (Φ := fun fl σ => match keeps k args [] with | none => ∃ v, fl = .ret v ∧ Has c σ v (.bool (zeroOf k)) | some kept => fl = .next ∧ LatI k kept σ) ?_ fun fl σ z => ?_)
  · refine J_for (J_ListComp (ρ₂ := []) (cl := []) (g := some) (J_name (by rfl) fun v3 => ⟨args.map Ex.pv, iterK_tup (Has.mem (.head _)), as_el (by omega) (fun C => by rfl) (by kernel_rfl) (fun C => by rfl) rfl (by decide) (by decide) (by decide) (fun env => by rfl), Sees.nil, by rw [List.length_map]; omega, fun v4 => ?_⟩) (by rfl))
    rw [List.filterMap_some]
    refine ⟨args.map Ex.pv, iterOf_lst (Has.mem (.head _)), ?_⟩
    refine ForJ_ind (fun ps σ => ∃ rest kept, ps = rest.map Ex.pv ∧ LatI k kept σ ∧ keeps k rest kept = keeps k args [] ∧ kept.length + (rest.flatMap (parts k)).length ≤ 1000) ?_ ?_ _ _ ⟨args, [], rfl, ⟨⟨l, by rfl⟩, by rfl⟩, rfl, by simpa using hsz⟩
    · rintro σ ⟨rest, kept, e1, hI, e2, e3⟩
      cases rest with
      | nil =>
        refine J_execs_nil ?_
        rw [← e2]
        exact ⟨rfl, hI⟩
      | cons _ _ => cases e1
    · rintro p ps σ ⟨rest, kept, e1, ⟨⟨l, hown⟩, hcls⟩, e2, e3⟩ v F₁ pin
      cases rest with
      | nil => cases e1
      | cons a rest =>
        cases e1
        rw [List.flatMap_cons, List.length_append] at e3
        refine J_assignName (J_store (Has.mem (.head _)) (by rfl) (by rw [hown]; rfl) ?_)
        refine J_execs_cons (J_mono (Φ := fun fl σ => match keep (zeroOf k) (parts k a) kept with | none => ∃ v, fl = .ret v ∧ Has c σ v (.bool (zeroOf k)) | some kept => fl = .next ∧ LatI k kept σ) ?_ fun fl σ z => ?_)
        · refine J_for (J_mono (Φ := fun x σ' => IterOf c 29 _ σ' x ((parts k a).map Ex.pv) ∧ LatI k kept σ') ?_ fun x σ' z => ⟨_, z.1, ?_⟩)
          · refine J_ifexp (J_isTrue (J_CallName (J_builtin (v := .builtin "isinstance") (by kernel_rfl) (by rfl) (by decide) (J_callImm (J_evalArgs (J_spliced (J_name (p := a.pv) (by rfl) fun v1 => J_spliced (J_name hcls fun v2 => J_spliced_nil (J_known (t := fun w => call (.builtin "isinstance") [v1, w]) (Has.mem (.head _)) (J_isiE (Has.mem (.tail _ (.head _))) (isi_kd c.w k a) (J_truthyB ?_)))))))) (by rfl))))
            rcases parts_kind k a with ⟨e5, as, rfl, e6⟩ | ⟨e5, e6⟩
            · rw [e5, e6, fms_map]
              exact J_Attribute (J_name (p := .fm (.node k as)) (by rfl) fun v3 => J_args (Has.mem (.head _)) fun v4 => ⟨iterOf_tup (Has.mem (.head _)), ⟨l, hown⟩, hcls⟩)
            · rw [e5, e6]
              exact J_Tuple (J_spliced (J_name (p := a.pv) (by rfl) fun v3 => J_spliced_nil (J_newTuple (ps := [a.pv]) (.cons (Has.mem (.head _)) .nil) (show 1 ≤ 16777216 by decide) fun v4 => ⟨iterOf_tup (Has.mem (.head _)), ⟨l, hown⟩, hcls⟩)))
          · refine ForJ_ind (fun ps σ => ∃ ones kept', ps = ones.map Ex.pv ∧ LatI k kept' σ ∧ keep (zeroOf k) ones kept' = keep (zeroOf k) (parts k a) kept ∧ kept'.length + ones.length ≤ 1000) ?_ ?_ _ _ ⟨parts k a, kept, rfl, z.2, rfl, by omega⟩
            · rintro σ₂ ⟨ones, kept', f1, hI, f2, f3⟩
              cases ones with
              | nil =>
                refine J_execs_nil ?_
                rw [← f2]
                exact ⟨rfl, hI⟩
              | cons _ _ => cases f1
            · rintro p₂ ps₂ σ₂ ⟨ones, kept', f1, ⟨⟨l₂, hown₂⟩, hcls₂⟩, f2, f3⟩ w F₂ pin₂
              cases ones with
              | nil => cases f1
              | cons one ones =>
                cases f1
                rw [List.length_cons] at f3
                refine J_assignName (J_store (Has.mem (.head _)) (by rfl) (by rw [hown₂]; rfl) ?_)
                refine J_execs_cons (J_if (J_isTrue (J_CallName (J_builtin (v := .builtin "isinstance") (by kernel_rfl) (by rfl) (by decide) (J_callImm (J_evalArgs (J_spliced (J_name (p := one.pv) (by rfl) fun w1 => J_spliced (J_builtin (v := .type "bool") (by kernel_rfl) (by rfl) (by decide) (J_spliced_nil (J_isiE (Has.mem (.head _)) (isi_boolT c.w one) (J_truthyB ?_))) (by rfl)))))) (by rfl)))))
                cases one with
                | b u =>
                  refine J_execs_cons (J_if (J_isTrueCmp (J_name (p := .bool u) (by rfl) fun w2 => J_Attribute (J_name hcls₂ fun w3 => J_known (t := fun v => getAttr v _ _) (Has.mem (.head _)) (J_clsVal (readsK c.w k) (zeroC c.w hk) rfl (J_eqE (x := .b u) (y := .b (zeroOf k)) (by decide) (Has.mem (.tail _ (.head _))) Has.bool (J_truthyB ?_)))))))
                  show if (u == zeroOf k) = true then _ else _
                  have f4 : keep (zeroOf k) (.b u :: ones) kept' = if u == zeroOf k then none else keep (zeroOf k) ones kept' := rfl
                  cases hu : u == zeroOf k with
                  | true =>
                    rw [hu, if_pos rfl] at f4
                    refine J_execs_cons (J_return (J_Attribute (J_name hcls₂ fun w4 => J_known (t := fun v => getAttr v _ _) (Has.mem (.head _)) (J_clsVal (readsK c.w k) (zeroC c.w hk) rfl ?_))))
                    rw [← f2, f4]
                    exact ⟨_, rfl, Has.bool⟩
                  | false =>
                    rw [hu, if_neg (by simp)] at f4
                    exact J_execs_nil (J_execs_nil (J_execs_nil ⟨ones, kept', rfl, ⟨⟨l₂, hown₂⟩, hcls₂⟩, by rw [← f2, f4], by omega⟩))
                | f g =>
                  refine J_execs_cons (J_if (J_isTrueIn (neg := true) (J_name (p := .fm g) (by rfl) fun w2 => J_nameOwn hown₂ (J_inOwn (x := .f g) (by decide) hown₂ (Has.mem (.head _)) ?_))))
                  have f4 : keep (zeroOf k) (.f g :: ones) kept' = if inE (.f g) (kept'.map Ex.f) then keep (zeroOf k) ones kept' else keep (zeroOf k) ones (kept' ++ [g]) := by rw [inE_fms]; rfl
                  cases hu : inE (.f g) (kept'.map Ex.f) with
                  | true =>
                    rw [hu, if_pos rfl] at f4
                    exact J_execs_nil (J_execs_nil (J_execs_nil ⟨ones, kept', rfl, ⟨⟨l₂, hown₂⟩, hcls₂⟩, by rw [← f2, f4], by omega⟩))
                  | false =>
                    rw [hu, if_neg (by simp)] at f4
                    refine J_execs_cons (J_Expr (J_CallAttr (J_nameOwn hown₂ (J_calleeFew fun pl => J_methOwn hown₂ PySem.F.slot_list_append PySem.F.type_list_append (J_callImm (J_evalArgs (J_spliced (J_name (p := .fm g) (by rfl) fun w3 => J_spliced_nil (J_append hown₂ (Has.mem (.head _)) (by rw [List.length_map, List.length_map, sizeLine_is]; omega) ⟨none_noRef, ?_⟩)))))))))
                    refine J_execs_nil (J_execs_nil (J_execs_nil ⟨ones, kept' ++ [g], rfl, ⟨⟨l₂, ?_⟩, hcls₂⟩, by rw [← f2, f4], by rw [List.length_append, List.length_singleton]; omega⟩))
                    simp [Ex.pv]
        · have e4 : keeps k (a :: rest) kept = match keep (zeroOf k) (parts k a) kept with | none => none | some kept => keeps k rest kept := rfl
          cases hkeep : keep (zeroOf k) (parts k a) kept with
          | none =>
            rw [hkeep] at z e4
            obtain ⟨v, rfl, hv⟩ := z
            rw [← e2, e4]
            exact ⟨v, rfl, hv⟩
          | some kept' =>
            rw [hkeep] at z e4
            obtain ⟨rfl, hI⟩ := z
            have := keep_len hkeep
            exact J_execs_nil ⟨rest, kept', rfl, hI, by rw [← e2, e4], by omega⟩
  · cases hkeeps : keeps k args [] with
    | none =>
      rw [hkeeps] at z h
      cases h
      obtain ⟨v, rfl, hv⟩ := z
      exact hv
    | some kept =>
      rw [hkeeps] at z h
      obtain ⟨rfl, ⟨l, hown⟩, hcls⟩ := z
      have hlk : ((kept.map Ex.f).map Ex.pv).length ≤ sizeLine := by
        have := keeps_len hkeeps
        rw [List.length_map, List.length_map, sizeLine_is]; simp only [List.length_nil] at this; omega
      refine J_execs_cons (J_if (J_not (J_isTrue (J_nameOwn hown (J_truthyOwn hown hlk ?_)))))
      cases kept with
      | nil =>
        cases h
        exact J_execs_cons (J_return (J_Attribute (J_name hcls fun w1 => J_known (t := fun v => getAttr v _ _) (Has.mem (.head _)) (J_clsVal (readsK c.w k) (identC c.w hk) rfl Has.bool))))
      | cons f rest =>
        refine J_execs_nil (J_execs_cons (J_if (J_isTrueCmp (J_CallName (J_builtin (v := .builtin "len") (by kernel_rfl) (by rfl) (by decide) (J_callImm (J_evalArgs (J_spliced (J_nameOwn hown (J_spliced_nil (J_lenOwn hown hlk fun t => J_int fun t' => J_eqInt Has.int Has.int (J_truthyB ?_))))))) (by rfl))))))
        cases rest with
        | nil =>
          cases h
          exact J_freeze hown (J_execs_cons (J_return (J_Subscript (J_name (p := .lst [.fm f]) (by rfl) fun w1 => J_int fun t'' => J_tailL (k := 0) (Has.mem (.head _)) Has.int (by rfl) fun w2 => Has.mem (.head _)))))
        | cons g rest =>
          have h' : (if (f :: g :: rest).length < 64 then made k (sortF (f :: g :: rest)) else none) = some r := h
          split at h'
          case isFalse => cases h'
          rename_i h64
          obtain ⟨hz, rfl⟩ := made_eq h'
          have hne : (((((f :: g :: rest).map Ex.f).map Ex.pv).length : Int) == 1) = false := by
            rw [beq_eq_false_iff_ne]; simp only [List.length_map, List.length_cons]; omega
          rw [hne]
          refine J_freeze hown (J_execs_nil (J_execs_cons (J_return (J_CallAttr (J_name hcls fun w1 => J_known (t := fun v => calleeOf _ _ _ v _) (Has.mem (.head _)) (J_calleeFew fun pl => J_methC (getK c.w k) (J_cm (readsK c.w k) (madeK c.w k) (madeRec c.w) fun w2 => ?_)))))))
          refine J_callBound (Has.mem (.head _)) (madeFn c.w) (J_evalArgs (J_spliced (J_CallName (J_glob (v := .ref 46) (by kernel_rfl) (J_callBase (by kernel_rfl) (J_evalArgs (J_spliced (J_name (p := .lst (((f :: g :: rest).map Ex.f).map Ex.pv)) (by rfl) fun w3 => J_spliced_nil ?_)))) (by rfl)))))
          rw [fms_map]
          refine J_ct (ct_ordered c (f :: g :: rest) h64) (by decide) (.cons (Has.mem (.head _)) .nil) fun w4 => J_spliced_nil ⟨Has.mem (by simp), ?_⟩
          exact J_ctBound (Has.mem (by simp)) (ct_made c k (sortF (f :: g :: rest)) hz) (by decide) Has.val (.cons (Has.mem (.head _)) .nil) ⟨rfl, .nil⟩ fun v11 => Has.mem (.head _)
end Mine
end

-- C8
section
open PySem PySem.W PyProof.Rows PySem.Calls
set_option maxRecDepth 100000
set_option maxHeartbeats 1000000
namespace Mine
theorem ct_lat (c : Cx) {k : Kd} (hk : latK k) (args : List Ex) (r : Ex) (h : latE k args = some r) (hlen : args.length ≤ 1000) : CT c 32 (.ref (kC k)) (args.map Ex.pv) [] r.pv := by
  have N : NewK (KK c.w) (kC k) 234 248 := by rcases hk with rfl | rfl; exact newK_and c.w; exact newK_or c.w
  exact CT_new (k := k) N (ct_latNew c hk args r h hlen)
theorem ct_eqvNew (c : Cx) (i j : Fin 3) (r : Ex) (h : eqvE (.f (.sym i)) (.f (.sym j)) = some r) : CT c 30 (.ref 462) [.val (.ref (kC .eqv)), .fm (.sym i), .fm (.sym j)] [] r.pv := by
  refine CT_def (n := 29) (f := 462) (by rfl) rfl rfl (by rfl) (bindStarK (bindArgs_starK (by rfl) (by rfl)) (show 2 ≤ 16777216 by decide)) (by decide) (kindsN (by rfl)) ?_
  intro s₀ F₀ L
  have h' : (if Fm.beq (.sym i) (.sym j) then some (Ex.b true) else made .eqv (sortF [.sym i, .sym j])) = some r := h
  refine J_execs_cons (J_assignOwn (J_spliced_nil ⟨by rfl, [], .nil, Nat.zero_le _, fun l => ?_⟩) (by rfl))
  refine J_execs_cons (J_for (J_ListComp (ρ₂ := []) (cl := []) (g := some) (J_name (by rfl) fun v3 => ⟨[Ex.f (.sym i), Ex.f (.sym j)].map Ex.pv, iterK_tup (Has.mem (.head _)), as_el (by omega) (fun C => by rfl) (by kernel_rfl) (fun C => by rfl) rfl (by decide) (by decide) (by decide) (fun env => by rfl), Sees.nil, (by decide : 2 ≤ 1000000), fun v4 => ?_⟩) (by rfl)))
  rw [List.filterMap_some]
  refine ⟨_, iterOf_lst (Has.mem (.head _)), ?_⟩
  intro w1 F₁ pin
  refine J_assignName (J_store (p := .fm (.sym i)) (Has.mem (.head _)) (by rfl) (by rfl) (J_execs_cons (J_if (J_isTrueIn (neg := true) (J_name (by rfl) fun w2 => J_nameOwn (by rfl) (J_inOwn (x := .f (.sym i)) (ys := []) (by decide) (by rfl) (Has.mem (.head _)) ?_))))))
  refine J_execs_cons (J_Expr (J_CallAttr (J_nameOwn (by rfl) (J_calleeFew fun pl => J_methOwn (by rfl) PySem.F.slot_list_append PySem.F.type_list_append (J_callImm (J_evalArgs (J_spliced (J_name (p := .fm (.sym i)) (by rfl) fun w3 => J_spliced_nil (J_append (by rfl) (Has.mem (.head _)) (Nat.zero_le _) ⟨none_noRef, ?_⟩)))))))))
  refine J_execs_nil (J_execs_nil ?_)
  intro u1 F₂ pin₂
  refine J_assignName (J_store (p := .fm (.sym j)) (Has.mem (.head _)) (by rfl) (by rfl) (J_execs_cons (J_if (J_isTrueIn (neg := true) (J_name (by rfl) fun u2 => J_nameOwn (by rfl) (J_inOwn (x := .f (.sym j)) (ys := [.f (.sym i)]) (by decide) (by rfl) (Has.mem (.head _)) ?_))))))
  have e : inE (.f (.sym j)) [.f (.sym i)] = Fm.beq (.sym i) (.sym j) := by unfold inE; simp [Ex.eq]
  rw [e]
  cases hb : Fm.beq (.sym i) (.sym j) with
  | true =>
    rw [hb, if_pos rfl] at h'
    cases h'
    refine J_execs_nil (J_execs_nil (J_execs_nil ?_))
    refine J_execs_cons (J_if (J_isTrueCmp (J_CallName (J_builtin (v := .builtin "len") (by kernel_rfl) (by rfl) (by decide) (J_callImm (J_evalArgs (J_spliced (J_nameOwn (by rfl) (J_spliced_nil (J_lenOwn (by rfl) (by exact (by decide : 1 ≤ 16777216)) fun t => J_int fun t' => J_leInt Has.int Has.int (J_truthyB ?_))))))) (by rfl)))))
    exact J_execs_cons (J_return (J_glob (v := .bool true) (by kernel_rfl) Has.bool (by rfl)))
  | false =>
    rw [hb, if_neg (by simp)] at h'
    obtain ⟨hz, rfl⟩ := made_eq h'
    refine J_execs_cons (J_Expr (J_CallAttr (J_nameOwn (by rfl) (J_calleeFew fun pl => J_methOwn (by rfl) PySem.F.slot_list_append PySem.F.type_list_append (J_callImm (J_evalArgs (J_spliced (J_name (p := .fm (.sym j)) (by rfl) fun w3 => J_spliced_nil (J_append (by rfl) (Has.mem (.head _)) (by exact (by decide : 1 ≤ 16777216)) ⟨none_noRef, ?_⟩)))))))))
    refine J_execs_nil (J_execs_nil (J_execs_nil ?_))
    refine J_execs_cons (J_if (J_isTrueCmp (J_CallName (J_builtin (v := .builtin "len") (by kernel_rfl) (by rfl) (by decide) (J_callImm (J_evalArgs (J_spliced (J_nameOwn (by rfl) (J_spliced_nil (J_lenOwn (by rfl) (by exact (by decide : 2 ≤ 16777216)) fun t => J_int fun t' => J_leInt Has.int Has.int (J_truthyB ?_))))))) (by rfl)))))
    refine J_execs_nil (J_execs_cons (J_if (J_isTrueIn (neg := false) (J_bool (J_nameOwn (by rfl) (J_inOwn (x := .b true) (ys := [.f (.sym i), .f (.sym j)]) (by decide) (by rfl) Has.bool ?_))))))
    refine J_execs_nil (J_execs_cons (J_if (J_isTrueIn (neg := false) (J_bool (J_nameOwn (by rfl) (J_inOwn (x := .b false) (ys := [.f (.sym i), .f (.sym j)]) (by decide) (by rfl) Has.bool ?_))))))
    refine J_freeze (by rfl) (J_execs_nil (J_execs_cons (J_return (J_CallAttr (J_name (by rfl) fun w1 => J_known (t := fun v => calleeOf _ _ _ v _) (Has.mem (.head _)) (J_calleeFew fun pl => J_methC (getK c.w .eqv) (J_cm (readsK c.w .eqv) (madeK c.w .eqv) (madeRec c.w) fun w2 => ?_)))))))
    refine J_callBound (Has.mem (.head _)) (madeFn c.w) (J_evalArgs (J_spliced (J_CallName (J_glob (v := .ref 46) (by kernel_rfl) (J_callBase (by kernel_rfl) (J_evalArgs (J_spliced (J_name (p := .lst [.fm (.sym i), .fm (.sym j)]) (by rfl) fun w3 => J_spliced_nil ?_)))) (by rfl)))))
    refine J_ct (ct_ordered c [.sym i, .sym j] (by decide : 2 < 64)) (by decide) (.cons (Has.mem (.head _)) .nil) fun w4 => J_spliced_nil ⟨Has.mem (by simp), ?_⟩
    exact J_ctBound (Has.mem (by simp)) (ct_made c .eqv (sortF [.sym i, .sym j]) hz) (by decide) Has.val (.cons (Has.mem (.head _)) .nil) ⟨rfl, .nil⟩ fun v11 => Has.mem (.head _)
theorem ct_Eqv (c : Cx) (i j : Fin 3) (r : Ex) (h : eqvE (.f (.sym i)) (.f (.sym j)) = some r) : CT c 32 (.ref 481) [.fm (.sym i), .fm (.sym j)] [] r.pv :=
  CT_new (k := .eqv) (newK_eqv c.w) (ct_eqvNew c i j r h)
theorem xorKw (w : World) : ∃ o od sl fd d, (KK w).lookup 400 = some ⟨o, od, .func fd, sl⟩ ∧ fd.kwdefaults = .ref d := ⟨_, _, _, _, _, rfl, rfl⟩
theorem ct_xorNew (c : Cx) (i j : Fin 3) (r : Ex) (h : xorE (.f (.sym i)) (.f (.sym j)) = some r) : CT c 30 (.ref 400) [.val (.ref (kC .xor)), .fm (.sym i), .fm (.sym j)] [] r.pv := by
  refine CT_def (n := 29) (f := 400) (by rfl) rfl rfl (by rfl) (bindStarO (pd := .bool true) (dv := .bool true) (bindArgs_starO (by rfl) (by rfl) (by rfl) (by decide)) (by kernel_rfl) (fun F => rfl) (show 2 ≤ 16777216 by decide)) (by decide) (kindsN (by rfl)) ?_
  intro s₀ F₀ L
  have h' : (if Fm.beq (.sym i) (.sym j) then some (Ex.b false) else made .xor (sortF [.sym i, .sym j])) = some r := h
  refine J_execs_cons (J_assignOwn (J_spliced_nil ⟨by rfl, [], .nil, Nat.zero_le _, fun l => ?_⟩) (by rfl))
  refine J_execs_cons (J_for (J_ListComp (ρ₂ := []) (cl := []) (g := some) (J_name (by rfl) fun v3 => ⟨[Ex.f (.sym i), Ex.f (.sym j)].map Ex.pv, iterK_tup (Has.mem (.head _)), as_el (by omega) (fun C => by rfl) (by kernel_rfl) (fun C => by rfl) rfl (by decide) (by decide) (by decide) (fun env => by rfl), Sees.nil, (by decide : 2 ≤ 1000000), fun v4 => ?_⟩) (by rfl)))
  rw [List.filterMap_some]
  refine ⟨_, iterOf_lst (Has.mem (.head _)), ?_⟩
  intro w1 F₁ pin
  refine J_assignName (J_store (p := .fm (.sym i)) (Has.mem (.head _)) (by rfl) (by rfl) ?_)
  refine J_execs_cons (J_if (J_isTrue (J_CallName (J_builtin (v := .builtin "isinstance") (by kernel_rfl) (by rfl) (by decide) (J_callImm (J_evalArgs (J_spliced (J_name (p := .fm (.sym i)) (by rfl) fun v1 => J_spliced (J_builtin (v := .type "bool") (by kernel_rfl) (by rfl) (by decide) (J_spliced_nil (J_isiF (Has.mem (.head _)) (isi_boolT c.w (.f (.sym i))) (J_truthyB ?_))) (by rfl)))))) (by rfl)))))
  refine J_execs_nil (J_execs_cons (J_for (J_ifexp (J_isTrue (J_CallName (J_builtin (v := .builtin "isinstance") (by kernel_rfl) (by rfl) (by decide) (J_callImm (J_evalArgs (J_spliced (J_name (p := .fm (.sym i)) (by rfl) fun v1 => J_spliced (J_glob (v := .ref 409) (by kernel_rfl) (J_spliced_nil (J_isiF (Has.mem (.head _)) (isi_kd c.w .xor (.f (.sym i))) (J_truthyB ?_))) (by rfl)))))) (by rfl)))))))
  refine J_Tuple (J_spliced (J_name (p := .fm (.sym i)) (by rfl) fun v5 => J_spliced_nil (J_newTuple (ps := [.fm (.sym i)]) (.cons (Has.mem (.head _)) .nil) (show 1 ≤ 16777216 by decide) fun v6 => ⟨_, iterOf_tup (Has.mem (.head _)), ?_⟩)))
  intro w2 F₂ pin₂
  refine J_assignName (J_store (p := .fm (.sym i)) (Has.mem (.head _)) (by rfl) (by rfl) ?_)
  refine J_execs_cons (J_if (J_isTrueIn (neg := false) (J_name (p := .fm (.sym i)) (by rfl) fun v7 => J_nameOwn (by rfl) (J_inOwn (x := .f (.sym i)) (ys := []) (by decide) (by rfl) (Has.mem (.head _)) ?_))))
  refine J_execs_cons (J_Expr (J_CallAttr (J_nameOwn (by rfl) (J_calleeFew fun pl => J_methOwn (by rfl) PySem.F.slot_list_append PySem.F.type_list_append (J_callImm (J_evalArgs (J_spliced (J_name (p := .fm (.sym i)) (by rfl) fun v8 => J_spliced_nil (J_append (by rfl) (Has.mem (.head _)) (Nat.zero_le _) ⟨none_noRef, ?_⟩)))))))))
  refine J_execs_nil (J_execs_nil (J_execs_nil (J_execs_nil ?_)))
  intro w3 F₃ pin₃
  refine J_assignName (J_store (p := .fm (.sym j)) (Has.mem (.head _)) (by rfl) (by rfl) ?_)
  refine J_execs_cons (J_if (J_isTrue (J_CallName (J_builtin (v := .builtin "isinstance") (by kernel_rfl) (by rfl) (by decide) (J_callImm (J_evalArgs (J_spliced (J_name (p := .fm (.sym j)) (by rfl) fun v1 => J_spliced (J_builtin (v := .type "bool") (by kernel_rfl) (by rfl) (by decide) (J_spliced_nil (J_isiF (Has.mem (.head _)) (isi_boolT c.w (.f (.sym j))) (J_truthyB ?_))) (by rfl)))))) (by rfl)))))
  refine J_execs_nil (J_execs_cons (J_for (J_ifexp (J_isTrue (J_CallName (J_builtin (v := .builtin "isinstance") (by kernel_rfl) (by rfl) (by decide) (J_callImm (J_evalArgs (J_spliced (J_name (p := .fm (.sym j)) (by rfl) fun v1 => J_spliced (J_glob (v := .ref 409) (by kernel_rfl) (J_spliced_nil (J_isiF (Has.mem (.head _)) (isi_kd c.w .xor (.f (.sym j))) (J_truthyB ?_))) (by rfl)))))) (by rfl)))))))
  refine J_Tuple (J_spliced (J_name (p := .fm (.sym j)) (by rfl) fun v5 => J_spliced_nil (J_newTuple (ps := [.fm (.sym j)]) (.cons (Has.mem (.head _)) .nil) (show 1 ≤ 16777216 by decide) fun v6 => ⟨_, iterOf_tup (Has.mem (.head _)), ?_⟩)))
  intro w4 F₄ pin₄
  refine J_assignName (J_store (p := .fm (.sym j)) (Has.mem (.head _)) (by rfl) (by rfl) ?_)
  refine J_execs_cons (J_if (J_isTrueIn (neg := false) (J_name (p := .fm (.sym j)) (by rfl) fun v7 => J_nameOwn (by rfl) (J_inOwn (x := .f (.sym j)) (ys := [.f (.sym i)]) (by decide) (by rfl) (Has.mem (.head _)) ?_))))
  have e : inE (.f (.sym j)) [.f (.sym i)] = Fm.beq (.sym i) (.sym j) := by unfold inE; simp [Ex.eq]
  rw [e]
  cases hb : Fm.beq (.sym i) (.sym j) with
  | true =>
    rw [hb, if_pos rfl] at h'
    cases h'
    refine J_execs_cons (J_Expr (J_CallAttr (J_nameOwn (by rfl) (J_calleeFew fun pl => J_methOwn (by rfl) PySem.F.slot_list_remove PySem.F.type_list_remove (J_callImm (J_evalArgs (J_spliced (J_name (p := .fm (.sym j)) (by rfl) fun v8 => J_spliced_nil (J_removeOne (x := .f (.sym j)) (x' := .f (.sym i)) (by decide) (by rfl) (Has.mem (.head _)) hb ⟨none_noRef, ?_⟩)))))))))
    refine J_execs_nil (J_execs_nil (J_execs_nil (J_execs_nil ?_)))
    refine J_execs_nil (J_execs_cons (J_if (J_isTrueCmp (J_CallName (J_builtin (v := .builtin "len") (by kernel_rfl) (by rfl) (by decide) (J_callImm (J_evalArgs (J_spliced (J_nameOwn (by rfl) (J_spliced_nil (J_lenOwn (by rfl) (Nat.zero_le _) fun t => J_int fun t' => J_eqInt Has.int Has.int (J_truthyB ?_))))))) (by rfl))))))
    exact J_execs_cons (J_return (J_glob (v := .bool false) (by kernel_rfl) Has.bool (by rfl)))
  | false =>
    rw [hb, if_neg (by simp)] at h'
    obtain ⟨hz, rfl⟩ := made_eq h'
    refine J_execs_cons (J_Expr (J_CallAttr (J_nameOwn (by rfl) (J_calleeFew fun pl => J_methOwn (by rfl) PySem.F.slot_list_append PySem.F.type_list_append (J_callImm (J_evalArgs (J_spliced (J_name (p := .fm (.sym j)) (by rfl) fun v8 => J_spliced_nil (J_append (by rfl) (Has.mem (.head _)) (by exact (by decide : 1 ≤ 16777216)) ⟨none_noRef, ?_⟩)))))))))
    refine J_execs_nil (J_execs_nil (J_execs_nil (J_execs_nil ?_)))
    refine J_execs_nil (J_execs_cons (J_if (J_isTrueCmp (J_CallName (J_builtin (v := .builtin "len") (by kernel_rfl) (by rfl) (by decide) (J_callImm (J_evalArgs (J_spliced (J_nameOwn (by rfl) (J_spliced_nil (J_lenOwn (by rfl) (by exact (by decide : 2 ≤ 16777216)) fun t => J_int fun t' => J_eqInt Has.int Has.int (J_truthyB ?_))))))) (by rfl))))))
    refine J_execs_cons (J_if (J_isTrueCmp (J_CallName (J_builtin (v := .builtin "len") (by kernel_rfl) (by rfl) (by decide) (J_callImm (J_evalArgs (J_spliced (J_nameOwn (by rfl) (J_spliced_nil (J_lenOwn (by rfl) (by exact (by decide : 2 ≤ 16777216)) fun t => J_int fun t' => J_eqInt Has.int Has.int (J_truthyB ?_))))))) (by rfl)))))
    refine J_execs_cons (J_if (J_isTrueAnd (J_allAnd (J_isTrueIn (neg := false) (J_bool (J_nameOwn (by rfl) (J_inOwn (x := .b true) (ys := [.f (.sym i), .f (.sym j)]) (by decide) (by rfl) Has.bool ?_)))))))
    refine J_freeze (by rfl) (J_execs_cons (J_return (J_CallAttr (J_name (by rfl) fun w1 => J_known (t := fun v => calleeOf _ _ _ v _) (Has.mem (.head _)) (J_calleeFew fun pl => J_methC (getK c.w .xor) (J_cm (readsK c.w .xor) (madeK c.w .xor) (madeRec c.w) fun w2 => ?_))))))
    refine J_callBound (Has.mem (.head _)) (madeFn c.w) (J_evalArgs (J_spliced (J_CallName (J_glob (v := .ref 46) (by kernel_rfl) (J_callBase (by kernel_rfl) (J_evalArgs (J_spliced (J_name (p := .lst [.fm (.sym i), .fm (.sym j)]) (by rfl) fun w3 => J_spliced_nil ?_)))) (by rfl)))))
    refine J_ct (ct_ordered c [.sym i, .sym j] (by decide : 2 < 64)) (by decide) (.cons (Has.mem (.head _)) .nil) fun w4 => J_spliced_nil ⟨Has.mem (by simp), ?_⟩
    exact J_ctBound (Has.mem (by simp)) (ct_made c .xor (sortF [.sym i, .sym j]) hz) (by decide) Has.val (.cons (Has.mem (.head _)) .nil) ⟨rfl, .nil⟩ fun v11 => Has.mem (.head _)
theorem ct_Xor (c : Cx) (i j : Fin 3) (r : Ex) (h : xorE (.f (.sym i)) (.f (.sym j)) = some r) : CT c 32 (.ref 409) [.fm (.sym i), .fm (.sym j)] [] r.pv :=
  CT_new (k := .xor) (newK_xor c.w) (ct_xorNew c i j r h)
end Mine
end

-- C9
section
open PySem PySem.W PyProof.Rows PySem.Calls
set_option maxRecDepth 100000
set_option maxHeartbeats 1000000
namespace Mine
theorem ct_lit (c : Cx) : ∀ (n : Nat) (e : Ex) (r : Bool), litF n e = some r → CT c (9 + n) (.ref 614) [e.pv] [] (.bool r)
  | 0, e, r, h => by cases e <;> cases h
  | n + 1, e, r, h => by
    have ih := ct_lit c n
    refine CT_def (n := 9 + n) (f := 614) (by rfl) rfl rfl (by rfl) (bind1 (fun a => by rfl)) (by decide) (kindsN (by rfl)) ?_
    intro s₀ F₀ L
    refine J_execs_cons (J_if (J_isTrue (J_CallName (J_builtin (v := .builtin "isinstance") (by kernel_rfl) (by rfl) (by decide) (J_callImm (J_evalArgs (J_spliced (J_name (p := e.pv) (by rfl) fun v1 => J_spliced (J_glob (v := .ref 385) (by kernel_rfl) (J_spliced_nil (J_isiE (Has.mem (.head _)) (isi_kd c.w .not e) (J_truthyB ?_))) (by rfl)))))) (by rfl)))))
    rcases parts_kind .not e with ⟨e5, as, rfl, e6⟩ | ⟨e5, e6⟩
    · rw [e5]
      cases as with
      | nil => cases h
      | cons g gs =>
        refine J_execs_cons <| J_return <| J_CallName <| J_G (v := .ref 614) (by kernel_rfl) (by rfl) <| J_callBase (by kernel_rfl) <| J_evalArgs <| J_spliced <| J_Subscript <| J_Attribute <| J_name (p := .fm (.node .not (g :: gs))) (by rfl) fun v3 => J_args (Has.mem (.head _)) fun v4 => J_int fun t => J_tailT (k := 0) (j := 0) (Has.mem (.head _)) Has.int (seq_at 0 _ (by simp)) (by rfl) fun v5 => J_spliced_nil ?_
        exact J_ct (ih (.f g) r h) (by omega) (.cons (Has.mem (.head _)) .nil) fun v6 => Has.mem (.head _)
    · rw [e5]
      refine J_execs_cons <| J_if <| J_isTrueAnd <| J_allOr <| J_isTrueIn (neg := false) <| J_name (p := e.pv) (by rfl) fun v2 => J_Tuple <| J_spliced <| J_bool <| J_spliced <| J_bool <| J_spliced_nil <| J_newTuple (ps := [.bool true, .bool false]) (.cons Has.bool (.cons Has.bool .nil)) (by exact (by decide : 2 ≤ 16777216)) fun v3 => J_inTup (x := e) (ys := [.b true, .b false]) (by omega) (Has.mem (.tail _ (.head _))) (Has.mem (.head _)) ?_
      cases e with
      | b u =>
        cases h
        cases u <;> exact J_execs_cons <| J_return <| J_bool Has.bool
      | f f =>
        refine J_allOr <| J_isTrue <| J_Attribute <| J_name (p := .fm f) (by rfl) fun v4 => J_isAtom (Has.mem (.head _)) <| J_truthyB ?_
        cases f with
        | sym i =>
          cases h
          exact J_execs_cons <| J_return <| J_bool Has.bool
        | node k as =>
          have hr : r = false := by
            cases k with
            | not => cases e5
            | _ => cases h; rfl
          subst hr
          exact J_allOr_nil <| J_execs_nil <| J_execs_nil <| J_execs_cons <| J_return <| J_bool Has.bool
end Mine
end

-- J25
section
open PySem PySem.W PyProof.Rows PySem.Calls
set_option maxRecDepth 100000
namespace Mine
/-- nothing changed but these -/
def ExtOut (wr : List Addr) (h h' : Heap) : Prop := ∀ b o, b ∉ wr → h.get? b = some o → h'.get? b = some o
theorem Holds.stepOut {c : Cx} {fr : Fc} {F F' : PM} {σ : AS} {h h' : Heap} {wr : List Addr} (H : Holds c fr F σ h) (Z : ∀ a ∈ wr, Free fr F σ a) (hp : ∀ q ∈ fr.pin, q.1 ∉ wr) (e : ExtOut wr h h')
    (le : Le F F') (hs : Sub F' h') (hn : ∀ b x, F' b = some x → F b = some x ∨ h.get? b = none) : Holds c fr F' σ h' := by
  obtain ⟨m, cm, L⟩ := H.loc
  have off : ∀ {b : Addr} {o : Obj}, F b = none → h.get? b = some o → F' b = none := fun {b o} n l => by
    cases q : F' b with
    | none => rfl
    | some x =>
      rcases hn b x q with z | z
      · rw [n] at z; cases z
      · rw [l] at z; cases z
  have nL : fr.env.locals ∉ wr := fun z => (Z _ z).loc rfl
  refine ⟨H.base, H.kind, H.outer, H.le.trans le, hs, H.keep.more fun b _ o q q' => e b o (fun z => by rw [(Z b z).new] at q; cases q) q', fun b o q => ?_,
    ⟨m, cm, ⟨?_, ?_, L.fresh, fun y d z => ?_, L.apart, fun y p z => ?_, fun y l ps z => ?_, fun z hz => ?_, L.pinD⟩⟩, fun q hq => (H.tmp q hq).mono le⟩
  · rcases hn b o q with z | z
    · exact H.new b o z
    · exact .inr (H.keep.none z)
  · exact L.ns.at' fun o q => e _ o nL q
  · obtain ⟨oL, _, _, hL, _⟩ := L.ns
    exact off L.offL hL
  · obtain ⟨⟨o, b1, b2⟩, b3, b4, b5⟩ := L.cell y d z
    exact ⟨⟨o, e _ _ (fun w => (Z d w).cell y d z rfl) b1, b2⟩, b3, off b4 b1, b5⟩
  · obtain ⟨v, r, w⟩ := L.val y p z
    exact ⟨v, r.mono le, w⟩
  · obtain ⟨a1, a2, ⟨vs, nn, a3, a4⟩, a5, a6⟩ := L.own y l ps z
    exact ⟨a1, a2, ⟨vs, nn, e _ _ (fun w => (Z l w).own y l ps z rfl) a3, a4.mono le⟩, off a5 a3, a6⟩
  · obtain ⟨a1, a2, a3⟩ := L.pin z hz
    exact ⟨e _ _ (hp z hz) a1, off a2 a1, a3⟩
theorem Holds.pinnedL {c : Cx} {fr : Fc} {F : PM} {σ : AS} {h : Heap} {pins : List (Addr × Obj)} (H : Holds c fr F σ h) (Z : ∀ q ∈ pins, Free fr F σ q.1) (e : ∀ q ∈ pins, h.get? q.1 = some q.2) (nd : ∀ q ∈ pins, NoDict q.2) : Holds c (fr.at F (pins ++ fr.pin)) F σ h := by
  obtain ⟨m, cm, L⟩ := H.loc
  refine ⟨H.baseF, H.kind, H.outerAt, Le.refl _, H.sub, H.keep, fun b o q => .inl q, ⟨m, cm, ⟨L.ns, L.offL, L.fresh, L.cell, L.apart, L.val, L.own, fun z hz => ?_, fun z hz => ?_⟩⟩, H.tmp⟩
  · rcases List.mem_append.mp hz with hz | hz
    · have Z := Z z hz
      exact ⟨e z hz, Z.off, Z.loc, Z.new, Z.cell, Z.own⟩
    · exact L.pin z hz
  · rcases List.mem_append.mp hz with hz | hz
    · exact .inr (nd z hz)
    · exact L.pinD z hz
theorem Holds.unpinnedL {c : Cx} {fr : Fc} {F F' : PM} {σ σ' : AS} {h h' : Heap} {pins : List (Addr × Obj)} (H : Holds c fr F σ h) (H' : Holds c (fr.at F (pins ++ fr.pin)) F' σ' h') :
    Holds c fr F' σ' h' ∧ (∀ q ∈ pins, Free fr F' σ' q.1 ∧ h'.get? q.1 = some q.2) ∧ Le F F' := by
  obtain ⟨m, cm, L⟩ := H'.loc
  refine ⟨⟨H.base, H.kind, H.outer, H.le.trans H'.le, H'.sub, H'.keep, fun b x q => ?_, ⟨m, cm, ⟨L.ns, L.offL, L.fresh, L.cell, L.apart, L.val, L.own, fun z hz => L.pin z (List.mem_append_right _ hz), fun z hz => L.pinD z (List.mem_append_right _ hz)⟩⟩, H'.tmp⟩, fun q hq => ?_, H'.le⟩
  · rcases H'.new b x q with w | w
    · exact H.new b x w
    · exact .inr w
  · have z := L.pin q (List.mem_append_left _ hq)
    exact ⟨⟨z.2.1, z.2.2.1, z.2.2.2.1, z.2.2.2.2.1, z.2.2.2.2.2⟩, z.1⟩

/-- nothing changed but these, and the slots of namespaces -/
def KwOut (l : List Env) (wr : List Addr) (h h' : Heap) : Prop := ∀ b o, b ∉ wr → h.get? b = some o → h'.get? b = some o ∨ ((∃ env ∈ l, env.frame = some b) ∧ (∃ es k, o.data = .dict es k) ∧ ∃ sl, h'.get? b = some { o with slots := sl })
theorem KwOut.of {l : List Env} {wr : List Addr} {h h' : Heap} (e : ExtOut wr h h') : KwOut l wr h h' := fun b o m q => .inl (e b o m q)
theorem KwOut.exact {l : List Env} {wr : List Addr} {h h' : Heap} (k : KwOut l wr h h') {b : Addr} {o : Obj} (m : b ∉ wr) (n : NoDict o) (e : h.get? b = some o) : h'.get? b = some o := by
  rcases k b o m e with z | ⟨_, ⟨es, kk, d⟩, _⟩
  · exact z
  · exact absurd d (n es kk)
theorem KwOut.some {l : List Env} {wr : List Addr} {h h' : Heap} (k : KwOut l wr h h') {b : Addr} {o : Obj} (m : b ∉ wr) (e : h.get? b = some o) : ∃ o', h'.get? b = some o' ∧ o'.data = o.data := by
  rcases k b o m e with z | ⟨_, _, sl, z⟩
  · exact ⟨o, z, rfl⟩
  · exact ⟨_, z, rfl⟩
theorem Holds.stepOutW {c : Cx} {fr : Fc} {l : List Env} {F : PM} {σ : AS} {h h' : Heap} {wr : List Addr} (H : Holds c fr F σ h) (hstk : fr.stk = some l) (Z : ∀ a ∈ wr, Free fr F σ a) (hp : ∀ q ∈ fr.pin, q.1 ∉ wr) (e : KwOut (fr.env :: l) wr h h') (hs : Sub F h') : Holds c fr F σ h' := by
  obtain ⟨m, cm, L⟩ := H.loc
  have nL : fr.env.locals ∉ wr := fun z => (Z _ z).loc rfl
  have kk : Kw l fr.s₀.heap h := by have z := H.keep; rw [hstk] at z; exact z
  refine ⟨H.base, H.kind, H.outer, H.le, hs, by
      rw [hstk]
      intro b o q
      have nb : b ∉ wr := fun z => by rw [(Z b z).new] at q; cases q
      rcases kk b o q with w | ⟨m, d, sl, w⟩
      · rcases e b o nb w with w2 | ⟨⟨env, hm, hf⟩, d, sl2, w2⟩
        · exact .inl w2
        · rcases List.mem_cons.mp hm with rfl | hm
          · rw [(H.outer l hstk).2] at hf
            cases hf
            rw [L.fresh] at q
            cases q
          · exact .inr ⟨⟨env, hm, hf⟩, d, sl2, w2⟩
      · rcases e b _ nb w with w2 | ⟨_, _, sl2, w2⟩
        · exact .inr ⟨m, d, sl, w2⟩
        · exact .inr ⟨m, d, sl2, w2⟩, H.new,
    ⟨m, cm, ⟨?_, L.offL, L.fresh, fun y d z => ?_, L.apart, L.val, fun y l ps z => ?_, fun z hz => ?_, L.pinD⟩⟩, H.tmp⟩
  · obtain ⟨o, es, ep, ho, hd, r⟩ := L.ns
    obtain ⟨o', ho', hd'⟩ := e.some nL ho
    exact ⟨o', es, ep, ho', hd'.trans hd, r⟩
  · obtain ⟨⟨o, b1, b2⟩, b3, b4, b5⟩ := L.cell y d z
    obtain ⟨o', ho', hd'⟩ := e.some (fun w => (Z d w).cell y d z rfl) b1
    exact ⟨⟨o', ho', hd'.trans b2⟩, b3, b4, b5⟩
  · obtain ⟨a1, a2, ⟨vs, nn, a3, a4⟩, a5, a6⟩ := L.own y l ps z
    exact ⟨a1, a2, ⟨vs, nn, e.exact (fun w => (Z l w).own y l ps z rfl) (by intro es kk z; cases z) a3, a4⟩, a5, a6⟩
  · obtain ⟨a1, a2, a3⟩ := L.pin z hz
    rcases L.pinD z hz with w | w
    · rw [hstk] at w; cases w
    · exact ⟨e.exact (hp z hz) w a1, a2, a3⟩
/-- an iterator of several parts -/
structure IterW (c : Cx) (n : Nat) (target : Expr) (it : Addr) (wr : List Addr) (fz : PM → Prop) (P : List PV → List (Addr × Obj) → Prop) : Prop where
  mono : ∀ F F', Le F F' → fz F → fz F'
  pins : ∀ ps o, P ps o → o.map (·.1) = wr
  nd : ∀ ps o, P ps o → ∀ q ∈ o, NoDict q.2
  item : ∀ p ps pins A F s, Room n A → Base c F → Sub F s.heap → (∀ a ∈ wr, F a = none) → fz F → (∀ q ∈ pins, s.heap.get? q.1 = some q.2) → P (p :: ps) pins → ∀ Q : Value → Shared → Prop,
    (∀ v F' h' tk pins', (∀ q ∈ pins', h'.get? q.1 = some q.2) → P ps pins' → ExtOut wr s.heap h' → Le F F' → Sub F' h' → (∀ a x, F' a = some x → F a = some x ∨ s.heap.get? a = none) → Rep F' p v → Q v { s with heap := h', toks := tk }) →
    wpAny c.M A (pyNext (.ref it)) (fun r s' => match r with | none => False | some v => wpAny c.M A (letOwnedTupleGo target (.ref it) v) (fun _ s'' => Q v s'') (fun _ _ => False) s') (fun _ _ => False) s
  done : ∀ pins A l F s, Room n A → A.frames = some l → Base c F → Sub F s.heap → StkL l F s.heap → (∀ a ∈ wr, F a = none) → fz F → (∀ q ∈ pins, s.heap.get? q.1 = some q.2) → P [] pins → ∀ Q : Option Value → Shared → Prop,
    (∀ h' tk, KwOut l wr s.heap h' → Sub F h' → Q none { s with heap := h', toks := tk }) → wpAny c.M A (pyNext (.ref it)) Q (fun _ _ => False) s
theorem J_forLoopW {c : Cx} {n : Nat} {fr : Fc} {target : Expr} {body orelse : List Stmt} {it : Addr} {wr : List Addr} {fz : PM → Prop} {P : List PV → List (Addr × Obj) → Prop} (I : IterW c n target it wr fz P) {Φ : Flow → AS → Prop} {l : List Env} (hstk : fr.stk = some l) {A : Around} (r : Rm n fr.env fr.stk A) {F : PM} {σ : AS} {s : Shared} {pins : List (Addr × Obj)} {xs : List PV}
    (H : Holds c fr F σ s.heap) (ho : ∀ q ∈ pins, s.heap.get? q.1 = some q.2) (hP : P xs pins) (hf : fz F) (Z : ∀ a ∈ wr, Free fr F σ a) (hp : ∀ q ∈ fr.pin, q.1 ∉ wr) (hJ : ForJ c n fr target body orelse Φ xs σ)
    {Q : Flow → Shared → Prop} (q : ∀ fl σ' F' h' tk, Φ fl σ' → Holds c fr F' σ' h' → Q fl { s with heap := h', toks := tk }) :
    codeAny c.M A (.forLoop target (.ref it) body orelse fr.env) (fun r s' => match r with | .ok f => Q f s' | .error _ => False) s := by
  refine codeAny_forLoop_any (fun k s' => ∃ xs σ F h tk pins, k = xs.length ∧ s' = { s with heap := h, toks := tk } ∧ Holds c fr F σ h ∧ (∀ q ∈ pins, h.get? q.1 = some q.2) ∧ P xs pins ∧ fz F ∧ (∀ a ∈ wr, Free fr F σ a) ∧ ForJ c n fr target body orelse Φ xs σ) ?_ xs.length ⟨xs, σ, F, s.heap, s.toks, pins, rfl, rfl, H, ho, hP, hf, Z, hJ⟩
  rintro k s' ⟨xs, σ, F, h, tk, pins, rfl, rfl, H, ho, hP, hf, Z, hJ⟩
  cases xs with
  | nil =>
    refine wpAny_mono (I.done pins A (fr.env :: l) F { s with heap := h, toks := tk } r.1 (r.2 l hstk) H.baseF H.sub (H.stkAt hstk) (fun a m => (Z a m).off) hf ho hP _ fun h' tk' he hsb => ?_) (fun _ _ x => x) fun _ _ x => x.elim
    have H' := H.stepOutW hstk Z hp he hsb
    exact wpAny_mono (hJ A r F { s with heap := h', toks := tk' } H' Q fun fl σ' F' h'' tk'' z H'' => q fl σ' F' h'' tk'' z H'') (fun _ _ x => x) fun _ _ x => x.elim
  | cons p ps =>
    refine wpAny_mono (I.item p ps pins A F { s with heap := h, toks := tk } r.1 H.baseF H.sub (fun a m => (Z a m).off) hf ho hP (fun v s₁ => wpAny c.M A (assign target fr.env v) (fun _ s₂ => wpAny c.M A (execs body fr.env) (fun f s₃ => match f with
            | .next | .cont => ∃ m, m < (p :: ps).length ∧ ∃ xs σ F h tk pins, m = xs.length ∧ s₃ = { s with heap := h, toks := tk } ∧ Holds c fr F σ h ∧ (∀ q ∈ pins, h.get? q.1 = some q.2) ∧ P xs pins ∧ fz F ∧ (∀ a ∈ wr, Free fr F σ a) ∧ ForJ c n fr target body orelse Φ xs σ
            | .brk => Q .next s₃
            | .ret v => Q (.ret v) s₃) (fun _ _ => False) s₂) (fun _ _ => False) s₁) fun v F' h' tk' pins' ho' hP' he le hs hn rv => ?_) (fun r s₁ z => ?_) fun _ _ x => x.elim
    · have hFit : ∀ a ∈ wr, F' a = none := fun a m => by
        cases w : F' a with
        | none => rfl
        | some x =>
          rcases hn a x w with y | y
          · rw [(Z a m).off] at y; cases y
          · rw [← I.pins _ _ hP] at m
            obtain ⟨q', hq', rfl⟩ := List.mem_map.mp m
            rw [ho q' hq'] at y; cases y
      have H₂ := (H.stepOut Z hp he le hs hn).push rv
      have Z₂ : ∀ a ∈ wr, Free fr F' (σ.push v p) a := fun a m => ⟨hFit a m, (Z a m).loc, (Z a m).new, (Z a m).cell, (Z a m).own⟩
      have mw : ∀ q' ∈ pins', q'.1 ∈ wr := fun q' hq' => by rw [← I.pins _ _ hP']; exact List.mem_map_of_mem hq'
      have H₃ := H₂.pinnedL (fun q' hq' => Z₂ _ (mw q' hq')) ho' (I.nd _ _ hP')
      refine wpAny_mono (hJ v F' (pins' ++ fr.pin) A r F' { s with heap := h', toks := tk' } H₃ _ fun u σ₁ F₁ h₁ tk₁ z₁ H₄ => ?_) (fun _ _ x => x) fun _ _ x => x.elim
      refine wpAny_mono (z₁ A r F₁ { s with heap := h₁, toks := tk₁ } H₄ _ fun fl σ₂ F₂ h₂ tk₂ z₂ H₅ => ?_) (fun _ _ x => x) fun _ _ x => x.elim
      obtain ⟨H₆, Z₆, le₆⟩ := H₂.unpinnedL H₅
      have Z₇ : ∀ a ∈ wr, Free fr F₂ σ₂ a := fun a m => by
        rw [← I.pins _ _ hP'] at m
        obtain ⟨q', hq', rfl⟩ := List.mem_map.mp m
        exact (Z₆ q' hq').1
      have go : ForJ c n fr target body orelse Φ ps σ₂ → ∃ m, m < (p :: ps).length ∧ ∃ xs σ F h tk pins, m = xs.length ∧ ({ s with heap := h₂, toks := tk₂ } : Shared) = { s with heap := h, toks := tk } ∧ Holds c fr F σ h ∧ (∀ q ∈ pins, h.get? q.1 = some q.2) ∧ P xs pins ∧ fz F ∧ (∀ a ∈ wr, Free fr F σ a) ∧ ForJ c n fr target body orelse Φ xs σ := fun z =>
        ⟨ps.length, Nat.lt_succ_self _, ps, σ₂, F₂, h₂, tk₂, pins', rfl, rfl, H₆, fun q' hq' => (Z₆ q' hq').2, hP', I.mono _ _ (le.trans le₆) hf, Z₇, z⟩
      cases fl with
      | next => exact go z₂
      | cont => exact go z₂
      | brk => exact q _ σ₂ F₂ h₂ tk₂ z₂ H₆
      | ret w => exact q _ σ₂ F₂ h₂ tk₂ z₂ H₆
    · cases r with
      | none => exact z.elim
      | some v => exact wpAny_mono z (fun _ s₂ z => wpAny_mono z (fun _ s₃ z => wpAny_mono z (fun fl _ z => by cases fl <;> exact z) fun _ _ x => x.elim) fun _ _ x => x.elim) fun _ _ x => x.elim
/-- t makes something to walk over -/
def JI (c : Cx) (n : Nat) (fr : Fc) (σ : AS) (target : Expr) (t : Sem Value) (Φ : List PV → AS → Prop) : Prop :=
  ∀ A, Rm n fr.env fr.stk A → ∀ F s, Holds c fr F σ s.heap → ∀ Q : Value → Shared → Prop,
    (∀ it xs σ' wr fz P pins F' h' tk, Φ xs σ' → IterW c n target it wr fz P → Holds c fr F' σ' h' → (∀ q ∈ pins, h'.get? q.1 = some q.2) → P xs pins → fz F' → (∀ a ∈ wr, Free fr F' σ' a) → (∀ q ∈ fr.pin, q.1 ∉ wr) → Q (.ref it) { s with heap := h', toks := tk }) →
    wpAny c.M A t (fun x s₁ => wpAny c.M A (pyIter x) Q (fun _ _ => False) s₁) (fun _ _ => False) s
section
variable {c : Cx} {α : Type} {n : Nat} {fr : Fc} {σ : AS} {target : Expr} {Φ : List PV → AS → Prop}
theorem JI_bindJ {m : Sem α} {f : α → Sem Value} (h : J c n fr σ m fun a σ' => JI c n fr σ' target (f a) Φ) : JI c n fr σ target (m >>= f) Φ :=
  fun A r F s H Q k => wpAny_bind (h A r F s H _ fun a σ' F' h' tk q H' => q A r F' { s with heap := h', toks := tk } H' Q fun it xs σ'' wr fz P pins F'' h'' tk' => k it xs σ'' wr fz P pins F'' h'' tk')
theorem JI_holding {vs : List Value} {t : Sem Value} (h : JI c n fr σ target t Φ) : JI c n fr σ target (holding vs t) Φ := fun A r F s H Q k => wpAny_holding (h A r F s H Q k)
theorem JI_operate {vs : List Value} {t : Sem Value} (h : JI c n fr σ target t Φ) : JI c n fr σ target (operate vs t) Φ := fun A r F s H Q k => wpAny_operating (h A r F s H Q k)
theorem JI_keep {vs : List Value} {t : Sem Value} (h : JI c n fr σ target t Φ) : JI c n fr σ target (t.keep vs) Φ := fun A r F s H Q k => wpAny_keep (h A r F s H Q k)
theorem JI_fin {t : Sem Value} (h : JI c n fr σ target t Φ) : JI c n fr σ target (t >>= fun r => holding [r] point >>= fun _ => pure r) Φ := fun A r F s H Q k =>
  wpAny_bind (wpAny_mono (h A r F s H Q k) (fun v s' z => wpAny_bind (wpAny_holding (wpAny_point (wpAny_pure z)))) fun _ _ x => x)
theorem JI_callWith {pos : Pos} {f : Value} {first : List Value} {args : List (Bool × Sem Value)} {keywords : List (Option Str × Sem Value)} {k : Keeper} (hk : ∀ h, Kp c.H h → Looks c.M h (keeperOf f) k)
    (h : J c n fr σ (evalArgs f true args keywords) fun a σ' => JI c n fr σ' target (call f (first ++ a.pos) a.kw) Φ) : JI c n fr σ target (callWith pos f first args keywords) Φ := by
  unfold callWith
  refine JI_bindJ (J_holding (J_mono h fun a σ' q => JI_bindJ (J_standAt ?_)))
  refine JI_bindJ (J_looks (fun F h H => hk h H.kpH) ?_)
  have mk : ∀ v, JI c n fr σ' target (callMarked v f (first ++ a.pos) a.kw) Φ := fun v => JI_keep q
  cases k <;> cases (args.any (·.1) || keywords.any (·.1.isNone)) <;> dsimp only <;> first | exact JI_fin (mk _) | exact JI_fin (JI_operate q) | exact JI_fin q | (split; exact JI_fin q; exact JI_fin (mk _))
theorem JI_callBase {pos : Pos} {f : Value} {first : List Value} {args : List (Bool × Sem Value)} {keywords : List (Option Str × Sem Value)} (hk : keepIn (KK c.w) f = true)
    (h : J c n fr σ (evalArgs f true args keywords) fun a σ' => JI c n fr σ' target (call f (first ++ a.pos) a.kw) Φ) : JI c n fr σ target (callWith pos f first args keywords) Φ :=
  let ⟨_, hk'⟩ := keeps_base hk; JI_callWith hk' h
theorem JI_callImm {pos : Pos} {f : Value} {first : List Value} {args : List (Bool × Sem Value)} {keywords : List (Option Str × Sem Value)} (h : J c n fr σ (evalArgs f true args keywords) fun a σ' => JI c n fr σ' target (call f (first ++ a.pos) a.kw) Φ)
    (hf : ∀ a, f ≠ .ref a := by intro a x; cases x) : JI c n fr σ target (callWith pos f first args keywords) Φ := JI_callWith (keeper_imm hf) h
theorem JI_CallName {x : Str} {np pos : Pos} {args : List Expr} {keywords : List Keyword} {env : Env}
    (h : J c n fr σ (eval (.Name x np) env) fun f σ' => JI c n fr σ' target (callWith pos f [] (backTo pos (starEach args env)) (backToKw pos (keywordEach keywords env))) Φ) : JI c n fr σ target (eval (.Call (.Name x np) args keywords pos) env) Φ := by
  show JI c n fr σ target (do callWith pos (← eval (.Name x np) env) [] (backTo pos (starEach args env)) (backToKw pos (keywordEach keywords env))) Φ
  exact JI_bindJ h
theorem J_forW {iter : Expr} {body orelse : List Stmt} {pos : Pos} {Ψ : Flow → AS → Prop} (h : JI c n fr σ target (eval iter fr.env) fun xs σ' => ForJ c n fr target body orelse Ψ xs σ')
    (hs : ∀ x, foldedSetIterable iter fr.env x = pure x := by intro _; rfl) (hstk : ∃ l, fr.stk = some l := by exact ⟨_, rfl⟩) : J c n fr σ (exec (.For target iter body orelse pos) fr.env) Ψ := fun A r F s H Q q => by
  obtain ⟨l, hstk⟩ := hstk
  refine wpAny_For (h A r F s H _ fun it xs σ' wr fz P pins F' h' tk hJ I H' ho hP hf Z hp => ?_) hs
  refine codeAny_mono (J_forLoopW (s := { s with heap := h', toks := tk }) I hstk r H' ho hP hf Z hp hJ (Q := Q) fun fl σ' F' h' tk z H' => q fl σ' F' h' tk z H') fun r s' z => ?_
  cases r with
  | ok f => exact z
  | error e => exact z.elim
end
end Mine
end

-- J26
section
open PySem PySem.W PyProof.Rows PySem.Calls
set_option maxRecDepth 100000
namespace Mine
/-- the contract of a call within which an exception may be raised and caught: the frames about it are known -/
def CTw (c : Cx) (n : Nat) (f : Value) (ps : List PV) (kws : List (Str × PV)) (p : PV) : Prop :=
  ∀ vs kvs A l, Room n A → A.frames = some l → ∀ F s, Base c F → Sub F s.heap → StkL l F s.heap → Reps F ps vs → KReps F kws kvs → ∀ Q : Value → Shared → Prop,
    (∀ v F' h' tk, Kw l s.heap h' → Ext F F' s.heap h' → Rep F' p v → Q v { s with heap := h', toks := tk }) → codeAny c.M A (.call f ⟨vs, kvs⟩) (EndC Q) s
theorem CT.w {c : Cx} {n : Nat} {f : Value} {ps : List PV} {kws : List (Str × PV)} {p : PV} (x : CT c n f ps kws p) : CTw c n f ps kws p := fun vs kvs A l r hl F s hB hS _ hr hk Q q =>
  x vs kvs A r F s hB hS hr hk Q fun v F' h' tk kp e rv => q v F' h' tk (Kw.of kp) e rv
theorem CTw.mono {c : Cx} {m n : Nat} {f : Value} {ps : List PV} {kws : List (Str × PV)} {p : PV} (h : m ≤ n) (x : CTw c m f ps kws p) : CTw c n f ps kws p := fun vs kvs A l r => x vs kvs A l (r.mono h)
theorem CTw_defZ {c : Cx} {n : Nat} {f : Addr} {oc : Value} {od : Option Addr} {sl : Array (Option Value)} {fd : FuncData} {body : List Stmt} {ps : List PV} {kws : List (Str × PV)} {p : PV} {names : List Str} (Z : List PV → List (Value × PV) → Prop)
    (ho : (KK c.w).lookup f = some ⟨oc, od, .func fd, sl⟩) (hb : fd.body = .stmts body) (hcl : fd.closure = []) (hcd : codeIn (KK c.w) fd.code fd.qualname = true)
    (hbind : ∀ vs kvs, Steps c n (bindArgs fd ⟨vs, kvs⟩) (fun F _ => Reps F ps vs ∧ KReps F kws kvs) (fun F _ b => b.map (·.1) = names ∧ ∃ pvs κ, Z pvs κ ∧ Reps F pvs (b.map (·.2)) ∧ ∀ q ∈ κ, Rep F q.2 q.1))
    (hnd : names.Nodup) (hkind : ∀ L, ∀ x ∈ names, fd.scope.names.lookup x = some .local ∨ (fd.scope.names.lookup x = some .cell ∧ ((cellsFrom (L + 1) fd.scope.names []).lookup x).isSome = true))
    (hJ : ∀ pvs κ, Z pvs κ → ∀ s₀ F₀ L l, J c n ⟨s₀, F₀, callEnvC fd L f, (callEnvC fd L f).cells, [], some l⟩ ⟨names.zip pvs, none, κ⟩ (execs body (callEnvC fd L f)) (RetP c p))
    (hco : fd.scope.isCoroutine = false := by rfl) (hgen : fd.scope.isGenerator = false := by rfl) (hk : fd.scope.kind = .function := by rfl) :
    CTw c (n + 1) (.ref f) ps kws p := by
  intro vs kvs A l r hl F s hB hS hStk hP1 hP2 Q hQ
  have r1 : Room n A.in1 := ⟨by have := r.1; show A.depth + 2 * n < 1000; omega, by have := r.2.1; show A.units + 1 + 30 * n < 9900; omega, r.2.2⟩
  refine codeAny_call_function (by have := r.1; show A.depth < 1000; omega) ((hB.inK hS) _ _ ho) rfl hco hgen hb (codeRec_of (hB.inK hS) hcd) ?_
  refine wpAny_mono (hbind vs kvs A.in1 r1 F s hB hS ⟨hP1, hP2⟩ _ fun binds F' h' tk kp e hr => ?_) (fun _ _ x => x) (fun _ _ x => x.elim)
  obtain ⟨hr1, pvs, κ, hZ, hr2, hκ⟩ := hr
  rw [hcl]
  refine wpAny_newFunctionEnv_cells hk (fun x hx => hkind _ x.1 (hr1 ▸ List.mem_map_of_mem hx)) fun env he s' x => ?_
  subst he
  refine ⟨(c.nolimit.keeps (hB.kp hS)).keeps fun b o q => x.toInCall.keep b o (kp b o q), codeAny_func ?_⟩
  obtain ⟨h₁, tk₁, hs'⟩ := x.toInCall.same
  subst hs'
  have r2 : Room n (A.deeper (callEnvC fd h'.objs.size f)) := ⟨by have := r.1; show A.depth + 1 + 2 * n < 1000; omega, by have := r.2.1; show A.units + 3 + 30 * n < 9900; omega, r.2.2⟩
  have off : ∀ a, h'.objs.size ≤ a → F' a = none := fun a ha => by
    cases q : F' a with
    | none => rfl
    | some o => exact absurd (Heap.lt_size (e.sub a o q)) (Nat.not_lt.mpr ha)
  have hn : (binds.map (·.1)).Nodup := hr1 ▸ hnd
  have hStk' : StkL l F' h' := hStk.step (Kw.of (l := l) kp) e.new
  have H : Holds c ⟨{ s with heap := h', toks := tk }, F', callEnvC fd h'.objs.size f, (callEnvC fd h'.objs.size f).cells, [], some l⟩ F' ⟨names.zip pvs, none, κ⟩ h₁ := by
    have none_of : ∀ a, h'.objs.size ≤ a → h'.get? a = none := fun a ha => by
      cases q : h'.get? a with
      | none => rfl
      | some o => exact absurd (Heap.lt_size q) (Nat.not_lt.mpr ha)
    refine ⟨hB.mono e.le, hk, fun l' z => by cases z; exact ⟨hStk', rfl⟩, Le.refl _, fun a o q => x.toInCall.keep a o (e.sub a o q), Kw.of fun b o q => x.toInCall.keep b o q, fun a o q => .inl q, ⟨_, (bindC (callEnvC fd h'.objs.size f).kindOf binds fun _ => none), ⟨x.toInCall.ns, off _ (Nat.le_refl _), none_of _ (Nat.le_refl _), fun y d q => ?_, fun y y' d q q' => name_of_addr x.apart (PySem.mem_of_lookup q) (PySem.mem_of_lookup q'), fun y p q => ?_, fun y l ps q => (by cases q), fun q hq => (nomatch hq), fun q hq => (nomatch hq)⟩⟩, hκ⟩
    · have ab := x.above y d (PySem.mem_of_lookup q)
      exact ⟨x.cell y d q, Nat.ne_of_gt ab, off d (Nat.le_of_lt ab), none_of d (Nat.le_of_lt ab)⟩
    · obtain ⟨v, hv, hrv⟩ := lookup_zip hr1 hr2 q
      have hm : y ∈ names := by
        rw [← hr1]
        exact List.mem_map_of_mem (PySem.mem_of_lookup hv)
      have bv := (bind_val (kindOf := (callEnvC fd h'.objs.size f).kindOf) binds (fun _ => none) (fun _ => none) hn).1 y v hv
      rcases hkind h'.objs.size y hm with hl | ⟨hl, hs⟩
      · exact ⟨v, hrv, .inl ⟨hl, bv.1 hl⟩⟩
      · obtain ⟨d, hd⟩ := Option.isSome_iff_exists.mp hs
        have hl' : (callEnvC fd h'.objs.size f).kindOf y = some .cell := hl
        exact ⟨v, hrv, .inr (.inl ⟨hl', d, hd, hd, bv.2 (by rw [hl']; decide)⟩)⟩
  have rm : Rm n (callEnvC fd h'.objs.size f) (some l) (A.deeper (callEnvC fd h'.objs.size f)) := ⟨r2, fun l' z => by cases z; exact Around.frames_deeper hl⟩
  refine wpAny_mono (hJ _ _ hZ _ _ _ l _ rm F' _ H (fun fl s' => Q (match fl with | .ret v => v | _ => .none) s') fun fl σ' F'' h'' tk'' hΦ H' => ?_) (fun fl s' q => q) (fun _ _ x => x.elim)
  have kp' : Kw l s.heap h'' := (Kw.of kp).trans H'.keep
  have e' : Ext F F'' s.heap h'' := ⟨e.le.trans H'.le, H'.sub, fun a o q => by
    rcases H'.new a o q with z | z
    · exact e.new a o z
    · exact .inr (Kw.none (Kw.of (l := l) kp) z)⟩
  refine hQ _ F'' h'' tk'' kp' e' ?_
  cases fl with
  | ret v => exact hΦ _ _ _ H'
  | _ => unfold RetP at hΦ; dsimp only at hΦ ⊢; rw [hΦ]; exact rfl
theorem CTw_def {c : Cx} {n : Nat} {f : Addr} {oc : Value} {od : Option Addr} {sl : Array (Option Value)} {fd : FuncData} {body : List Stmt} {ps : List PV} {kws : List (Str × PV)} {p : PV} {names : List Str} {pvs : List PV}
    (ho : (KK c.w).lookup f = some ⟨oc, od, .func fd, sl⟩) (hb : fd.body = .stmts body) (hcl : fd.closure = []) (hcd : codeIn (KK c.w) fd.code fd.qualname = true)
    (hbind : ∀ vs kvs, Steps c n (bindArgs fd ⟨vs, kvs⟩) (fun F _ => Reps F ps vs ∧ KReps F kws kvs) (fun F _ b => b.map (·.1) = names ∧ Reps F pvs (b.map (·.2))))
    (hnd : names.Nodup) (hkind : ∀ L, ∀ x ∈ names, fd.scope.names.lookup x = some .local ∨ (fd.scope.names.lookup x = some .cell ∧ ((cellsFrom (L + 1) fd.scope.names []).lookup x).isSome = true))
    (hJ : ∀ s₀ F₀ L l, J c n ⟨s₀, F₀, callEnvC fd L f, (callEnvC fd L f).cells, [], some l⟩ ⟨names.zip pvs, none, []⟩ (execs body (callEnvC fd L f)) (RetP c p))
    (hco : fd.scope.isCoroutine = false := by rfl) (hgen : fd.scope.isGenerator = false := by rfl) (hk : fd.scope.kind = .function := by rfl) :
    CTw c (n + 1) (.ref f) ps kws p :=
  CTw_defZ (fun pvs' κ => pvs' = pvs ∧ κ = []) ho hb hcl hcd (fun vs kvs A r F s hB hS hP Q q => hbind vs kvs A r F s hB hS hP Q fun b F' h' tk kp e hr => q b F' h' tk kp e ⟨hr.1, pvs, [], ⟨rfl, rfl⟩, hr.2, fun _ h => nomatch h⟩) hnd hkind
    (fun pvs' κ z s₀ F₀ L l => by obtain ⟨rfl, rfl⟩ := z; exact hJ s₀ F₀ L l) hco hgen hk
section
variable {c : Cx} {n : Nat} {fr : Fc} {σ : AS}
/-- such a call, by its contract -/
theorem J_ctkW {m : Nat} {f : Value} {vs : List Value} {kvs : List (Str × Value)} {ps : List PV} {kws : List (Str × PV)} {p : PV} {Φ : Value → AS → Prop} (h : CTw c m f ps kws p) (hm : m ≤ n) (ha : HasAll c σ vs ps) (hk : kvs.map (·.1) = kws.map (·.1) ∧ HasAll c σ (kvs.map (·.2)) (kws.map (·.2))) (k : ∀ v, Φ v (σ.push v p)) (hs : ∃ l, fr.stk = some l := by exact ⟨_, rfl⟩) : J c n fr σ (call f vs kvs) Φ :=
  fun A r F s H Q q => by
    obtain ⟨l, hs⟩ := hs
    exact wpAny_call (codeAny_mono (h vs kvs A (fr.env :: l) (r.mono hm) (r.2 l hs) F s H.baseF H.sub (H.stkAt hs) (ha.reps H) ⟨hk.1, hk.2.reps H⟩ Q fun v F' h' tk kw e rv => q v (σ.push v p) F' h' tk (k v) ((H.stepW hs kw e).push rv)) fun r s' z => by
      rcases r with e | (v | _ | _ | _) <;> first | exact z | exact z.elim)
theorem J_ctW {m : Nat} {f : Value} {vs : List Value} {ps : List PV} {p : PV} {Φ : Value → AS → Prop} (h : CTw c m f ps [] p) (hm : m ≤ n) (ha : HasAll c σ vs ps) (k : ∀ v, Φ v (σ.push v p)) (hs : ∃ l, fr.stk = some l := by exact ⟨_, rfl⟩) : J c n fr σ (call f vs []) Φ :=
  J_ctkW h hm ha ⟨rfl, .nil⟩ k hs
theorem J_ctBoundW {m : Nat} {v : Value} {g self : Value} {sp : PV} {vs : List Value} {kvs : List (Str × Value)} {ps : List PV} {kws : List (Str × PV)} {p : PV} {Φ : Value → AS → Prop} (hv : Has c σ v (.raw (methodObj g self))) (h : CTw c m g (sp :: ps) kws p) (hm : m ≤ n) (hs : Has c σ self sp) (ha : HasAll c σ vs ps)
    (hk : kvs.map (·.1) = kws.map (·.1) ∧ HasAll c σ (kvs.map (·.2)) (kws.map (·.2))) (k : ∀ v, Φ v (σ.push v p)) (hst : ∃ l, fr.stk = some l := by exact ⟨_, rfl⟩) : J c n fr σ (call v vs kvs) Φ :=
  fun A r F s H Q q => by
    obtain ⟨l, hst⟩ := hst
    obtain ⟨b, rfl, hb⟩ := hv _ _ _ H
    refine wpAny_call (codeAny_mono (method_call (H.sub _ _ hb) (h (self :: vs) kvs A (fr.env :: l) (r.mono hm) (r.2 l hst) F s H.baseF H.sub (H.stkAt hst) (Reps.cons (hs _ _ _ H) (ha.reps H)) ⟨hk.1, hk.2.reps H⟩ Q fun v F' h' tk kp e rv => q v (σ.push v p) F' h' tk (k v) ((H.stepW hst kp e).push rv))) fun r s' z => ?_)
    rcases r with e | (v | _ | _ | _) <;> first | exact z | exact z.elim
end
end Mine
end

-- C10
section
open PySem PySem.W PyProof.Rows PySem.Calls
set_option maxRecDepth 100000
set_option maxHeartbeats 1000000
namespace Mine
section
variable {c : Cx} {n : Nat} {fr : Fc} {σ : AS}
theorem J_methKw {d : Addr} {es : List DictEntry} {k : Nat} {pl : Sem Bool} {Φ : Value × List Value → AS → Prop} (hd : Has c σ (.ref d) (.raw (dictOf es k))) (h : Φ (.builtin "dict.get", [.ref d]) σ) : J c n fr σ (getMethod (.ref d) "get" pl) Φ := fun A r F s H Q q => by
  obtain ⟨a, e, ha⟩ := hd _ _ _ H
  cases e
  exact getMethod_builtin ⟨_, H.sub _ _ ha, rfl⟩ PySem.F.plainAttrs_dict PySem.F.slot_dict_get PySem.F.type_dict_get (fun a e => by cases e; exact ⟨_, H.sub _ _ ha, rfl⟩) (q _ σ F s.heap s.toks h H)
end
theorem gather_len {l l' : List Ex} : ∀ {as : List Ex}, gather as l = some (.more l') → True := fun _ => trivial
theorem litF_false {n : Nat} {e : Ex} (h : litF n e = some false) : ∃ f, e = .f f := by
  cases n with
  | zero => cases e <;> cases h
  | succ n => cases e with
    | b u => cases h
    | f f => exact ⟨f, rfl⟩
/-- the way to a formula's to_nnf -/
structure NnfFn (K : Frag) (f : Fm) (fn : Addr) : Prop where
  find : findIn K (.ref (clsOf f)) "to_nnf" = some (some (.ref fn))
  typ : typeIn K (.ref fn) = some (.type "function")
  keep : keepIn K (.ref fn) = true
theorem shadow_nnf (f : Fm) (F : PM) (es : List DictEntry) (m : Nat) (h : esOf F f es) : shadowIn (some (dictOf es m)) "to_nnf" = some false := by
  cases f with
  | sym i => obtain ⟨h1, h2, t1, t2, t3, t4, rfl⟩ := h; kernel_rfl
  | node k as => obtain ⟨a, vs, nn, h1, h2, t1, t2, t3, rfl, ha, hr⟩ := h; kernel_rfl
def SubOk (c : Cx) (m : Nat) (simp : Bool) (sub : Ex → Option Ex) : Prop := ∀ f r, litF 5 (.f f) = some false → sub (.f f) = some r → ∃ fn, NnfFn (KK c.w) f fn ∧ CTw c m (.ref fn) [.fm f, .bool simp] [] r.pv
def NnfI (k : Kd) (simp : Bool) (l : List Ex) (σ : AS) : Prop := (∃ a : Addr, σ.own = some (("argset" : Str), a, l.map Ex.pv)) ∧ σ.ρ.lookup ("cls" : Str) = some (.val (.ref (kC k))) ∧ σ.ρ.lookup ("simplify" : Str) = some (.bool simp) ∧ l.length ≤ 1000
theorem ct_nnfC (c : Cx) {k : Kd} (hk : latK k) {m : Nat} (hm : 40 ≤ m) {sub : Ex → Option Ex} {simp : Bool} (hsub : SubOk c m simp sub) (args : List Ex) (r : Ex) (h : nnfC sub k simp args = some r) (hlen : args.length ≤ 1000) :
    CTw c (m + 2) (.ref 203) (.val (.ref (kC k)) :: args.map Ex.pv) [("simplify", .bool simp)] r.pv := by
  refine CTw_defZ (n := m + 1) (f := 203) (KwZ c (.ref (kC k)) (args.map Ex.pv) "simplify" (.bool simp)) (by rfl) rfl rfl (by rfl) (bindStarKw (fun v vs u => bindArgs_starKw (by rfl) (by rfl) v vs _ u (by decide)) (by rw [List.length_map, sizeLine_is]; omega)) (by decide) (kindsN (by rfl)) ?_
  rintro pvs κ ⟨d, tt, kk, hd, rfl, rfl⟩ s₀ F₀ L stk
  refine J_execs_cons <| J_Assign <| J_CallAttr <| J_name (p := .val (.ref d)) (by rfl) fun v1 => J_known (t := fun v => calleeOf _ _ _ v _) (Has.mem (.head _)) <| J_calleeFew fun pl => J_methKw (Has.mem (.tail _ (.head _))) <| J_callImm <| J_evalArgs <| J_spliced <| J_str fun t1 => J_spliced <| J_bool <| J_spliced_nil <| J_kwGet (Has.mem (.tail _ (.head _))) hd Has.str <| J_store (p := .bool simp) Has.bool (by rfl) (by rfl) ?_
  refine J_execs_cons (J_assignOwn (J_spliced_nil ⟨by rfl, [], .nil, Nat.zero_le _, fun l => ?_⟩) (by rfl))
  unfold nnfC at h
  rw [if_pos hlen] at h
  obtain ⟨st, hst, h⟩ := Option.bind_eq_some_iff.mp h
  refine J_execs_cons (J_mono (Φ := fun fl σ => match st with | .zero => ∃ v, fl = .ret v ∧ Has c σ v (.bool (zeroOf k)) | .more l => fl = .next ∧ NnfI k simp l σ) ?_ fun fl σ z => ?_)
  · refine J_for (J_name (p := .tup (args.map Ex.pv)) (by rfl) fun v2 => ⟨_, iterOf_tup (Has.mem (.head _)), ?_⟩)
    refine ForJ_ind (fun ps σ => ∃ rest l, ps = rest.map Ex.pv ∧ NnfI k simp l σ ∧ nnfArgs sub k simp rest l = some st) ?_ ?_ _ _ ⟨args, [], rfl, ⟨⟨l, by rfl⟩, by rfl, by rfl, Nat.zero_le _⟩, hst⟩
    · rintro σ ⟨rest, l, e1, hI, e2⟩
      cases rest with
      | nil => cases e2; exact J_execs_nil ⟨rfl, hI⟩
      | cons _ _ => cases e1
    · rintro p ps σ ⟨rest, l, e1, ⟨⟨a₀, hown⟩, hcls, hsimp, hl⟩, e2⟩ v F₁ pin
      cases rest with
      | nil => cases e1
      | cons a rest =>
        cases e1
        obtain ⟨lit, hlit, e2⟩ := Option.bind_eq_some_iff.mp e2
        obtain ⟨a', ha', e2⟩ := Option.bind_eq_some_iff.mp e2
        refine J_assignName (J_store (Has.mem (.head _)) (by rfl) (by rw [hown]; rfl) ?_)
        refine J_execs_cons (J_mono (Φ := fun fl σ => fl = .next ∧ NnfI k simp l σ ∧ σ.ρ.lookup ("arg" : Str) = some a'.pv) ?_ fun fl σ z => ?_)
        · refine J_if <| J_not <| J_isTrue <| J_CallName <| J_G (v := .ref 614) (by kernel_rfl) (by rfl) <| J_callBase (by kernel_rfl) <| J_evalArgs <| J_spliced <| J_name (p := a.pv) (by rfl) fun v3 => J_spliced_nil <| J_ct (ct_lit c 5 a lit hlit) (by omega) (.cons (Has.mem (.head _)) .nil) fun v4 => J_known (w := .bool lit) (Has.bv (Has.mem (.head _))) <| J_truthyB ?_
          cases lit with
          | true =>
            cases ha'
            exact J_execs_nil ⟨rfl, ⟨⟨a₀, hown⟩, hcls, hsimp, hl⟩, by rfl⟩
          | false =>
            obtain ⟨f, rfl⟩ := litF_false hlit
            obtain ⟨fn, hfn, hct⟩ := hsub f a' hlit ha'
            refine J_execs_cons <| J_Assign <| J_CallAttr <| J_name (p := .fm f) (by rfl) fun v5 => J_calleeFew fun pl => J_methF (Has.mem (.head _)) hfn.find hfn.typ (shadow_nnf f) <| J_callBase hfn.keep <| J_evalArgs <| J_spliced <| J_name (p := .bool simp) hsimp fun v6 => J_spliced_nil <| J_ctW hct (by omega) (.cons (Has.mem (.tail _ (.head _))) (.cons (Has.mem (.head _)) .nil)) fun v7 => J_store (Has.mem (.head _)) (by rfl) (by rw [hown]; rfl) ?_
            exact J_execs_nil ⟨rfl, ⟨⟨a₀, hown⟩, hcls, hsimp, hl⟩, by rfl⟩
        · obtain ⟨rfl, ⟨⟨a₁, hown⟩, hcls, hsimp, _⟩, harg⟩ := z
          refine J_execs_cons <| J_if <| J_isTrue <| J_name (p := .bool simp) hsimp fun v8 => J_known (w := .bool simp) (Has.bv (Has.mem (.head _))) <| J_truthyB ?_
          cases simp with
          | false =>
            have e3 : (if l.length < 1000 then nnfArgs sub k false rest (l ++ [a']) else none) = some st := e2
            split at e3
            case isFalse => cases e3
            rename_i hl2
            refine J_execs_cons <| J_Expr <| J_CallAttr <| J_nameOwn hown <| J_calleeFew fun pl => J_methOwn hown PySem.F.slot_list_append PySem.F.type_list_append <| J_callImm <| J_evalArgs <| J_spliced <| J_name (p := a'.pv) harg fun w3 => J_spliced_nil <| J_append hown (Has.mem (.head _)) (by rw [List.length_map, sizeLine_is]; omega) ⟨none_noRef, ?_⟩
            exact J_execs_nil <| J_execs_nil ⟨rest, l ++ [a'], rfl, ⟨⟨a₁, by simp⟩, hcls, hsimp, by rw [List.length_append, List.length_singleton]; omega⟩, e3⟩
          | true =>
            have e3 : ((gather (parts k a') l).bind fun | .zero => some .zero | .more l => nnfArgs sub k true rest l) = some st := e2
            obtain ⟨g, hg, e3⟩ := Option.bind_eq_some_iff.mp e3
            refine J_execs_cons (J_mono (Φ := fun fl σ => fl = .next ∧ NnfI k true l σ ∧ σ.ρ.lookup ("arg" : Str) = some (.tup ((parts k a').map Ex.pv))) ?_ fun fl σ z => ?_)
            · refine J_if <| J_isTrue <| J_CallName <| J_Bt (v := .builtin "isinstance") (by kernel_rfl) (by rfl) (by decide) (by rfl) <| J_callImm <| J_evalArgs <| J_spliced <| J_name (p := a'.pv) harg fun w1 => J_spliced <| J_name hcls fun w2 => J_spliced_nil <| J_known (t := fun w => call (.builtin "isinstance") [w1, w]) (Has.mem (.head _)) <| J_isiE (Has.mem (.tail _ (.head _))) (isi_kd c.w k a') <| J_truthyB ?_
              rcases parts_kind k a' with ⟨e5, as, rfl, e6⟩ | ⟨e5, e6⟩
              · rw [e5, e6, fms_map]
                exact J_execs_cons <| J_Assign <| J_Attribute <| J_name (p := .fm (.node k as)) harg fun w3 => J_args (Has.mem (.head _)) fun w4 => J_store (Has.mem (.head _)) (by rfl) (by rw [hown]; rfl) <| J_execs_nil ⟨rfl, ⟨⟨a₁, hown⟩, hcls, hsimp, hl⟩, by rfl⟩
              · rw [e5, e6]
                exact J_execs_cons <| J_Assign <| J_Tuple <| J_spliced <| J_name (p := a'.pv) harg fun w3 => J_spliced_nil <| J_newTuple (ps := [a'.pv]) (.cons (Has.mem (.head _)) .nil) (show 1 ≤ 16777216 by decide) fun w4 => J_store (Has.mem (.head _)) (by rfl) (by rw [hown]; rfl) <| J_execs_nil ⟨rfl, ⟨⟨a₁, hown⟩, hcls, hsimp, hl⟩, by rfl⟩
            · obtain ⟨rfl, ⟨⟨a₂, hown⟩, hcls, hsimp, _⟩, harg⟩ := z
              refine J_execs_cons (J_mono (Φ := fun fl σ => match g with | .zero => ∃ v, fl = .ret v ∧ Has c σ v (.bool (zeroOf k)) | .more l => fl = .next ∧ NnfI k true l σ) ?_ fun fl σ z => ?_)
              · refine J_for (J_name harg fun w5 => ⟨_, iterOf_tup (Has.mem (.head _)), ?_⟩)
                refine ForJ_ind (fun ps σ => ∃ ones l, ps = ones.map Ex.pv ∧ NnfI k true l σ ∧ gather ones l = some g) ?_ ?_ _ _ ⟨parts k a', l, rfl, ⟨⟨a₂, hown⟩, hcls, hsimp, hl⟩, hg⟩
                · rintro σ₂ ⟨ones, l₂, f1, hI, f2⟩
                  cases ones with
                  | nil => cases f2; exact J_execs_nil ⟨rfl, hI⟩
                  | cons _ _ => cases f1
                · rintro p₂ ps₂ σ₂ ⟨ones, l₂, f1, ⟨⟨a₃, hown⟩, hcls, hsimp, hl₂⟩, f2⟩ u F₂ pin₂
                  cases ones with
                  | nil => cases f1
                  | cons one ones =>
                    cases f1
                    obtain ⟨o, ho, f2⟩ := Option.bind_eq_some_iff.mp f2
                    refine J_assignName (J_store (Has.mem (.head _)) (by rfl) (by rw [hown]; rfl) ?_)
                    refine J_execs_cons <| J_Assign <| J_CallName <| J_G (v := .ref 385) (by kernel_rfl) (by rfl) <| J_callBase (by kernel_rfl) <| J_evalArgs <| J_spliced <| J_name (p := one.pv) (by rfl) fun w6 => J_spliced_nil <| J_ct (ct_Not c ho) (by omega) (.cons (Has.mem (.head _)) .nil) fun w7 => J_store (Has.mem (.head _)) (by rfl) (by rw [hown]; rfl) ?_
                    refine J_execs_cons <| J_if <| J_isTrueIn (neg := false) <| J_name (p := o.pv) (by rfl) fun w8 => J_nameOwn hown <| J_inOwn (x := o) (by omega) hown (Has.mem (.head _)) ?_
                    cases hin : inE o l₂ with
                    | true =>
                      rw [hin] at f2
                      cases f2
                      exact J_execs_cons <| J_return <| J_Attribute <| J_name hcls fun w9 => J_known (t := fun v => getAttr v _ _) (Has.mem (.head _)) <| J_clsVal (readsK c.w k) (zeroC c.w hk) rfl ⟨_, rfl, Has.bool⟩
                    | false =>
                      rw [hin] at f2
                      have f3 : (if l₂.length < 1000 then gather ones (l₂ ++ [one]) else none) = some g := f2
                      split at f3
                      case isFalse => cases f3
                      rename_i hl3
                      refine J_execs_nil <| J_execs_cons <| J_Expr <| J_CallAttr <| J_nameOwn hown <| J_calleeFew fun pl => J_methOwn hown PySem.F.slot_list_append PySem.F.type_list_append <| J_callImm <| J_evalArgs <| J_spliced <| J_name (p := one.pv) (by rfl) fun w9 => J_spliced_nil <| J_append hown (Has.mem (.head _)) (by rw [List.length_map, sizeLine_is]; omega) ⟨none_noRef, ?_⟩
                      exact J_execs_nil ⟨ones, l₂ ++ [one], rfl, ⟨⟨a₃, by simp⟩, hcls, hsimp, by rw [List.length_append, List.length_singleton]; omega⟩, f3⟩
              · cases g with
                | zero =>
                  cases e3
                  obtain ⟨v, rfl, hv⟩ := z
                  exact ⟨v, rfl, hv⟩
                | more l₂ =>
                  obtain ⟨rfl, hI⟩ := z
                  exact J_execs_nil <| J_execs_nil ⟨rest, l₂, rfl, hI, e3⟩
  · cases st with
    | zero =>
      cases h
      obtain ⟨v, rfl, hv⟩ := z
      exact hv
    | more l =>
      have h' : latE k l = some r := h
      obtain ⟨rfl, ⟨a, hown⟩, hcls, hsimp, hl⟩ := z
      refine J_freeze hown <| J_execs_cons <| J_return <| J_CallName <| J_name (p := .val (.ref (kC k))) hcls fun w1 => J_known (t := fun f => callWith _ f [] _ _) (Has.mem (.head _)) <| J_callBase (by rcases hk with rfl | rfl <;> kernel_rfl) <| J_evalStar <| J_name (p := .lst (l.map Ex.pv)) (by rfl) fun w2 => J_evalAll_nil <| notIter_lst (Has.mem (.head _)) ⟨rfl, J_collectL (Has.mem (.head _)) (by rw [List.length_map, sizeLine_is]; omega) fun vs hvs => ?_⟩
      exact J_ct (ct_lat c hk l r h' hl) (by omega) (hasAll_pushAll _ hvs) fun w3 => Has.mem (.head _)
end Mine
end

-- C11
section
open PySem PySem.W PyProof.Rows PySem.Calls
set_option maxRecDepth 100000
set_option maxHeartbeats 1000000
namespace Mine
theorem nnfRec (w : World) : recIn (KK w) 205 "classmethod" = some [.ref 203, .bool false] := by kernel_rfl
theorem nnfFnIn (w : World) : fnIn (KK w) 203 = true := by kernel_rfl
theorem nnfI (w : World) {k : Kd} (hk : latK k) (as : List Fm) (F : PM) (es : List DictEntry) (m : Nat) (h : esOf F (.node k as) es) : findObj (KK w) (clsOf (.node k as)) (some (dictOf es m)) "_to_nnf" = some (.bind (.builtin "classmethod.__get__") (.ref 205)) := by
  obtain ⟨a, vs, nn, h1, h2, t1, t2, t3, rfl, ha, hr⟩ := h
  rcases hk with rfl | rfl <;> kernel_rfl
theorem nnfC_find (w : World) (k : Kd) : findCls (KK w) (.ref (kC k)) (.type "type") "_to_nnf" = some (.get (.builtin "classmethod.__get__") (.ref 205) .none (.ref (kC k))) := by cases k <;> kernel_rfl
/-- BooleanFunction.to_nnf of an And or an Or -/
theorem ct_bfNnf (c : Cx) {k : Kd} (hk : latK k) {m : Nat} (hm : 40 ≤ m) {sub : Ex → Option Ex} {simp : Bool} (hsub : SubOk c m simp sub) (as : List Fm) (r : Ex) (h : nnfC sub k simp (as.map .f) = some r) (hlen : as.length ≤ 1000) :
    CTw c (m + 5) (.ref 188) [.fm (.node k as), .bool simp] [] r.pv := by
  refine CTw_def (n := m + 4) (f := 188) (by rfl) rfl rfl (by rfl) (bind2e (by rfl) (by rfl) (by rfl) (fun a b => by rfl) (fun a b => by rfl)) (by decide) (kindsN (by rfl)) ?_
  intro s₀ F₀ L stk
  refine J_execs_cons <| J_return <| J_CallAttr <| J_name (p := .fm (.node k as)) (by rfl) fun v1 => J_calleeStar <| J_cmI (Has.mem (.head _)) (nnfI c.w hk as) (nnfRec c.w) fun v2 => ?_
  refine J_callBound (Has.mem (.head _)) (nnfFnIn c.w) <| J_evalStar <| J_Attribute <| J_name (p := .fm (.node k as)) (by rfl) fun v3 => J_args (Has.mem (.head _)) fun v4 => J_evalAll <| J_name (p := .bool simp) (by rfl) fun v5 => J_evalAll_nil <| notIter_tup (Has.mem (.tail _ (.head _))) ⟨rfl, J_collectT (Has.mem (.tail _ (.head _))) (by rw [List.length_map, sizeLine_is]; omega) fun vs hvs => ⟨Has.mem (by simp), ?_⟩⟩
  exact J_ctBoundW (Has.mem (by simp [clsOf])) (ct_nnfC c hk hm hsub (as.map .f) r h (by rw [List.length_map]; exact hlen)) (by omega) Has.val (by rw [fms_map]; exact hasAll_pushAll _ hvs) ⟨rfl, .cons (Has.mem (by simp)) .nil⟩ fun v6 => Has.mem (.head _)
/-- Implies.to_nnf -/
theorem ct_impNnf (c : Cx) {m : Nat} (hm : 40 ≤ m) {sub : Ex → Option Ex} {simp : Bool} (hsub : SubOk c m simp sub) (a b : Fm) (na r : Ex) (hna : notE (.f a) = some na) (h : nnfC sub .or simp [na, .f b] = some r) :
    CTw c (m + 5) (.ref 437) [.fm (.node .imp [a, b]), .bool simp] [] r.pv := by
  refine CTw_def (n := m + 4) (f := 437) (by rfl) rfl rfl (by rfl) (bind2e (by rfl) (by rfl) (by rfl) (fun a b => by rfl) (fun a b => by rfl)) (by decide) (kindsN (by rfl)) ?_
  intro s₀ F₀ L stk
  refine J_execs_cons <| J_AssignTuple <| J_Attribute <| J_name (p := .fm (.node .imp [a, b])) (by rfl) fun v1 => J_args (Has.mem (.head _)) fun v2 => J_unpack (xs := [.fm a, .fm b]) (Has.mem (.head _)) (by rfl) (by rfl) fun vs hvs => ?_
  match vs, hvs with
  | [x, y], _ =>
    refine J_inOrder <| J_assignName <| J_store (p := .fm a) (Has.mem (by simp)) (by rfl) (by rfl) <| J_inOrder <| J_assignName <| J_store (p := .fm b) (Has.mem (by simp)) (by rfl) (by rfl) <| J_inOrder_nil ?_
    refine J_execs_cons <| J_return <| J_CallAttr <| J_G (v := .ref (kC .or)) (by kernel_rfl) (by rfl) <| J_calleeFew fun pl => J_methC (getK c.w .or) <| J_cm (readsK c.w .or) (nnfC_find c.w .or) (nnfRec c.w) fun v3 => ?_
    refine J_callBound (Has.mem (.head _)) (nnfFnIn c.w) <| J_evalKw <| J_spliced <| J_CallName <| J_G (v := .ref 385) (by kernel_rfl) (by rfl) <| J_callBase (by kernel_rfl) <| J_evalArgs <| J_spliced <| J_name (p := .fm a) (by rfl) fun v4 => J_spliced_nil <| J_ct (ct_Not c hna) (by omega) (.cons (Has.mem (.head _)) .nil) fun v5 => J_spliced <| J_name (p := .fm b) (by rfl) fun v6 => J_spliced_nil <| J_evalAll <| J_name (p := .bool simp) (by rfl) fun v7 => J_evalAll_nil ⟨Has.mem (by simp), ?_⟩
    exact J_ctBoundW (Has.mem (by simp)) (ct_nnfC c (.inr rfl) hm hsub [na, .f b] r h (by decide : 2 ≤ 1000)) (by omega) Has.val (.cons (Has.mem (by simp)) (.cons (Has.mem (by simp [Ex.pv])) .nil)) ⟨rfl, .cons (Has.mem (by simp)) .nil⟩ fun v8 => Has.mem (.head _)
end Mine
end

-- C12
section
open PySem PySem.W PyProof.Rows PySem.Calls
set_option maxRecDepth 100000
set_option maxHeartbeats 1000000
namespace Mine
def kindS : Ex → Str
  | .f (.node k _) => label k
  | _ => ""
theorem isi_fun (w : World) (e : Ex) : kitOne (KK w) (tyOf e) (.ref 219) = some (isFun e) := by
  cases e with
  | b u => kernel_rfl
  | f f => cases f with
    | sym i => kernel_rfl
    | node k as => cases k <;> kernel_rfl
theorem kindS_eq (e : Ex) (k : Kd) : ((kindS e).cps.toList == (label k).cps.toList) = kindIs k e := by
  cases e with
  | b u => cases k <;> rfl
  | f f => cases f with
    | sym i => cases k <;> rfl
    | node l as => cases k <;> cases l <;> rfl
theorem ct_kind (c : Cx) (e : Ex) : CT c 5 (.ref 535) [e.pv] [] (.str (kindS e)) := by
  refine CT_def (n := 4) (f := 535) (by rfl) rfl rfl (by rfl) (bind1 (fun a => by rfl)) (by decide) (kindsN (by rfl)) ?_
  intro s₀ F₀ L
  refine J_execs_cons <| J_return <| J_ifexp <| J_isTrue <| J_CallName <| J_Bt (v := .builtin "isinstance") (by kernel_rfl) (by rfl) (by decide) (by rfl) <| J_callImm <| J_evalArgs <| J_spliced <| J_name (p := e.pv) (by rfl) fun v1 => J_spliced <| J_G (v := .ref 219) (by kernel_rfl) (by rfl) <| J_spliced_nil <| J_isiE (Has.mem (.head _)) (isi_fun c.w e) <| J_truthyB ?_
  cases e with
  | b u => exact J_str fun t => Has.str
  | f f => cases f with
    | sym i => exact J_str fun t => Has.str
    | node k as => exact J_Attribute <| J_name (p := .fm (.node k as)) (by rfl) fun v2 => J_label (Has.mem (.head _)) fun v3 => Has.mem (.head _)
/-- the kind, asked -/
theorem ct_built (c : Cx) {k : Kd} (hk : latK k) (kind : Str) (hkind : kind = label k) (args : List Ex) (r : Ex) (h : latE k args = some r) (hlen : args.length ≤ 1000) : CT c 36 (.ref 542) [.str kind, .lst (args.map Ex.pv)] [] r.pv := by
  refine CT_def (n := 35) (f := 542) (by rfl) rfl rfl (by rfl) (bind2 (fun a b => by rfl)) (by decide) (kindsN (by rfl)) ?_
  intro s₀ F₀ L
  refine J_execs_cons <| J_if <| J_isTrueCmp <| J_name (p := .str kind) (by rfl) fun v1 => J_str fun t => J_eqStr (Has.mem (.head _)) Has.str <| J_truthyB ?_
  subst hkind
  rcases hk with rfl | rfl
  · refine J_execs_cons <| J_return <| J_CallName <| J_G (v := .ref (kC .and)) (by kernel_rfl) (by rfl) <| J_callBase (by kernel_rfl) <| J_evalStar <| J_name (p := .lst (args.map Ex.pv)) (by rfl) fun v2 => J_evalAll_nil <| notIter_lst (Has.mem (.head _)) ⟨rfl, J_collectL (Has.mem (.head _)) (by rw [List.length_map, sizeLine_is]; omega) fun vs hvs => ?_⟩
    exact J_ct (ct_lat c (.inl rfl) args r h hlen) (by omega) (hasAll_pushAll _ hvs) fun v3 => Has.mem (.head _)
  · refine J_execs_nil <| J_execs_cons <| J_if <| J_isTrueCmp <| J_name (p := .str (label .or)) (by rfl) fun v1 => J_str fun t => J_eqStr (Has.mem (.head _)) Has.str <| J_truthyB ?_
    refine J_execs_cons <| J_return <| J_CallName <| J_G (v := .ref (kC .or)) (by kernel_rfl) (by rfl) <| J_callBase (by kernel_rfl) <| J_evalStar <| J_name (p := .lst (args.map Ex.pv)) (by rfl) fun v2 => J_evalAll_nil <| notIter_lst (Has.mem (.head _)) ⟨rfl, J_collectL (Has.mem (.head _)) (by rw [List.length_map, sizeLine_is]; omega) fun vs hvs => ?_⟩
    exact J_ct (ct_lat c (.inr rfl) args r h hlen) (by omega) (hasAll_pushAll _ hvs) fun v3 => Has.mem (.head _)
end Mine
end

-- C13
section
open PySem PySem.W PyProof.Rows PySem.Calls
set_option maxRecDepth 100000
set_option maxHeartbeats 1000000
namespace Mine
theorem bind3 {c : Cx} {n : Nat} {fd : FuncData} {p q u : PV} {x y z : Str} (h : ∀ a b d, bindArgs fd ⟨[a, b, d], []⟩ = pure [(x, a), (y, b), (z, d)]) : BindSpec c n fd [p, q, u] [] [x, y, z] [p, q, u] := fun vs kvs A r F s hB hS hP Q qq => by
  obtain ⟨a, b, d, rfl, _⟩ := hP.1.three
  obtain rfl := hP.2.nilEq
  rw [h]
  exact wpAny_pure (qq _ F s.heap s.toks (Kp.refl _) (Ext.refl hS) ⟨rfl, hP.1⟩)
theorem kind_parts {k : Kd} {e : Ex} (h : kindIs k e = true) : ∃ as, e = .f (.node k as) ∧ parts k e = as.map Ex.f := by
  rcases parts_kind k e with ⟨_, x⟩ | ⟨x, _⟩
  · exact x
  · rw [h] at x; cases x
theorem kind_parts' {k : Kd} {e : Ex} (h : kindIs k e = false) : parts k e = [e] := by
  rcases parts_kind k e with ⟨x, _⟩ | ⟨_, x⟩
  · rw [h] at x; cases x
  · exact x
def FormI (k2 : Kd) (σ : AS) : Prop := σ.ρ.lookup ("function2" : Str) = some (.str (label k2)) ∧ σ.own = none
theorem ct_isForm (c : Cx) (k1 k2 : Kd) (e : Ex) (r : Bool) (h : isForm k1 k2 e = some r) : CT c 22 (.ref 600) [e.pv, .str (label k1), .str (label k2)] [] (.bool r) := by
  refine CT_def (n := 21) (f := 600) (by rfl) rfl rfl (by rfl) (bind3 (fun a b d => by rfl)) (by decide) (kindsN (by rfl)) ?_
  intro s₀ F₀ L
  refine J_execs_cons <| J_Assign <| J_CallName <| J_G (v := .ref 32) (by kernel_rfl) (by rfl) <| J_callBase (by kernel_rfl) <| J_evalArgs <| J_spliced <| J_name (p := e.pv) (by rfl) fun v1 => J_spliced_nil <| J_ct (ct_sympify c e.pv) (by omega) (.cons (Has.mem (.head _)) .nil) fun v2 => J_store (p := e.pv) (Has.mem (.head _)) (by rfl) (by rfl) ?_
  refine J_execs_cons (J_mono (Φ := fun fl σ => fl = .next ∧ FormI k2 σ ∧ (σ.ρ.lookup ("vals" : Str) = some (.tup ((parts k1 e).map Ex.pv)) ∨ σ.ρ.lookup ("vals" : Str) = some (.lst ((parts k1 e).map Ex.pv)))) ?_ fun fl σ z => ?_)
  · refine J_Assign <| J_ifexp <| J_isTrueCmp <| J_CallName <| J_G (v := .ref 535) (by kernel_rfl) (by rfl) <| J_callBase (by kernel_rfl) <| J_evalArgs <| J_spliced <| J_name (p := e.pv) (by rfl) fun v1 => J_spliced_nil <| J_ct (ct_kind c e) (by omega) (.cons (Has.mem (.head _)) .nil) fun v2 => J_name (p := .str (label k1)) (by rfl) fun v3 => J_eqStr (Has.mem (.tail _ (.head _))) (Has.mem (.head _)) <| J_truthyB ?_
    rw [kindS_eq]
    cases hk : kindIs k1 e with
    | true =>
      obtain ⟨as, rfl, e6⟩ := kind_parts hk
      refine J_Attribute <| J_name (p := .fm (.node k1 as)) (by rfl) fun v4 => J_args (Has.mem (.head _)) fun v5 => J_store (Has.mem (.head _)) (by rfl) (by rfl) ⟨rfl, ⟨by rfl, by rfl⟩, .inl ?_⟩
      rw [e6, fms_map]; rfl
    | false =>
      refine J_List <| J_spliced <| J_name (p := e.pv) (by rfl) fun v4 => J_spliced_nil <| J_newList (ps := [e.pv]) (.cons (Has.mem (.head _)) .nil) (show 1 ≤ 16777216 by decide) fun v5 => J_store (Has.mem (.head _)) (by rfl) (by rfl) ⟨rfl, ⟨by rfl, by rfl⟩, .inr ?_⟩
      rw [kind_parts' hk]; rfl
  · obtain ⟨rfl, hI, hv⟩ := z
    refine J_execs_cons (J_mono (Φ := fun fl σ => if r then fl = .next else ∃ v, fl = .ret v ∧ Has c σ v (.bool false)) ?_ fun fl σ z => ?_)
    · have fj : ∀ (ps : List PV) (σ' : AS) (hP : ps = (parts k1 e).map Ex.pv ∧ FormI k2 σ'), ∃ rest : List Ex, ps = rest.map Ex.pv ∧ FormI k2 σ' ∧ formGo k2 rest = some r := fun ps σ' hP => ⟨parts k1 e, hP.1, hP.2, h⟩
      refine J_for (J_mono (Φ := fun x σ' => IterOf c 21 _ σ' x ((parts k1 e).map Ex.pv) ∧ FormI k2 σ') ?_ fun x σ' z => ⟨_, z.1, ForJ_ind (fun ps σ => ∃ rest : List Ex, ps = rest.map Ex.pv ∧ FormI k2 σ ∧ formGo k2 rest = some r) ?_ ?_ _ _ (fj _ _ ⟨rfl, z.2⟩)⟩)
      · rcases hv with hv | hv
        · exact J_name hv fun v4 => ⟨iterOf_tup (Has.mem (.head _)), hI⟩
        · exact J_name hv fun v4 => ⟨iterOf_lst (Has.mem (.head _)), hI⟩
      · rintro σ₂ ⟨rest, f1, hI, f2⟩
        cases rest with
        | nil => cases f2; exact J_execs_nil rfl
        | cons _ _ => cases f1
      · rintro p ps σ₂ ⟨rest, f1, hI, f2⟩ v F₁ pin
        cases rest with
        | nil => cases f1
        | cons a rest =>
          cases f1
          obtain ⟨ok, hok, f2⟩ := Option.bind_eq_some_iff.mp f2
          obtain ⟨hf2, hown⟩ := hI
          refine J_assignName (J_store (Has.mem (.head _)) (by rfl) (by rw [hown]; rfl) ?_)
          refine J_execs_cons (J_mono (Φ := fun fl σ => if ok then fl = .next ∧ FormI k2 σ else ∃ v, fl = .ret v ∧ Has c σ v (.bool false)) ?_ fun fl σ z => ?_)
          · refine J_if <| J_isTrueCmp <| J_CallName <| J_G (v := .ref 535) (by kernel_rfl) (by rfl) <| J_callBase (by kernel_rfl) <| J_evalArgs <| J_spliced <| J_name (p := a.pv) (by rfl) fun v1 => J_spliced_nil <| J_ct (ct_kind c a) (by omega) (.cons (Has.mem (.head _)) .nil) fun v2 => J_name (p := .str (label k2)) hf2 fun v3 => J_eqStr (Has.mem (.tail _ (.head _))) (Has.mem (.head _)) <| J_truthyB ?_
            rw [kindS_eq]
            cases hk : kindIs k2 a with
            | true =>
              rw [hk] at hok
              obtain ⟨as, rfl, e6⟩ := kind_parts hk
              refine J_execs_cons <| J_Assign <| J_Attribute <| J_name (p := .fm (.node k2 as)) (by rfl) fun v4 => J_args (Has.mem (.head _)) fun v5 => J_store (Has.mem (.head _)) (by rfl) (by rw [hown]; rfl) ?_
              refine J_execs_cons (J_mono (Φ := fun fl σ => if ok then fl = .next ∧ FormI k2 σ else ∃ v, fl = .ret v ∧ Has c σ v (.bool false)) ?_ fun fl σ z => ?_)
              · refine J_for (J_name (p := .tup (as.map .fm)) (by rfl) fun v6 => ⟨_, iterOf_tup (Has.mem (.head _)), ForJ_ind (fun ps σ => ∃ rest : List Ex, ps = rest.map Ex.pv ∧ FormI k2 σ ∧ allLit rest = some ok) ?_ ?_ _ _ ⟨as.map Ex.f, (fms_map as).symm, ⟨hf2, hown⟩, by rw [← e6]; exact hok⟩⟩)
                · rintro σ₃ ⟨rest, f1, hI, f2⟩
                  cases rest with
                  | nil => cases f2; exact J_execs_nil ⟨rfl, hI⟩
                  | cons _ _ => cases f1
                · rintro p₃ ps₃ σ₃ ⟨rest, f1, ⟨hf3, hown3⟩, f3⟩ w F₃ pin₃
                  cases rest with
                  | nil => cases f1
                  | cons b rest =>
                    cases f1
                    obtain ⟨lit, hlit, f3⟩ := Option.bind_eq_some_iff.mp f3
                    refine J_assignName (J_store (Has.mem (.head _)) (by rfl) (by rw [hown3]; rfl) ?_)
                    refine J_execs_cons <| J_if <| J_isTrueCmp <| J_CallName <| J_G (v := .ref 614) (by kernel_rfl) (by rfl) <| J_callBase (by kernel_rfl) <| J_evalArgs <| J_spliced <| J_name (p := b.pv) (by rfl) fun w1 => J_spliced_nil <| J_ct (ct_lit c 5 b lit hlit) (by omega) (.cons (Has.mem (.head _)) .nil) fun w2 => J_bool <| J_known (t := fun v => compareOp .Is v _) (w := .bool lit) (Has.bv (Has.mem (.head _))) <| J_isB (neg := false) <| J_isBool <| J_truthyB ?_
                    cases lit with
                    | true => exact J_execs_nil <| J_execs_nil ⟨rest, rfl, ⟨hf3, hown3⟩, f3⟩
                    | false =>
                      cases f3
                      exact J_execs_cons <| J_return <| J_bool ⟨_, rfl, Has.bool⟩
              · cases ok with
                | true => obtain ⟨rfl, hI⟩ := z; exact J_execs_nil ⟨rfl, hI⟩
                | false => obtain ⟨v, rfl, hv⟩ := z; exact ⟨v, rfl, hv⟩
            | false =>
              rw [hk] at hok
              refine J_execs_cons <| J_if <| J_isTrueCmp <| J_CallName <| J_G (v := .ref 614) (by kernel_rfl) (by rfl) <| J_callBase (by kernel_rfl) <| J_evalArgs <| J_spliced <| J_name (p := a.pv) (by rfl) fun w1 => J_spliced_nil <| J_ct (ct_lit c 5 a ok hok) (by omega) (.cons (Has.mem (.head _)) .nil) fun w2 => J_bool <| J_known (t := fun v => compareOp .Is v _) (w := .bool ok) (Has.bv (Has.mem (.head _))) <| J_isB (neg := false) <| J_isBool <| J_truthyB ?_
              cases ok with
              | true => exact J_execs_nil <| J_execs_nil ⟨rfl, hf2, hown⟩
              | false => exact J_execs_cons <| J_return <| J_bool ⟨_, rfl, Has.bool⟩
          · cases ok with
            | true => obtain ⟨rfl, hI⟩ := z; exact J_execs_nil ⟨rest, rfl, hI, f2⟩
            | false =>
              cases f2
              obtain ⟨v, rfl, hv⟩ := z
              exact ⟨v, rfl, hv⟩
    · cases r with
      | true =>
        obtain rfl := z
        exact J_execs_cons <| J_return <| J_bool Has.bool
      | false =>
        obtain ⟨v, rfl, hv⟩ := z
        exact hv
theorem ct_isCnf (c : Cx) (e : Ex) (r : Bool) (h : isForm .and .or e = some r) : CT c 24 (.ref 586) [e.pv] [] (.bool r) := by
  refine CT_def (n := 23) (f := 586) (by rfl) rfl rfl (by rfl) (bind1 (fun a => by rfl)) (by decide) (kindsN (by rfl)) ?_
  intro s₀ F₀ L
  exact J_execs_cons <| J_return <| J_CallName <| J_G (v := .ref 600) (by kernel_rfl) (by rfl) <| J_callBase (by kernel_rfl) <| J_evalArgs <| J_spliced <| J_name (p := e.pv) (by rfl) fun v1 => J_spliced <| J_str fun t1 => J_spliced <| J_str fun t2 => J_spliced_nil <| J_ct (ct_isForm c .and .or e r h) (by omega) (.cons (Has.mem (.head _)) (.cons Has.str (.cons Has.str .nil))) fun v2 => Has.mem (.head _)
theorem ct_isDnf (c : Cx) (e : Ex) (r : Bool) (h : isForm .or .and e = some r) : CT c 24 (.ref 593) [e.pv] [] (.bool r) := by
  refine CT_def (n := 23) (f := 593) (by rfl) rfl rfl (by rfl) (bind1 (fun a => by rfl)) (by decide) (kindsN (by rfl)) ?_
  intro s₀ F₀ L
  exact J_execs_cons <| J_return <| J_CallName <| J_G (v := .ref 600) (by kernel_rfl) (by rfl) <| J_callBase (by kernel_rfl) <| J_evalArgs <| J_spliced <| J_name (p := e.pv) (by rfl) fun v1 => J_spliced <| J_str fun t1 => J_spliced <| J_str fun t2 => J_spliced_nil <| J_ct (ct_isForm c .or .and e r h) (by omega) (.cons (Has.mem (.head _)) (.cons Has.str (.cons Has.str .nil))) fun v2 => Has.mem (.head _)
end Mine
end

-- C14
section
open PySem PySem.W PyProof.Rows PySem.Calls
set_option maxRecDepth 100000
set_option maxHeartbeats 1000000
namespace Mine
def NnI (simp : Bool) (stack : List Ex) (σ : AS) : Prop := (∃ a : Addr, σ.own = some (("stack" : Str), a, stack.reverse.map Ex.pv)) ∧ σ.ρ.lookup ("simplified" : Str) = some (.bool simp)
def latB : Ex → Bool
  | .f (.node .and _) => true
  | .f (.node .or _) => true
  | _ => false
theorem isi_lat (w : World) (e : Ex) : kitAny (KK w) (tyOf e) [.ref 268, .ref 349] = some (latB e) := by
  cases e with
  | b u => kernel_rfl
  | f f => cases f with
    | sym i => kernel_rfl
    | node k as => cases k <;> kernel_rfl
def kidsE : Ex → List Ex
  | .f (.node _ as) => as.map Ex.f
  | _ => []
theorem nnfGo_cons (n : Nat) (simp : Bool) (e : Ex) (stack : List Ex) : isNnfGo (n + 1) simp (e :: stack) = if stack.length + (parts .and e).length + (parts .or e).length ≤ 1000 then
    (if latB e then (if simp then opposed (kidsE e) (kidsE e) else some false).bind fun o => if o then some false else isNnfGo n simp ((kidsE e).reverse ++ stack)
     else (litF 5 e).bind fun lit => if lit then isNnfGo n simp stack else some false) else none := by
  cases e with
  | b u => rfl
  | f f => cases f with
    | sym i => rfl
    | node k as => cases k <;> rfl
theorem latB_is {e : Ex} (h : latB e = true) : ∃ k as, latK k ∧ e = .f (.node k as) := by
  cases e with
  | b u => cases h
  | f f => cases f with
    | sym i => cases h
    | node k as => cases k <;> first | exact ⟨_, _, .inl rfl, rfl⟩ | exact ⟨_, _, .inr rfl, rfl⟩ | cases h
theorem latK_parts {k : Kd} (h : latK k) (as : List Fm) : as.length ≤ (parts .and (.f (.node k as))).length + (parts .or (.f (.node k as))).length := by
  rcases h with rfl | rfl <;> simp [parts]
theorem ct_isNnf (c : Cx) (e : Ex) (simp r : Bool) (h : isNnf simp e = some r) {ps : List PV} (hs : ps = [e.pv, .bool simp] ∨ (ps = [e.pv] ∧ simp = true)) : CT c 26 (.ref 579) ps [] (.bool r) := by
  refine CT_def (n := 25) (f := 579) (pvs := [e.pv, .bool simp]) (by rfl) rfl rfl (by rfl) (names := ["expr", "simplified"]) ?bnd (by decide) (kindsN (by rfl)) ?_
  case bnd =>
    rcases hs with rfl | ⟨rfl, rfl⟩
    · exact bind2e (by rfl) (by rfl) (by rfl) (fun a b => by rfl) (fun a b => by rfl)
    · exact bind1e (dv := .bool true) (by rfl) (by rfl) (by rfl) (fun a => by rfl) (fun a => by rfl) (fun F => rfl)
  intro s₀ F₀ L
  obtain ⟨lit, hlit, h⟩ := Option.bind_eq_some_iff.mp h
  refine J_execs_cons <| J_Assign <| J_CallName <| J_G (v := .ref 32) (by kernel_rfl) (by rfl) <| J_callBase (by kernel_rfl) <| J_evalArgs <| J_spliced <| J_name (p := e.pv) (by rfl) fun v1 => J_spliced_nil <| J_ct (ct_sympify c e.pv) (by omega) (.cons (Has.mem (.head _)) .nil) fun v2 => J_store (p := e.pv) (Has.mem (.head _)) (by rfl) (by rfl) ?_
  refine J_execs_cons <| J_if <| J_isTrue <| J_CallName <| J_G (v := .ref 614) (by kernel_rfl) (by rfl) <| J_callBase (by kernel_rfl) <| J_evalArgs <| J_spliced <| J_name (p := e.pv) (by rfl) fun v3 => J_spliced_nil <| J_ct (ct_lit c 5 e lit hlit) (by omega) (.cons (Has.mem (.head _)) .nil) fun v4 => J_known (w := .bool lit) (Has.bv (Has.mem (.head _))) <| J_truthyB ?_
  cases lit with
  | true =>
    cases h
    exact J_execs_cons <| J_return <| J_bool Has.bool
  | false =>
    have h : isNnfGo 100 simp [e] = some r := h
    refine J_execs_nil <| J_execs_cons <| J_assignOwn (J_spliced <| J_name (p := e.pv) (by rfl) fun v5 => J_spliced_nil ⟨by rfl, [e.pv], .cons (Has.mem (.head _)) .nil, (by decide : 1 ≤ 16777216), fun l => ?_⟩) (by rfl)
    refine J_execs_cons (J_mono (Φ := fun fl σ => if r then fl = .next else ∃ v, fl = .ret v ∧ Has c σ v (.bool false)) ?_ fun fl σ z => ?_)
    · refine J_while (fun n σ => ∃ stack, NnI simp stack σ ∧ isNnfGo n simp stack = some r) (fun n σ hI => ?_) 100 ⟨[e], ⟨⟨l, by rfl⟩, by rfl⟩, h⟩
      obtain ⟨stack, ⟨⟨a, hown⟩, hs⟩, hgo⟩ := hI
      cases n with
      | zero => cases stack <;> cases hgo
      | succ n =>
        cases stack with
        | nil =>
          cases hgo
          exact J_isTrue <| J_nameOwn hown <| J_truthyOwn hown (Nat.zero_le _) <| J_execs_nil rfl
        | cons e stack =>
          rw [nnfGo_cons] at hgo
          split at hgo
          case isFalse => cases hgo
          rename_i hsz
          have hown' : σ.own = some (("stack" : Str), a, (stack.reverse.map Ex.pv) ++ [e.pv]) := by rw [hown]; simp
          have hne : (!((stack.reverse.map Ex.pv) ++ [e.pv]).isEmpty) = true := by simp
          refine J_isTrue <| J_nameOwn hown' <| J_truthyOwn hown' (by simp only [List.length_append, List.length_map, List.length_reverse, List.length_singleton, sizeLine_is]; omega) ?_
          rw [hne]
          refine J_execs_cons <| J_Assign <| J_CallAttr <| J_nameOwn hown' <| J_calleeFew fun pl => J_methOwn hown' PySem.F.slot_list_pop PySem.F.type_list_pop <| J_callImm <| J_evalArgs0 <| J_pop hown' (by simp only [List.length_map, List.length_reverse, sizeLine_is]; omega) fun v => J_store (p := e.pv) (Has.mem (.head _)) (by rfl) (by rfl) ?_
          refine J_execs_cons <| J_if <| J_isTrue <| J_CallName <| J_Bt (v := .builtin "isinstance") (by kernel_rfl) (by rfl) (by decide) (by rfl) <| J_callImm <| J_evalArgs <| J_spliced <| J_name (p := e.pv) (by rfl) fun v1 => J_spliced <| J_Tuple <| J_spliced <| J_G (v := .ref 268) (by kernel_rfl) (by rfl) <| J_spliced <| J_G (v := .ref 349) (by kernel_rfl) (by rfl) <| J_spliced_nil <| J_newTuple (ps := [.val (.ref 268), .val (.ref 349)]) (.cons Has.val (.cons Has.val .nil)) (show 2 ≤ 16777216 by decide) fun v2 => J_spliced_nil <| J_isiET (Ds := [.ref 268, .ref 349]) (Has.mem (.tail _ (.head _))) (Has.mem (.head _)) (isi_lat c.w e) <| J_truthyB ?_
          cases hlat : latB e with
          | true =>
            obtain ⟨k, as, hk, rfl⟩ := latB_is hlat
            rw [hlat, if_pos rfl] at hgo
            obtain ⟨o, ho, hgo⟩ := Option.bind_eq_some_iff.mp hgo
            have hkl := latK_parts hk as
            refine J_execs_cons (J_mono (Φ := fun fl σ => if o then ∃ v, fl = .ret v ∧ Has c σ v (.bool false) else fl = .next ∧ NnI simp stack σ ∧ σ.ρ.lookup ("expr" : Str) = some (.fm (.node k as))) ?_ fun fl σ z => ?_)
            · refine J_if <| J_isTrue <| J_name (p := .bool simp) hs fun v3 => J_known (w := .bool simp) (Has.bv (Has.mem (.head _))) <| J_truthyB ?_
              cases simp with
              | false => cases ho; exact J_execs_nil ⟨rfl, ⟨⟨a, rfl⟩, hs⟩, by rfl⟩
              | true =>
                refine J_execs_cons <| J_Assign <| J_Attribute <| J_name (p := .fm (.node k as)) (by rfl) fun v4 => J_args (Has.mem (.head _)) fun v5 => J_store (Has.mem (.head _)) (by rfl) (by rfl) ?_
                refine J_execs_cons (J_mono (Φ := fun fl σ => if o then ∃ v, fl = .ret v ∧ Has c σ v (.bool false) else fl = .next ∧ NnI true stack σ ∧ σ.ρ.lookup ("expr" : Str) = some (.fm (.node k as))) ?_ fun fl σ z => ?_)
                · refine J_for (J_name (p := .tup (as.map .fm)) (by rfl) fun v6 => ⟨_, iterOf_tup (Has.mem (.head _)), ForJ_ind (fun ps σ => ∃ rest : List Ex, ps = rest.map Ex.pv ∧ NnI true stack σ ∧ σ.ρ.lookup ("expr" : Str) = some (.fm (.node k as)) ∧ σ.ρ.lookup ("args" : Str) = some (.tup (as.map .fm)) ∧ opposed (as.map .f) rest = some o) ?_ ?_ _ _ ⟨as.map Ex.f, (fms_map as).symm, ⟨⟨a, rfl⟩, hs⟩, by rfl, by rfl, ho⟩⟩)
                  · rintro σ₃ ⟨rest, f1, hI, f2, f3, f4⟩
                    cases rest with
                    | nil => cases f4; exact J_execs_nil ⟨rfl, hI, f2⟩
                    | cons _ _ => cases f1
                  · rintro p₃ ps₃ σ₃ ⟨rest, f1, ⟨⟨a₃, hown3⟩, hs3⟩, f2, f3, f4⟩ w F₃ pin₃
                    cases rest with
                    | nil => cases f1
                    | cons b rest =>
                      cases f1
                      obtain ⟨op, hop, f4⟩ := Option.bind_eq_some_iff.mp f4
                      refine J_assignName (J_store (Has.mem (.head _)) (by rfl) (by rw [hown3]; rfl) ?_)
                      refine J_execs_cons <| J_Assign <| J_CallName <| J_G (v := .ref 385) (by kernel_rfl) (by rfl) <| J_callBase (by kernel_rfl) <| J_evalArgs <| J_spliced <| J_name (p := b.pv) (by rfl) fun w6 => J_spliced_nil <| J_ct (ct_Not c hop) (by omega) (.cons (Has.mem (.head _)) .nil) fun w7 => J_store (Has.mem (.head _)) (by rfl) (by rw [hown3]; rfl) ?_
                      refine J_execs_cons <| J_if <| J_isTrueIn (neg := false) <| J_name (p := op.pv) (by rfl) fun w8 => J_name (p := .tup (as.map .fm)) f3 fun w9 => J_inTup (x := op) (ys := as.map .f) (by omega) (Has.mem (.tail _ (.head _))) (by rw [fms_map]; exact Has.mem (.head _)) ?_
                      cases hin : inE op (as.map .f) with
                      | true =>
                        rw [hin] at f4
                        cases f4
                        exact J_execs_cons <| J_return <| J_bool ⟨_, rfl, Has.bool⟩
                      | false =>
                        rw [hin] at f4
                        exact J_execs_nil <| J_execs_nil ⟨rest, rfl, ⟨⟨a₃, hown3⟩, hs3⟩, f2, f3, f4⟩
                · cases o with
                  | true => obtain ⟨v, rfl, hv⟩ := z; exact ⟨v, rfl, hv⟩
                  | false => obtain ⟨rfl, hI, f2⟩ := z; exact J_execs_nil ⟨rfl, hI, f2⟩
            · cases o with
              | true =>
                cases hgo
                obtain ⟨v, rfl, hv⟩ := z
                exact ⟨v, rfl, hv⟩
              | false =>
                obtain ⟨rfl, ⟨⟨a₂, hown2⟩, hs2⟩, f2⟩ := z
                refine J_execs_cons <| J_Expr <| J_CallAttr <| J_nameOwn hown2 <| J_calleeFew fun pl => J_methOwn hown2 PySem.F.slot_list_extend PySem.F.type_list_extend <| J_callImm <| J_evalArgs <| J_spliced <| J_Attribute <| J_name (p := .fm (.node k as)) f2 fun w1 => J_args (Has.mem (.head _)) fun w2 => J_spliced_nil <| J_extendT hown2 (Has.mem (.head _)) (by simp only [List.length_map, List.length_reverse]; omega) ⟨none_noRef, ?_⟩
                exact J_execs_nil <| J_execs_nil ⟨n, Nat.lt_succ_self _, (as.map Ex.f).reverse ++ stack, ⟨⟨a₂, by simp [Ex.pv]⟩, hs2⟩, hgo⟩
          | false =>
            rw [hlat, if_neg (by simp)] at hgo
            obtain ⟨lit, hlit, hgo⟩ := Option.bind_eq_some_iff.mp hgo
            refine J_execs_cons <| J_if <| J_not <| J_isTrue <| J_CallName <| J_G (v := .ref 614) (by kernel_rfl) (by rfl) <| J_callBase (by kernel_rfl) <| J_evalArgs <| J_spliced <| J_name (p := e.pv) (by rfl) fun v3 => J_spliced_nil <| J_ct (ct_lit c 5 e lit hlit) (by omega) (.cons (Has.mem (.head _)) .nil) fun v4 => J_known (w := .bool lit) (Has.bv (Has.mem (.head _))) <| J_truthyB ?_
            cases lit with
            | true => exact J_execs_nil <| J_execs_nil <| J_execs_nil ⟨n, Nat.lt_succ_self _, stack, ⟨⟨a, rfl⟩, hs⟩, hgo⟩
            | false =>
              cases hgo
              exact J_execs_cons <| J_return <| J_bool ⟨_, rfl, Has.bool⟩
    · cases r with
      | true =>
        obtain rfl := z
        exact J_execs_cons <| J_return <| J_bool Has.bool
      | false =>
        obtain ⟨v, rfl, hv⟩ := z
        exact hv
theorem ct_isNnf2 (c : Cx) (e : Ex) (simp r : Bool) (h : isNnf simp e = some r) : CT c 26 (.ref 579) [e.pv, .bool simp] [] (.bool r) := ct_isNnf c e simp r h (.inl rfl)
end Mine
end

-- J27
section
open PySem PySem.W PyProof.Rows PySem.Calls
set_option maxRecDepth 100000
namespace Mine
/-- the frame, with these pinned -/
abbrev Fc.wp (fr : Fc) (ms : List (Addr × Obj)) : Fc := ⟨fr.s₀, fr.F₀, fr.env, fr.mc, ms, fr.stk⟩
section
variable {c : Cx} {fr : Fc} {F F' : PM} {σ : AS} {h h' : Heap} {ms ms' : List (Addr × Obj)}
theorem Holds.unwp (H : Holds c (fr.wp ms) F σ h) : Holds c (fr.wp []) F σ h ∧ ∀ q ∈ ms, Free fr F σ q.1 ∧ h.get? q.1 = some q.2 := by
  obtain ⟨m, cm, L⟩ := H.loc
  refine ⟨⟨H.base, H.kind, H.outer, H.le, H.sub, H.keep, H.new, ⟨m, cm, ⟨L.ns, L.offL, L.fresh, L.cell, L.apart, L.val, L.own, fun q hq => (nomatch hq), fun q hq => (nomatch hq)⟩⟩, H.tmp⟩, fun q hq => ?_⟩
  obtain ⟨z1, z2, z3, z4, z5, z6⟩ := L.pin q hq
  exact ⟨⟨z2, z3, z4, z5, z6⟩, z1⟩
theorem Holds.rewp (H : Holds c (fr.wp []) F σ h) (hs : fr.stk = none) (Z : ∀ q ∈ ms, Free fr F σ q.1 ∧ h.get? q.1 = some q.2) : Holds c (fr.wp ms) F σ h := by
  obtain ⟨m, cm, L⟩ := H.loc
  exact ⟨H.base, H.kind, H.outer, H.le, H.sub, H.keep, H.new, ⟨m, cm, ⟨L.ns, L.offL, L.fresh, L.cell, L.apart, L.val, L.own, fun q hq => ⟨(Z q hq).2, (Z q hq).1.off, (Z q hq).1.loc, (Z q hq).1.new, (Z q hq).1.cell, (Z q hq).1.own⟩, fun q hq => .inl hs⟩⟩, H.tmp⟩
abbrev addrs (ms : List (Addr × Obj)) : List Addr := ms.map (·.1)
theorem Holds.stepPins (H : Holds c (fr.wp ms) F σ h) (hs : fr.stk = none) (e : ExtOut (addrs ms) h h') (le : Le F F') (sb : Sub F' h') (hn : ∀ b x, F' b = some x → F b = some x ∨ h.get? b = none)
    (hp : ∀ q ∈ ms', h'.get? q.1 = some q.2 ∧ F' q.1 = none ∧ (q.1 ∈ addrs ms ∨ h.get? q.1 = none)) : Holds c (fr.wp ms') F' σ h' := by
  obtain ⟨H0, Z⟩ := H.unwp
  have Zw : ∀ a ∈ addrs ms, Free (fr.wp []) F σ a := fun a ha => by
    obtain ⟨q, hq, rfl⟩ := List.mem_map.mp ha
    have z := (Z q hq).1
    exact ⟨z.off, z.loc, z.new, z.cell, z.own⟩
  refine Holds.rewp (H0.stepOut Zw (fun q hq => (nomatch hq)) e le sb hn) hs fun q hq => ?_
  obtain ⟨p1, p2, p3⟩ := hp q hq
  refine ⟨?_, p1⟩
  rcases p3 with p3 | p3
  · have z := Zw _ p3
    exact ⟨p2, z.loc, z.new, z.cell, z.own⟩
  · have z := (H0.freeNew p3).1
    exact ⟨p2, z.loc, z.new, z.cell, z.own⟩
end
/-- like J, where what is pinned may change, and StopIteration may be raised -/
def JP (c : Cx) {α : Type} (n : Nat) (fr : Fc) (ms : List (Addr × Obj)) (σ : AS) (t : Sem α) (Φ : α → List (Addr × Obj) → AS → Prop) (Ψ : List (Addr × Obj) → Prop) : Prop :=
  ∀ A, Rm n fr.env fr.stk A → ∀ F s, Holds c (fr.wp ms) F σ s.heap → ∀ (Q : α → Shared → Prop) (E : Value → Shared → Prop),
    (∀ a ms' σ' F' h' tk, Φ a ms' σ' → Holds c (fr.wp ms') F' σ' h' → Q a { s with heap := h', toks := tk }) →
    (∀ ms' σ' F' h' h'' e tk, Ψ ms' → Holds c (fr.wp ms') F' σ' h' → Heap.MadeExc h' h'' e "StopIteration" [] → E (.ref e) { s with heap := h'', toks := tk }) →
    wpAny c.M A t Q E s
section
variable {c : Cx} {α β : Type} {n : Nat} {fr : Fc} {ms : List (Addr × Obj)} {σ : AS} {env : Env} {Φ : α → List (Addr × Obj) → AS → Prop} {Ψ : List (Addr × Obj) → Prop}
theorem JP_lift {t : Sem α} (h : J c n (fr.wp ms) σ t fun a σ' => Φ a ms σ') : JP c n fr ms σ t Φ Ψ := fun A r F s H Q E q _ =>
  wpAny_mono (h A r F s H Q fun a σ' F' h' tk z H' => q a ms σ' F' h' tk z H') (fun _ _ x => x) fun _ _ x => x.elim
theorem JP_mono {t : Sem α} {Φ' : α → List (Addr × Obj) → AS → Prop} (h : JP c n fr ms σ t Φ Ψ) (i : ∀ a ms' σ', Φ a ms' σ' → Φ' a ms' σ') : JP c n fr ms σ t Φ' Ψ := fun A r F s H Q E q e =>
  h A r F s H Q E (fun a ms' σ' F' h' tk z => q a ms' σ' F' h' tk (i a ms' σ' z)) e
theorem JP_bind {m : Sem α} {f : α → Sem β} {Φ' : β → List (Addr × Obj) → AS → Prop} (h : JP c n fr ms σ m (fun a ms' σ' => JP c n fr ms' σ' (f a) Φ' Ψ) Ψ) : JP c n fr ms σ (m >>= f) Φ' Ψ := fun A r F s H Q E q e =>
  wpAny_bind (h A r F s H _ E (fun a ms' σ' F' h' tk z H' => z A r F' { s with heap := h', toks := tk } H' Q E (fun b ms'' σ'' F'' h'' tk' z' H'' => q b ms'' σ'' F'' h'' tk' z' H'') fun ms'' σ'' F'' h'' h3 x tk' z' H'' M => e ms'' σ'' F'' h'' h3 x tk' z' H'' M) fun ms' σ' F' h' h'' x tk z H' M => e ms' σ' F' h' h'' x tk z H' M)
theorem JP_pure {a : α} (h : Φ a ms σ) : JP c n fr ms σ (pure a) Φ Ψ := JP_lift (J_pure h)
theorem JP_holding {vs : List Value} {t : Sem α} (h : JP c n fr ms σ t Φ Ψ) : JP c n fr ms σ (holding vs t) Φ Ψ := fun A r F s H Q E q e => wpAny_holding (h A r F s H Q E q e)
theorem JP_operate {vs : List Value} {t : Sem Value} {Φ : Value → List (Addr × Obj) → AS → Prop} (h : JP c n fr ms σ t Φ Ψ) : JP c n fr ms σ (operate vs t) Φ Ψ := fun A r F s H Q E q e => wpAny_operating (h A r F s H Q E q e)
theorem JP_keep {vs : List Value} {t : Sem α} (h : JP c n fr ms σ t Φ Ψ) : JP c n fr ms σ (t.keep vs) Φ Ψ := fun A r F s H Q E q e => wpAny_keep (h A r F s H Q E q e)
theorem JP_fin {t : Sem Value} {Φ : Value → List (Addr × Obj) → AS → Prop} (h : JP c n fr ms σ t Φ Ψ) : JP c n fr ms σ (t >>= fun r => holding [r] point >>= fun _ => pure r) Φ Ψ :=
  JP_bind (JP_mono h fun a ms' σ' z => JP_lift (J_bind (J_holding (J_point (J_pure z)))))
theorem JP_callWith {pos : Pos} {f : Value} {first : List Value} {args : List (Bool × Sem Value)} {keywords : List (Option Str × Sem Value)} {k : Keeper} {Φ : Value → List (Addr × Obj) → AS → Prop} (hk : ∀ h, Kp c.H h → Looks c.M h (keeperOf f) k)
    (h : JP c n fr ms σ (evalArgs f true args keywords) (fun a ms' σ' => JP c n fr ms' σ' (call f (first ++ a.pos) a.kw) Φ Ψ) Ψ) : JP c n fr ms σ (callWith pos f first args keywords) Φ Ψ := by
  unfold callWith
  refine JP_bind (JP_holding (JP_mono h fun a ms' σ' q => JP_bind (JP_lift (J_standAt ?_))))
  refine JP_bind (JP_lift (J_looks (fun F h H => hk h H.kpH) ?_))
  have mk : ∀ v, JP c n fr ms' σ' (callMarked v f (first ++ a.pos) a.kw) Φ Ψ := fun v => JP_keep q
  cases k <;> cases (args.any (·.1) || keywords.any (·.1.isNone)) <;> dsimp only <;> first | exact JP_fin (mk _) | exact JP_fin (JP_operate q) | exact JP_fin q | (split; exact JP_fin q; exact JP_fin (mk _))
theorem JP_callBase {pos : Pos} {f : Value} {first : List Value} {args : List (Bool × Sem Value)} {keywords : List (Option Str × Sem Value)} {Φ : Value → List (Addr × Obj) → AS → Prop} (hk : keepIn (KK c.w) f = true)
    (h : JP c n fr ms σ (evalArgs f true args keywords) (fun a ms' σ' => JP c n fr ms' σ' (call f (first ++ a.pos) a.kw) Φ Ψ) Ψ) : JP c n fr ms σ (callWith pos f first args keywords) Φ Ψ :=
  let ⟨_, hk'⟩ := keeps_base hk; JP_callWith hk' h
theorem JP_callImm {pos : Pos} {f : Value} {first : List Value} {args : List (Bool × Sem Value)} {keywords : List (Option Str × Sem Value)} {Φ : Value → List (Addr × Obj) → AS → Prop}
    (h : JP c n fr ms σ (evalArgs f true args keywords) (fun a ms' σ' => JP c n fr ms' σ' (call f (first ++ a.pos) a.kw) Φ Ψ) Ψ) (hf : ∀ a, f ≠ .ref a := by intro a x; cases x) : JP c n fr ms σ (callWith pos f first args keywords) Φ Ψ := JP_callWith (keeper_imm hf) h
theorem JP_CallName {x : Str} {np pos : Pos} {args : List Expr} {keywords : List Keyword} {Φ : Value → List (Addr × Obj) → AS → Prop}
    (h : J c n (fr.wp ms) σ (eval (.Name x np) env) fun f σ' => JP c n fr ms σ' (callWith pos f [] (backTo pos (starEach args env)) (backToKw pos (keywordEach keywords env))) Φ Ψ) : JP c n fr ms σ (eval (.Call (.Name x np) args keywords pos) env) Φ Ψ := by
  show JP c n fr ms σ (do callWith pos (← eval (.Name x np) env) [] (backTo pos (starEach args env)) (backToKw pos (keywordEach keywords env))) Φ Ψ
  exact JP_bind (JP_lift h)
theorem JP_execs_nil {Φ : Flow → List (Addr × Obj) → AS → Prop} (h : Φ .next ms σ) : JP c n fr ms σ (execs [] env) Φ Ψ := JP_lift (J_execs_nil h)
theorem JP_execs_cons {st : Stmt} {rest : List Stmt} {Φ : Flow → List (Addr × Obj) → AS → Prop} (h : JP c n fr ms σ (exec st env) (fun fl ms' σ' => match fl with | .next => JP c n fr ms' σ' (execs rest env) Φ Ψ | f => Φ f ms' σ') Ψ) : JP c n fr ms σ (execs (st :: rest) env) Φ Ψ :=
  fun A r F s H Q E q e => wpAny_execs_cons (wpAny_mono (h A r F s H (fun fl s' => match fl with | .next => wpAny c.M A (execs rest env) Q E s' | f => Q f s') E (fun fl ms' σ' F' h' tk z H' => by
    cases fl with
    | next => exact z A r F' { s with heap := h', toks := tk } H' Q E (fun b ms'' σ'' F'' h'' tk' z' H'' => q b ms'' σ'' F'' h'' tk' z' H'') fun ms'' σ'' F'' h'' h3 x tk' z' H'' M => e ms'' σ'' F'' h'' h3 x tk' z' H'' M
    | brk => exact q _ ms' σ' F' h' tk z H'
    | cont => exact q _ ms' σ' F' h' tk z H'
    | ret v => exact q _ ms' σ' F' h' tk z H') e) (fun fl s' z => z) fun _ _ x => x)
theorem JP_if {test body orelse pos} {Φ : Flow → List (Addr × Obj) → AS → Prop} (h : J c n (fr.wp ms) σ (isTrue test env (eval test env)) fun b σ' => if b then JP c n fr ms σ' (execs body env) Φ Ψ else JP c n fr ms σ' (execs orelse env) Φ Ψ) : JP c n fr ms σ (exec (.If test body orelse pos) env) Φ Ψ :=
  fun A r F s H Q E q e => wpAny_If (wpAny_mono (h A r F s H (fun b s' => if b then wpAny c.M A (execs body env) Q E s' else wpAny c.M A (execs orelse env) Q E s') fun b σ' F' h' tk z H' => by
    cases b with
    | true => exact z A r F' { s with heap := h', toks := tk } H' Q E (fun b ms'' σ'' F'' h'' tk' z' H'' => q b ms'' σ'' F'' h'' tk' z' H'') fun ms'' σ'' F'' h'' h3 x tk' z' H'' M => e ms'' σ'' F'' h'' h3 x tk' z' H'' M
    | false => exact z A r F' { s with heap := h', toks := tk } H' Q E (fun b ms'' σ'' F'' h'' tk' z' H'' => q b ms'' σ'' F'' h'' tk' z' H'') fun ms'' σ'' F'' h'' h3 x tk' z' H'' M => e ms'' σ'' F'' h'' h3 x tk' z' H'' M) (fun b s' z => by cases b <;> exact z) fun _ _ x => x.elim)
theorem JP_return {e pos} {Φ : Flow → List (Addr × Obj) → AS → Prop} (h : JP c n fr ms σ (eval e env) (fun v ms' σ' => Φ (.ret v) ms' σ') Ψ) : JP c n fr ms σ (exec (.Return (some e) pos) env) Φ Ψ :=
  fun A r F s H Q E q e => wpAny_Return_some (h A r F s H _ E (fun v ms' σ' F' h' tk z H' => q _ ms' σ' F' h' tk z H') e)
theorem JP_assignAttr {o : Expr} {attr : Str} {pos : Pos} {v : Value} {Φ : Unit → List (Addr × Obj) → AS → Prop} (h : J c n (fr.wp ms) σ (eval o env) fun ov σ' => JP c n fr ms σ' (setAttr ov attr v) Φ Ψ) : JP c n fr ms σ (assign (.Attribute o attr pos) env v) Φ Ψ := by
  rw [arm_assign_Attribute]
  exact JP_bind (JP_holding (JP_lift (J_mono h fun ov σ' z => JP_bind (JP_lift (J_standAt (JP_bind (JP_holding (JP_mono z fun u ms' σ'' z' => JP_lift (J_release z')))))))))
theorem JP_Assign1 {t value : Expr} {pos : Pos} {Φ : Flow → List (Addr × Obj) → AS → Prop} (h : JP c n fr ms σ (eval value env) (fun v ms' σ' => JP c n fr ms' σ' (assign t env v) (fun _ ms'' σ'' => Φ .next ms'' σ'') Ψ) Ψ)
    (hs : swapsWithSole [t] value pos.line env = pure false := by rfl) (hw : swappedStores [t] value env = pure none := by rfl) (he : (assignEach [t] env).map (·.2) = [assign t env] := by rfl) : JP c n fr ms σ (exec (.Assign [t] value pos) env) Φ Ψ := by
  rw [arm_exec_Assign, hs, hw, he]
  refine JP_bind (JP_lift (J_standAt (JP_bind (JP_pure ?_))))
  simp only [Bool.false_eq_true, if_false]
  refine JP_bind (JP_mono h fun v ms' σ' z => JP_bind (JP_pure ?_))
  exact JP_bind (JP_mono z fun u ms'' σ'' z' => JP_pure z')
theorem JP_raise {x : Str} {np pos : Pos} {Φ : Flow → List (Addr × Obj) → AS → Prop} (hx : fr.env.kindOf x = some .globalImplicit) (e0 : nsIn (KK c.w) mainGlobals x = some none) (hv : bootBuiltins x = some (.type "StopIteration")) (hx0 : x ≠ "__name__") (h : Ψ ms) (hg : fr.env.globals = mainGlobals := by rfl) (hb : fr.env.builtins = builtinsNs := by rfl) (hd : (x == ("__debug__" : Str)) = false := by decide) :
    JP c n fr ms σ (exec (.Raise (some (.Name x np)) none pos) fr.env) Φ Ψ := fun A r F s H Q E q e =>
  owsi_raiseC r.1.2.2 (Name_function_global H.kind hx (loadGlobal_builtin (hg ▸ c.g.keeps H.kpH) (mg_none_of c.X c.g e0) (hb ▸ c.b.keeps H.kpH) ((c.builtins x hx0).trans hv) ⟨rfl, rfl⟩) hd)
    fun h' ex M => e ms σ F s.heap h' ex s.toks h H M
end
end Mine
end

-- J28
section
open PySem PySem.W PyProof.Rows PySem.Calls
set_option maxRecDepth 100000
namespace Mine
abbrev cmbC : Addr := 324
/-- an object with slots -/
abbrev slotObj (dx : Addr) (sl : List (Option Value)) : Obj := { cls := .ref cmbC, dict := some dx, data := .plain, slots := sl.toArray }
def setAt (i : Nat) (v : Value) (sl : List (Option Value)) : List (Option Value) := (sl ++ List.replicate (i + 1 - sl.length) none).set i (some v)
theorem slotObj_set (dx : Addr) (sl : List (Option Value)) (i : Nat) (v : Value) : ({ slotObj dx sl with slots := ((slotObj dx sl).slots ++ Array.replicate (i + 1 - (slotObj dx sl).slots.size) none).setIfInBounds i (some v) } : Obj) = slotObj dx (setAt i v sl) := by
  have e : ((slotObj dx sl).slots ++ Array.replicate (i + 1 - (slotObj dx sl).slots.size) none).setIfInBounds i (some v) = (setAt i v sl).toArray := by
    unfold setAt
    apply Array.toList_inj.mp
    simp
  rw [e]
section
variable {prog : Program} {w : World} {A : Around} {s : Shared} {K : Frag} {x C : Addr} {R : Result → Shared → Prop}
open Builtin Builtin.ObjectAttr Builtin.Getset_descriptor in
/-- a slot is set -/
theorem slot_put {ox : Obj} {od : Option Obj} {v : Value} {p i : Nat} (X : K.In s.heap) (I : PySem.W.InstAt s.heap x ox C od) (hp : slotIn K p C = some i) (hi : i < 1000) (hf : ({ ox with slots := (ox.slots ++ Array.replicate (i + 1 - ox.slots.size) none).setIfInBounds i (some v) } : Obj).isFreed = false)
    (h : ∀ h', Heap.SameBut x s.heap h' → h'.get? x = some { ox with slots := (ox.slots ++ Array.replicate (i + 1 - ox.slots.size) none).setIfInBounds i (some v) } → R (.ok (.ret .none)) { s with heap := h' }) :
    codeAny (model prog w) A (.call (.builtin "member_descriptor.__set__") ⟨[.ref p, .ref x, v], []⟩) R s := by
  obtain ⟨n, tn, owner, behind, tb, d, sl, cd, ho, hc, hm, hb, rfl⟩ := slot_of X hp
  obtain ⟨hh, g, dr, t, os⟩ := s
  have hx := I.at_
  have sb := Heap.SameBut.update hh x (fun o => { o with slots := (o.slots ++ Array.replicate (cd.slotNames.length - 1 - behind.toNat + 1 - o.slots.size) none).setIfInBounds (cd.slotNames.length - 1 - behind.toNat) (some v) })
  have up := Heap.get?_update_self (fun o => { o with slots := (o.slots ++ Array.replicate (cd.slotNames.length - 1 - behind.toNat + 1 - o.slots.size) none).setIfInBounds (cd.slotNames.length - 1 - behind.toNat) (some v) }) hx hf
  have L0 := I.type (M := model prog w)
  have L1 := looks_mroIn (M := model prog w) X hm
  have L2 : Looks (model prog w) hh (Slots.slotNamesOf (.ref C)) cd.slotNames := (looks_clsIn X hc).andThen .now
  dsimp only at ho hx L0 L1
  have f0 := looks_field (M := model prog w) ho 0 (v := .str n tn) rfl
  have f1 := looks_field (M := model prog w) ho 1 (v := owner) rfl
  have f3 := looks_field (M := model prog w) ho 3 (v := .builtin "proto.slot#set") rfl
  have f4 := looks_field (M := model prog w) ho 4 (v := .int behind tb) rfl
  refine codeAny_call_builtin KF.slot_mset.plain KF.entry_mset (KF.slot_mset.check _ _ _ _ _ _ _ _ ⟨_, ho, rfl⟩ (KF.args_mset _ _ _) ?_)
  unfold Builtin.«member_descriptor.__set__» descrSet descrStoreThrough descrCheckInstance descrNameAndClass isInstance
  have f5 : Looks (model prog w) hh (descrItself (.ref p)) [.ref p] := ((Looks.ld (part := none) ho).andThen .now).andThen (Looks.of_pure (by kernel_rfl))
  repeat lk
  refine ⟨Code.quiet_builtin _ (by decide +kernel), codeAny_builtin KF.entry_slotset ?_⟩
  unfold Builtin.«proto.slot#set» Slots.target
  repeat lk
  rw [if_neg hb]
  refine wpAny_pure (wpAny_bind ?_)
  unfold setSlotAt
  dsimp only
  rw [if_neg (by rw [sizeLine_eq]; omega)]
  exact wpAny_updatePart hx (wpAny_pure (h _ sb up))
end
section
variable {c : Cx} {n : Nat} {fr : Fc} {σ : AS} {ms : List (Addr × Obj)}
theorem Holds.pinAt {F : PM} {h : Heap} (H : Holds c fr F σ h) {q : Addr × Obj} (hq : q ∈ fr.pin) : h.get? q.1 = some q.2 := by
  obtain ⟨m, cm, L⟩ := H.loc
  exact (L.pin q hq).1
theorem cmb_plain (w : World) : findIn (KK w) (.ref cmbC) "__getattribute__" = some (some (.builtin "object.__getattribute__")) ∧ findIn (KK w) (.ref cmbC) "__getattr__" = some none := plainGet_of (name := "x") (by kernel_rfl)
theorem slotObj_inst {h : Heap} {x dx : Addr} {sl : List (Option Value)} (e : h.get? x = some (slotObj dx sl)) (d : h.get? dx = some emptyDict) : PySem.W.InstAt h x (slotObj dx sl) cmbC (some emptyDict) := ⟨e, rfl, rfl, d⟩
theorem J_getSlot {o : Value} {x dx p : Addr} {sl : List (Option Value)} {i : Nat} {name : Str} {v : Value} {ex : Bool} {Φ : Value → AS → Prop} (ho : Has c σ o (.val (.ref x))) (hm : (x, slotObj dx sl) ∈ fr.pin) (hd : Has c σ (.ref dx) (.raw emptyDict))
    (hf : findObj (KK c.w) cmbC (some emptyDict) name = some (.bind (.builtin "member_descriptor.__get__") (.ref p))) (hp : slotIn (KK c.w) p cmbC = some i) (hv : (sl[i]?).join = some v) (hh : handedIn v = true) (k : Φ v σ) : J c n fr σ (getAttr o name ex) Φ := fun A r F s H Q q => by
  obtain rfl : o = .ref x := ho _ _ _ H
  obtain ⟨d', e, hdx⟩ := hd _ _ _ H
  cases e
  have I := slotObj_inst (H.pinAt hm) (H.sub _ _ hdx)
  exact get_bind H.inK I (cmb_plain c.w).1 hf (cmb_plain c.w).2 (wpAny_call (slot_get (s := { s with toks := s.toks + 1 }) H.inK I hp (by simpa using hv) (handed_on hh (q _ σ F s.heap _ k H))))
theorem JP_setSlot {o : Value} {x dx p : Addr} {sl : List (Option Value)} {rest : List (Addr × Obj)} {i : Nat} {name : Str} {v : Value} {Φ : Unit → List (Addr × Obj) → AS → Prop} {Ψ : List (Addr × Obj) → Prop} (hms : ms = (x, slotObj dx sl) :: rest) (hr : ∀ q ∈ rest, q.1 ≠ x) (hs : fr.stk = none) (ho : Has c σ o (.val (.ref x))) (hd : Has c σ (.ref dx) (.raw emptyDict))
    (ht : takerIn (KK c.w) cmbC name = some (some (.ref p))) (hT : typeIn (KK c.w) (.ref p) = some (.type "member_descriptor")) (hp : slotIn (KK c.w) p cmbC = some i) (hi : i < 1000) (k : Φ () ((x, slotObj dx (setAt i v sl)) :: rest) σ) : JP c n fr ms σ (setAttr o name v) Φ Ψ := fun A r F s H Q E q e => by
  subst hms
  obtain rfl : o = .ref x := ho _ _ _ H
  obtain ⟨d', e', hdx⟩ := hd _ _ _ H
  cases e'
  have hx := H.pinAt (q := (x, slotObj dx sl)) (.head _)
  have I := slotObj_inst hx (H.sub _ _ hdx)
  obtain ⟨m, cm, L⟩ := H.loc
  have offx : F x = none := (L.pin (x, slotObj dx sl) (.head _)).2.1
  refine set_plain H.inK I (by kernel_rfl) (osa_descr (s := { s with toks := s.toks + 1 }) KF.slot_mset H.inK I (by kernel_rfl) ht hT (slot_put (s := { s with toks := s.toks + 1 }) H.inK I hp hi rfl fun h' sb up => ?_))
  rw [slotObj_set] at up
  refine q () _ σ F h' _ k (H.stepPins hs (fun b o' hb hq => (sb.2 b (fun z => hb (by rw [z]; exact .head _))).trans hq) (Le.refl _) (fun b o' hq => (sb.2 b fun z => by rw [z, offx] at hq; cases hq).trans (H.sub b o' hq)) (fun _ _ z => .inl z) fun z hz => ?_)
  rcases List.mem_cons.mp hz with rfl | hz
  · exact ⟨up, offx, .inl (.head _)⟩
  · have z2 := L.pin z (.tail _ hz)
    exact ⟨(sb.2 _ (hr z hz)).trans z2.1, z2.2.1, .inl (List.mem_map_of_mem (.tail _ hz))⟩
-- reading a pinned list
def ListO (o : Obj) (vs : List Value) : Prop := o.cls = .type "list" ∧ ∃ k, o.data = .seq vs.toArray k
theorem ListO.nd {o : Obj} {vs : List Value} (h : ListO o vs) : NoDict o := fun es k e => by obtain ⟨_, kk, z⟩ := h; rw [z] at e; cases e
theorem J_tailPin {slice : Expr} {o i v : Value} {l : Addr} {lo : Obj} {vs : List Value} {k : Int} {Φ : Value → AS → Prop} (ho : Has c σ o (.val (.ref l))) (hm : (l, lo) ∈ fr.pin) (hlo : ListO lo vs) (hi : Has c σ i (.int k)) (hp : vs[k.toNat]? = some v) (q : Φ v σ) (hb : 0 ≤ k ∧ k < 1000000 := by decide)
    (hs : ∀ o i, subscripted slice false o i = operate [o, i] (getItem o i) := by intro _ _; rfl) : J c n fr σ (tailOf slice o i) Φ :=
  J_tail (T := "list") (fun F h H s e => by subst e; obtain rfl : o = .ref l := ho _ _ _ H; exact ⟨_, H.pinAt hm, hlo.1⟩) list_getitem_lookup (hs o i) fun A r F s H Q q' => by
    obtain rfl : o = .ref l := ho _ _ _ H
    obtain ⟨t, rfl⟩ := hi _ _ _ H
    exact wpAny_getItem_list (⟨_, H.pinAt hm, hlo.1, hlo.2⟩ : s.heap.IsList l vs.toArray) (by omega) (by omega) (by simpa using hp) (q' v σ F s.heap s.toks q H)
/-- an item of a pinned list is set -/
theorem JP_setItem {l : Addr} {lo : Obj} {vs : List Value} {k : Int} {t : Tok} {v : Value} {pre rest : List (Addr × Obj)} {Φ : Unit → List (Addr × Obj) → AS → Prop} {Ψ : List (Addr × Obj) → Prop} (hms : ms = pre ++ (l, lo) :: rest) (hlo : ListO lo vs) (hpr : ∀ q ∈ pre, q.1 ≠ l) (hr : ∀ q ∈ rest, q.1 ≠ l) (hs : fr.stk = none) (hk : 0 ≤ k ∧ k < vs.length) (hk2 : k < 1000000)
    (kont : ∀ lo', ListO lo' (vs.set k.toNat v) → Φ () (pre ++ (l, lo') :: rest) σ) : JP c n fr ms σ (setItem (.ref l) (.int k t) v) Φ Ψ := fun A r F s H Q E q e => by
  subst hms
  have mem : (l, lo) ∈ pre ++ (l, lo) :: rest := List.mem_append_right _ (.head _)
  have hl := H.pinAt (q := (l, lo)) mem
  obtain ⟨m, cm, L⟩ := H.loc
  have offl : F l = none := (L.pin _ mem).2.1
  refine wpAny_setItem_list (items := vs.toArray) ⟨_, hl, hlo.1, hlo.2⟩ hk.1 (by omega) (by simpa using hk.2) fun h' hl' sb => ?_
  obtain ⟨lo', ho', hc', hd'⟩ := hl'
  refine q () _ σ F h' _ (kont lo' ⟨hc', by simpa using hd'⟩) (H.stepPins hs (fun b o' hb hq => (sb.2 b (fun z => hb (by rw [z]; exact List.mem_map_of_mem (f := (·.1)) mem))).trans hq) (Le.refl _) (fun b o' hq => (sb.2 b fun z => by rw [z, offl] at hq; cases hq).trans (H.sub b o' hq)) (fun _ _ z => .inl z) fun z hz => ?_)
  rcases List.mem_append.mp hz with hz | hz
  · have z2 := L.pin z (List.mem_append_left _ hz)
    exact ⟨(sb.2 _ (hpr z hz)).trans z2.1, z2.2.1, .inl (List.mem_map_of_mem (f := (·.1)) (List.mem_append_left _ hz))⟩
  · rcases List.mem_cons.mp hz with rfl | hz
    · exact ⟨ho', offl, .inl (List.mem_map_of_mem (f := (·.1)) mem)⟩
    · have z2 := L.pin z (List.mem_append_right _ (.tail _ hz))
      exact ⟨(sb.2 _ (hr z hz)).trans z2.1, z2.2.1, .inl (List.mem_map_of_mem (f := (·.1)) (List.mem_append_right _ (.tail _ hz)))⟩
end
end Mine
end

-- J29
section
open PySem PySem.W PyProof.Rows PySem.Calls
set_option maxRecDepth 100000
namespace Mine
theorem hidden {l : List Addr} {h : Heap} {b : Addr} (e : (hideAll h l).get? b = none) : b ∈ l ∨ h.get? b = none := by
  by_cases m : b ∈ l
  · exact .inl m
  · right
    cases q : h.get? b with
    | none => rfl
    | some o => rw [hideAll_get l q m] at e; cases e
def retOf : Flow → Value
  | .ret v => v
  | _ => .none
theorem call_JP {c : Cx} {n : Nat} {f : Addr} {oc : Value} {od : Option Addr} {sl : Array (Option Value)} {fd : FuncData} {body : List Stmt} {ps : List PV} {names : List Str} {pvs : List PV} {κ : List (Value × PV)} {ms : List (Addr × Obj)} {Φ : Flow → List (Addr × Obj) → AS → Prop} {Ψ : List (Addr × Obj) → Prop}
    (ho : (KK c.w).lookup f = some ⟨oc, od, .func fd, sl⟩) (hb : fd.body = .stmts body) (hcl : fd.closure = []) (hcd : codeIn (KK c.w) fd.code fd.qualname = true)
    (hbind : ∀ vs kvs, Steps c n (bindArgs fd ⟨vs, kvs⟩) (fun F _ => Reps F ps vs ∧ KReps F [] kvs) (fun F _ b => b.map (·.1) = names ∧ Reps F pvs (b.map (·.2))))
    (hnd : names.Nodup) (hkind : ∀ L, ∀ x ∈ names, fd.scope.names.lookup x = some .local ∨ (fd.scope.names.lookup x = some .cell ∧ ((cellsFrom (L + 1) fd.scope.names []).lookup x).isSome = true))
    (hJ : ∀ s₀ F₀ L, JP c n ⟨s₀, F₀, callEnvC fd L f, (callEnvC fd L f).cells, [], none⟩ ms ⟨names.zip pvs, none, κ⟩ (execs body (callEnvC fd L f)) Φ Ψ)
    (hin : ∀ fl ms' σ', Φ fl ms' σ' → ∀ a ∈ addrs ms, a ∈ addrs ms')
    {vs : List Value} {A : Around} (r : Room (n + 1) A) {F : PM} {s : Shared} (hB : Base c F) (hS : Sub F s.heap) (hP : Reps F ps vs) (hκ : ∀ q ∈ κ, Rep F q.2 q.1) (hms : ∀ q ∈ ms, s.heap.get? q.1 = some q.2 ∧ F q.1 = none) (hmd : (∃ ms', Ψ ms') → ∀ q ∈ ms, NoDict q.2)
    (hst : (∃ ms', Ψ ms') → ∃ l, A.frames = some l ∧ StkL l F s.heap) {R : Result → Shared → Prop}
    (ok : ∀ fl ms' σ' F' h' tk fr, Φ fl ms' σ' → Holds c (Fc.wp fr ms') F' σ' h' → ExtOut (addrs ms) s.heap h' → Le F F' → Sub F' h' → (∀ a o, F' a = some o → F a = some o ∨ s.heap.get? a = none) → (∀ q ∈ ms', h'.get? q.1 = some q.2 ∧ F' q.1 = none ∧ (q.1 ∈ addrs ms ∨ s.heap.get? q.1 = none)) → R (.ok (.ret (retOf fl))) { s with heap := h', toks := tk })
    (er : (∃ ms', Ψ ms') → ∀ l, A.frames = some l → ∀ e h' tk, KwOut l (addrs ms) s.heap h' → Sub F h' → (∃ o, h'.get? e = some o ∧ o.cls = .type "StopIteration") → R (.error (.ref e)) { s with heap := h', toks := tk })
    (hco : fd.scope.isCoroutine = false := by rfl) (hgen : fd.scope.isGenerator = false := by rfl) (hk : fd.scope.kind = .function := by rfl) :
    codeAny c.M A (.call (.ref f) ⟨vs, []⟩) R s := by
  have r1 : Room n A.in1 := ⟨by have := r.1; show A.depth + 2 * n < 1000; omega, by have := r.2.1; show A.units + 1 + 30 * n < 9900; omega, r.2.2⟩
  refine codeAny_call_function (by have := r.1; show A.depth < 1000; omega) ((hB.inK hS) _ _ ho) rfl hco hgen hb (codeRec_of (hB.inK hS) hcd) ?_
  refine wpAny_mono (hbind vs [] A.in1 r1 F s hB hS ⟨hP, KReps.nil⟩ _ fun binds F' h' tk kp e hr => ?_) (fun _ _ x => x) (fun _ _ x => x.elim)
  obtain ⟨hr1, hr2⟩ := hr
  rw [hcl]
  refine wpAny_newFunctionEnv_cells hk (fun x hx => hkind _ x.1 (hr1 ▸ List.mem_map_of_mem hx)) fun env he s' x => ?_
  subst he
  refine ⟨(c.nolimit.keeps (hB.kp hS)).keeps fun b o q => x.toInCall.keep b o (kp b o q), codeAny_func ?_⟩
  obtain ⟨h₁, tk₁, hs'⟩ := x.toInCall.same
  subst hs'
  have r2 : Room n (A.deeper (callEnvC fd h'.objs.size f)) := ⟨by have := r.1; show A.depth + 1 + 2 * n < 1000; omega, by have := r.2.1; show A.units + 3 + 30 * n < 9900; omega, r.2.2⟩
  have off : ∀ a, h'.objs.size ≤ a → F' a = none := fun a ha => by
    cases q : F' a with
    | none => rfl
    | some o => exact absurd (Heap.lt_size (e.sub a o q)) (Nat.not_lt.mpr ha)
  have hn : (binds.map (·.1)).Nodup := hr1 ▸ hnd
  have none_of : ∀ a, h'.objs.size ≤ a → h'.get? a = none := fun a ha => by
    cases q : h'.get? a with
    | none => rfl
    | some o => exact absurd (Heap.lt_size q) (Nat.not_lt.mpr ha)
  have none_hid : ∀ a, h'.get? a = none → (hideAll h' (addrs ms)).get? a = none := fun a ha => by
    cases q : (hideAll h' (addrs ms)).get? a with
    | none => rfl
    | some o => rw [of_hideAll _ q] at ha; cases ha
  have pin' : ∀ q ∈ ms, h'.get? q.1 = some q.2 ∧ F' q.1 = none := fun q hq => by
    refine ⟨kp _ _ (hms q hq).1, ?_⟩
    cases z : F' q.1 with
    | none => rfl
    | some o =>
      rcases e.new _ _ z with w | w
      · rw [(hms q hq).2] at w; cases w
      · rw [(hms q hq).1] at w; cases w
  have H : Holds c ((⟨{ s with heap := hideAll h' (addrs ms), toks := tk }, F', callEnvC fd h'.objs.size f, (callEnvC fd h'.objs.size f).cells, [], none⟩ : Fc).wp ms) F' ⟨names.zip pvs, none, κ⟩ h₁ := by
    refine ⟨hB.mono e.le, hk, nofun, Le.refl _, fun a o q => x.toInCall.keep a o (e.sub a o q), fun b o q => x.toInCall.keep b o (of_hideAll _ q), fun a o q => .inl q, ⟨_, (bindC (callEnvC fd h'.objs.size f).kindOf binds fun _ => none), ⟨x.toInCall.ns, off _ (Nat.le_refl _), none_hid _ (none_of _ (Nat.le_refl _)), fun y d q => ?_, fun y y' d q q' => name_of_addr x.apart (PySem.mem_of_lookup q) (PySem.mem_of_lookup q'), fun y p q => ?_, fun y l ps q => (by cases q), fun q hq => ?_, fun q hq => .inl rfl⟩⟩, fun q hq => (hκ q hq).mono e.le⟩
    · have ab := x.above y d (PySem.mem_of_lookup q)
      exact ⟨x.cell y d q, Nat.ne_of_gt ab, off d (Nat.le_of_lt ab), none_hid _ (none_of d (Nat.le_of_lt ab))⟩
    · obtain ⟨v, hv, hrv⟩ := lookup_zip hr1 hr2 q
      have hm : y ∈ names := by
        rw [← hr1]
        exact List.mem_map_of_mem (PySem.mem_of_lookup hv)
      have bv := (bind_val (kindOf := (callEnvC fd h'.objs.size f).kindOf) binds (fun _ => none) (fun _ => none) hn).1 y v hv
      rcases hkind h'.objs.size y hm with hl | ⟨hl, hs⟩
      · exact ⟨v, hrv, .inl ⟨hl, bv.1 hl⟩⟩
      · obtain ⟨d, hd⟩ := Option.isSome_iff_exists.mp hs
        have hl' : (callEnvC fd h'.objs.size f).kindOf y = some .cell := hl
        exact ⟨v, hrv, .inr (.inl ⟨hl', d, hd, hd, bv.2 (by rw [hl']; decide)⟩)⟩
    · have z := pin' q hq
      have lt := Heap.lt_size z.1
      refine ⟨x.toInCall.keep _ _ z.1, z.2, Nat.ne_of_lt lt, hideAll_none _ (List.mem_map_of_mem hq), fun y d qq => ?_, fun _ _ _ zz => (by cases zz)⟩
      exact Nat.ne_of_lt (Nat.lt_trans lt (x.above y d (PySem.mem_of_lookup qq)))
  have back : ∀ {ms' : List (Addr × Obj)} {σ' : AS} {F'' : PM} {h'' : Heap}, Holds c ((⟨{ s with heap := hideAll h' (addrs ms), toks := tk }, F', callEnvC fd h'.objs.size f, (callEnvC fd h'.objs.size f).cells, [], none⟩ : Fc).wp ms') F'' σ' h'' → ExtOut (addrs ms) s.heap h'' := fun H' b o hb q => H'.keep b o (hideAll_get _ (kp b o q) hb)
  refine wpAny_mono (hJ _ _ _ _ (Rm.strong r2) F' _ H (fun fl s' => R (.ok (.ret (retOf fl))) s') (fun e' s' => wpAny c.M (A.deeper (callEnvC fd h'.objs.size f)) (leaving (callEnvC fd h'.objs.size f) e') (fun _ s'' => R (.error e') s'') (fun e'' s'' => R (.error e'') s'') s') (fun fl ms' σ' F'' h'' tk'' hΦ H' => ?_) fun ms' σ' F'' h'' h3 ex tk'' hΨ H' M => ?_) (fun fl s' q => by cases fl <;> exact q) (fun _ _ x => x)
  · obtain ⟨m, cm, L⟩ := H'.loc
    refine ok fl ms' σ' F'' h'' tk'' _ hΦ H' (back H') (e.le.trans H'.le) H'.sub (fun a o q => ?_) fun q hq => ?_
    · rcases H'.new a o q with z | z
      · exact e.new a o z
      · rcases hidden z with w | w
        · obtain ⟨q', hq', rfl⟩ := List.mem_map.mp (hin fl ms' σ' hΦ a w)
          have z2 := (L.pin q' hq').2.1
          rw [z2] at q; cases q
        · exact .inr (Kp.none kp w)
    · obtain ⟨z1, z2, z3, z4, z5⟩ := L.pin q hq
      refine ⟨z1, z2, ?_⟩
      rcases hidden z4 with w | w
      · exact .inl w
      · exact .inr (Kp.none kp w)
  · obtain ⟨l, hl, hstk⟩ := hst ⟨ms', hΨ⟩
    have hfr : (A.deeper (callEnvC fd h'.objs.size f)).frames = some (callEnvC fd h'.objs.size f :: l) := Around.frames_deeper hl
    obtain ⟨m, cm, L⟩ := H'.loc
    -- the frames, at the raise
    have stk : StkL (callEnvC fd h'.objs.size f :: l) F h'' := by
      intro env he
      rcases List.mem_cons.mp he with rfl | he
      · obtain ⟨o, es, ep, ho', hd, _⟩ := L.ns
        refine ⟨by rw [show (callEnvC fd h'.objs.size f).scope.kind = .function from hk]; decide, h'.objs.size, o, rfl, ?_, ho', es, ep, hd⟩
        cases z : F h'.objs.size with
        | none => rfl
        | some o' => exact absurd (Heap.lt_size (kp _ _ (hS _ _ z))) (Nat.lt_irrefl _)
      · obtain ⟨g1, L', o, g2, g3, g4, es, kk, g5⟩ := hstk env he
        refine ⟨g1, L', o, g2, g3, ?_, es, kk, g5⟩
        refine H'.keep L' o (hideAll_get _ (kp _ _ g4) fun hm => ?_)
        obtain ⟨q, hq, e1⟩ := List.mem_map.mp hm
        have e2 := (hms q hq).1
        rw [show q.1 = L' from e1, g4] at e2
        exact hmd ⟨ms', hΨ⟩ q hq es kk (by rw [← Option.some.inj e2]; exact g5)
    have fm : ∀ b ∈ (callEnvC fd h'.objs.size f :: l).filterMap (·.frame), F b = none ∧ ∃ o, h''.get? b = some o ∧ ∃ es k, o.data = .dict es k := fun b hb => by
      obtain ⟨env, he, hf⟩ := List.mem_filterMap.mp hb
      obtain ⟨_, L', o, g2, g3, g4, g5⟩ := stk env he
      rw [hf] at g2
      cases g2
      exact ⟨g3, o, g4, g5⟩
    have hl2 : h''.FunFrames (hideAll h'' ((callEnvC fd h'.objs.size f :: l).filterMap (·.frame))) (callEnvC fd h'.objs.size f :: l) := by
      have go : ∀ (l' : List Env), (∀ env ∈ l', env ∈ callEnvC fd h'.objs.size f :: l) → h''.FunFrames (hideAll h'' ((callEnvC fd h'.objs.size f :: l).filterMap (·.frame))) l' := by
        intro l'
        induction l' with
        | nil => intro _; exact trivial
        | cons env rest ih =>
          intro hm
          obtain ⟨g1, L', o, g2, g3, g4, es, kk, g5⟩ := stk env (hm env (.head _))
          exact ⟨g1, ⟨L', o, g2, hideAll_none _ (List.mem_filterMap.mpr ⟨env, hm env (.head _), g2⟩), g4, fun vs z => by rw [g5] at z; cases z⟩, ih fun e he => hm e (.tail _ he)⟩
      exact go _ fun _ h => h
    refine wpAny_leaves_madeW (base := hideAll h'' ((callEnvC fd h'.objs.size f :: l).filterMap (·.frame))) (h := h'') (e := ex) (cls := .type "StopIteration") (args := []) hfr rfl (fun b o q => of_hideAll _ q) hl2 ⟨M.keeps, M.new, M.there⟩ fun h4 t fly _ _ up => ?_
    obtain ⟨ob, hob, hobc⟩ := fly.there
    refine er ⟨ms', hΨ⟩ l hl ex h4 tk'' (fun b o hb q => ?_) (fun b o q => ?_) ⟨ob, hob, hobc⟩
    · have q2 := back H' b o hb q
      by_cases fb : b ∈ (callEnvC fd h'.objs.size f :: l).filterMap (·.frame)
      · obtain ⟨_, o', q3, es, kk, d⟩ := fm b fb
        rw [q2] at q3
        cases q3
        obtain ⟨sl', q4⟩ := up b o (M.keeps _ _ q2) fun vs z => by rw [d] at z; cases z
        obtain ⟨env, he, hf⟩ := List.mem_filterMap.mp fb
        refine .inr ⟨⟨env, ?_, hf⟩, ⟨es, kk, d⟩, sl', q4⟩
        rcases List.mem_cons.mp he with rfl | he
        · have e1 : h'.objs.size = b := Option.some.inj hf
          exact absurd (Heap.lt_size (kp _ _ q)) (by rw [e1]; exact Nat.lt_irrefl _)
        · exact he
      · exact .inl (fly.1 b o (hideAll_get _ q2 fb))
    · have q2 : h''.get? b = some o := H'.sub b o ((e.le.trans H'.le) b o q)
      refine fly.1 b o (hideAll_get _ q2 fun fb => ?_)
      rw [(fm b fb).1] at q; cases q
end Mine
end

-- C15
section
open PySem PySem.W PyProof.Rows PySem.Calls
set_option maxRecDepth 100000
set_option maxHeartbeats 1000000
namespace Mine
section
variable {c : Cx} {n : Nat} {fr : Fc} {σ : AS} {env : Env}
theorem J_typeInt {v : Value} {i : Int} {Φ : Value → AS → Prop} (hv : Has c σ v (.int i)) (k : Φ (.type "int") σ) : J c n fr σ (call (.type "type") [v]) Φ := fun A r F s H Q q => by
  obtain ⟨t, rfl⟩ := hv _ _ _ H
  exact call_type_of (x := .int i t) (Tx := "int") rfl (by decide) (q _ σ F s.heap s.toks k H)
theorem J_isType {v w : Value} {a b : String} {Φ : Bool → AS → Prop} (hv : Has c σ v (.val (.type a))) (hw : Has c σ w (.val (.type b))) (k : Φ (a == b) σ) : J c n fr σ (isSame v w) Φ := fun A r F s H Q q => by
  obtain rfl : v = .type a := hv _ _ _ H
  obtain rfl : w = .type b := hw _ _ _ H
  have e : (Value.type a == Value.type b) = (a == b) := by
    cases h : a == b with
    | true => rw [beq_iff_eq.mp h]; exact beq_self_eq_true _
    | false => rw [beq_eq_false_iff_ne]; intro z; cases z; simp at h
  show wpAny _ _ (pure (Value.type a == Value.type b)) _ _ _
  rw [e]
  exact wpAny_pure (q _ σ F s.heap s.toks k H)
theorem J_negInt {x : Expr} {pos : Pos} {i : Int} {Φ : Value → AS → Prop} (h : J c n fr σ (eval x env) fun v σ' => Has c σ' v (.int i) ∧ ∀ t, Φ (.int (-i) t) σ') : J c n fr σ (eval (.UnaryOp .USub x pos) env) Φ :=
  J_two (f := fun v => unaryOp .USub v) (fun A s Q q => wpAny_UnaryOp q) (J_mono h fun v σ' z => fun A r F s H Q q => by
    obtain ⟨t, rfl⟩ := z.1 _ _ _ H
    exact neg_int (q _ σ' F s.heap _ (z.2 _) H))
theorem J_lenT {v : Value} {xs : List PV} {Φ : Value → AS → Prop} (hv : Has c σ v (.tup xs)) (hz : xs.length ≤ sizeLine) (k : ∀ t, Φ (.int xs.length t) σ) : J c n fr σ (call (.builtin "len") [v]) Φ := fun A r F s H Q q => by
  obtain ⟨a, vs, nn, rfl, ha, hr⟩ := hv _ _ _ H
  have e1 := hr.length
  rw [sizeLine_is] at hz
  refine len_tuple (items := vs.toArray) ⟨_, H.sub _ _ ha, rfl, nn, rfl⟩ (by rw [List.size_toArray]; omega) ?_
  rw [List.size_toArray, e1]
  exact q _ σ F s.heap _ (k _) H
theorem J_tupleOfT {w : Value} {xs : List PV} {Φ : Value → AS → Prop} (hw : Has c σ w (.tup xs)) (k : Φ w σ) : J c n fr σ (call (.type "tuple") [w]) Φ := fun A r F s H Q q => by
  obtain ⟨a, vs, nn, rfl, ha, hr⟩ := hw _ _ _ H
  exact call_tuple_tup (items := vs.toArray) ⟨_, H.sub _ _ ha, rfl, nn, rfl⟩ (q _ σ F s.heap _ k H)
/-- x op= e, on a name -/
theorem J_AugName {x : Str} {xp pos : Pos} {op : Operator} {value : Expr} {p : PV} {Φ : Flow → AS → Prop} (hl : σ.ρ.lookup x = some p) (h : ∀ v, J c n fr (σ.push v p) (eval value fr.env) fun w σ' => J c n fr σ' (inplaceOp op v w) fun r σ'' => J c n fr σ'' (storeName fr.env x r) fun _ σ₃ => Φ .next σ₃) (hn : (x == ("__classdict__" : Str)) = false := by decide) :
    J c n fr σ (exec (.AugAssign (.Name x xp) op value pos) fr.env) Φ := fun A r F s H Q q => by
  refine wpAny_AugAssign_Name ?_
  obtain ⟨m, cm, L⟩ := H.loc
  obtain ⟨v, rv, z⟩ := L.val x p hl
  have fin : wpAny c.M A (eval value fr.env) (fun w s₂ => wpAny c.M A (inplaceOp op v w) (fun r s₃ => wpAny c.M A (storeName fr.env x r) (fun _ => Q .next) (fun _ _ => False) s₃) (fun _ _ => False) s₂) (fun _ _ => False) s :=
    h v A r F s (H.push rv) _ fun w σ' F' h' tk z1 H1 => z1 A r F' { s with heap := h', toks := tk } H1 _ fun r' σ'' F'' h'' tk' z2 H2 => z2 A r F'' { s with heap := h'', toks := tk' } H2 (fun _ => Q .next) fun u σ₃ F₃ h₃ tk₃ z3 H3 => q _ σ₃ F₃ h₃ tk₃ z3 H3
  rcases z with ⟨z1, z2⟩ | ⟨z1, d, z2, z3, z4⟩ | ⟨z1, d, z2, z3⟩
  · exact wpAny_loadName_local H.kind z1 L.ns z2 fin
  · have := (L.cell x d z3).1
    rw [z4] at this
    exact wpAny_loadName_cell H.kind z1 z2 this fin
  · rcases z1 with z1 | z1
    · exact wpAny_loadName_cell H.kind z1 z2 (H.keep.w.cell z3) fin
    · exact wpAny_loadName_free H.kind z1 z2 (H.keep.w.cell z3) fin hn
theorem J_iaddInt {v w : Value} {x y : Int} {Φ : Value → AS → Prop} (hv : Has c σ v (.int x)) (hw : Has c σ w (.int y)) (k : ∀ t, Φ (.int (x + y) t) σ) : J c n fr σ (inplaceOp .Add v w) Φ := fun A r F s H Q q => by
  obtain ⟨t, rfl⟩ := hv _ _ _ H
  obtain ⟨u, rfl⟩ := hw _ _ _ H
  exact PyProof.Rows.iadd_int (q _ σ F s.heap _ (k _) H)
theorem J_isubInt {v w : Value} {x y : Int} {Φ : Value → AS → Prop} (hv : Has c σ v (.int x)) (hw : Has c σ w (.int y)) (k : ∀ t, Φ (.int (x - y) t) σ) : J c n fr σ (inplaceOp .Sub v w) Φ := fun A r F s H Q q => by
  obtain ⟨t, rfl⟩ := hv _ _ _ H
  obtain ⟨u, rfl⟩ := hw _ _ _ H
  exact PyProof.Rows.isub_int (q _ σ F s.heap _ (k _) H)
end
theorem ct_isInt (c : Cx) (i : Int) : CT c 3 (.ref 277) [.int i] [] (.bool true) := by
  refine CT_def (n := 2) (f := 277) (by rfl) rfl rfl (by rfl) (bind1 (fun a => by rfl)) (by decide) (kindsN (by rfl)) ?_
  intro s₀ F₀ L
  refine J_execs_cons <| J_Assign <| J_CallName <| J_Bt (v := .type "type") (by kernel_rfl) (by rfl) (by decide) (by rfl) <| J_callImm <| J_evalArgs <| J_spliced <| J_name (p := .int i) (by rfl) fun v1 => J_spliced_nil <| J_typeInt (Has.mem (.head _)) <| J_store (p := .val (.type "int")) Has.val (by rfl) (by rfl) ?_
  refine J_execs_cons <| J_return <| J_BoolOp <| J_boolOpOr <| J_Compare <| J_name (p := .val (.type "int")) (by rfl) fun v2 => J_Bt (v := .type "int") (by kernel_rfl) (by rfl) (by decide) (by rfl) <| J_isB (neg := false) <| J_isType (a := "int") (b := "int") (Has.mem (.head _)) Has.val <| J_truthyB ?_
  exact Has.bool
theorem ct_whole (c : Cx) (i : Int) (x : Str) (h0 : 0 ≤ i) (h1 : i ≤ 2) : CT c 6 (.ref 284) [.int i, .int 999999, .str x] [] .none := by
  refine CT_def (n := 5) (f := 284) (by rfl) rfl rfl (by rfl) (bind3 (fun a b d => by rfl)) (by decide) (kindsN (by rfl)) ?_
  intro s₀ F₀ L
  refine J_execs_cons <| J_if <| J_not <| J_isTrue <| J_CallName <| J_G (v := .ref 277) (by kernel_rfl) (by rfl) <| J_callBase (by kernel_rfl) <| J_evalArgs <| J_spliced <| J_name (p := .int i) (by rfl) fun v1 => J_spliced_nil <| J_ct (ct_isInt c i) (by omega) (.cons (Has.mem (.head _)) .nil) fun v2 => J_known (w := .bool true) (Has.bv (Has.mem (.head _))) <| J_truthyB ?_
  refine J_execs_nil <| J_execs_cons <| J_if <| J_isTrueAnd <| J_allOr <| J_isTrueCmp <| J_name (p := .int i) (by rfl) fun v3 => J_name (p := .int 999999) (by rfl) fun v4 => J_gtInt (Has.mem (.tail _ (.head _))) (Has.mem (.head _)) <| J_truthyB ?_
  rw [show decide (999999 < i) = false from decide_eq_false (by omega)]
  refine J_allOr <| J_isTrueCmp <| J_name (p := .int i) (by rfl) fun v5 => J_negInt <| J_int fun t => ⟨Has.int, fun t' => J_ltInt (Has.mem (.head _)) Has.int <| J_truthyB ?_⟩
  rw [show decide (i < -999999) = false from decide_eq_false (by omega)]
  exact J_allOr_nil <| J_execs_nil <| J_execs_nil rfl
end Mine
end

-- C16
section
open PySem PySem.W PyProof.Rows PySem.Calls
set_option maxRecDepth 100000
set_option maxHeartbeats 1000000
namespace Mine
/-- the contract of a call beside what may change -/
def CTp (c : Cx) (n : Nat) (f : Value) (ps : List PV) (κ : List (Value × PV)) (ms : List (Addr × Obj)) (Post : Value → PM → List (Addr × Obj) → Prop) : Prop :=
  ∀ vs A, Room n A → ∀ F s, Base c F → Sub F s.heap → Reps F ps vs → (∀ q ∈ κ, Rep F q.2 q.1) → (∀ q ∈ ms, s.heap.get? q.1 = some q.2 ∧ F q.1 = none) → ∀ Q : Value → Shared → Prop,
    (∀ v F' h' tk ms', ExtOut (addrs ms) s.heap h' → Le F F' → Sub F' h' → (∀ a o, F' a = some o → F a = some o ∨ s.heap.get? a = none) → (∀ q ∈ ms', h'.get? q.1 = some q.2 ∧ F' q.1 = none ∧ (q.1 ∈ addrs ms ∨ s.heap.get? q.1 = none)) → Post v F' ms' → Q v { s with heap := h', toks := tk }) →
    codeAny c.M A (.call f ⟨vs, []⟩) (EndC Q) s
theorem CTp_def {c : Cx} {n : Nat} {f : Addr} {oc : Value} {od : Option Addr} {sl : Array (Option Value)} {fd : FuncData} {body : List Stmt} {ps : List PV} {names : List Str} {pvs : List PV} {κ : List (Value × PV)} {ms : List (Addr × Obj)} {Post : Value → PM → List (Addr × Obj) → Prop}
    (ho : (KK c.w).lookup f = some ⟨oc, od, .func fd, sl⟩) (hb : fd.body = .stmts body) (hcl : fd.closure = []) (hcd : codeIn (KK c.w) fd.code fd.qualname = true)
    (hbind : ∀ vs kvs, Steps c n (bindArgs fd ⟨vs, kvs⟩) (fun F _ => Reps F ps vs ∧ KReps F [] kvs) (fun F _ b => b.map (·.1) = names ∧ Reps F pvs (b.map (·.2))))
    (hnd : names.Nodup) (hkind : ∀ L, ∀ x ∈ names, fd.scope.names.lookup x = some .local ∨ (fd.scope.names.lookup x = some .cell ∧ ((cellsFrom (L + 1) fd.scope.names []).lookup x).isSome = true)) (hmd : ∀ q ∈ ms, NoDict q.2)
    (hJ : ∀ s₀ F₀ L, JP c n ⟨s₀, F₀, callEnvC fd L f, (callEnvC fd L f).cells, [], none⟩ ms ⟨names.zip pvs, none, κ⟩ (execs body (callEnvC fd L f)) (fun fl ms' σ' => (∀ a ∈ addrs ms, a ∈ addrs ms') ∧ ∀ F h fr, Holds c (Fc.wp fr ms') F σ' h → Post (retOf fl) F ms') fun _ => False)
    (hco : fd.scope.isCoroutine = false := by rfl) (hgen : fd.scope.isGenerator = false := by rfl) (hk : fd.scope.kind = .function := by rfl) :
    CTp c (n + 1) (.ref f) ps κ ms Post := fun vs A r F s hB hS hP hκ hms Q q =>
  call_JP ho hb hcl hcd hbind hnd hkind hJ (fun _ _ _ z => z.1) r hB hS hP hκ hms (fun _ => hmd) (fun z => z.elim fun _ z => z.elim) (fun fl ms' σ' F' h' tk fr z H e le sb hn hp => q _ F' h' tk ms' e le sb hn hp (z.2 F' h' fr H)) (R := EndC Q)
    (fun z => z.elim fun _ z => z.elim) hco hgen hk
section
variable {c : Cx} {n : Nat} {fr : Fc} {σ : AS} {ms : List (Addr × Obj)}
theorem J_ctp {m : Nat} {f : Value} {vs : List Value} {ps : List PV} {κ : List (Value × PV)} {p : PV} {Φ : Value → AS → Prop} (h : CTp c m f ps κ ms fun v F ms' => ms' = ms ∧ Rep F p v) (hm : m ≤ n) (ha : HasAll c σ vs ps) (hκ : ∀ q ∈ κ, Has c σ q.1 q.2) (hs : fr.stk = none) (k : ∀ v, Φ v (σ.push v p)) : J c n (fr.wp ms) σ (call f vs) Φ := fun A r F s H Q q => by
  obtain ⟨m', cm, L⟩ := H.loc
  refine wpAny_call (codeAny_mono (h vs A (r.mono hm) F s H.baseF H.sub (ha.reps H) (fun q hq => hκ q hq _ _ _ H) (fun q hq => ⟨(L.pin q hq).1, (L.pin q hq).2.1⟩) Q fun v F' h' tk ms' e le sb hn hp z => ?_) fun r s' z => by
      rcases r with e | (v | _ | _ | _) <;> first | exact z | exact z.elim)
  obtain ⟨rfl, rv⟩ := z
  exact q v (σ.push v p) F' h' tk (k v) (Holds.push (H.stepPins hs e le sb hn hp) rv)
end
def PickI (ys xs : List PV) (ix : Addr) (k : Nat) (σ : AS) : Prop := ∃ j, j ≤ ys.length ∧ k = ys.length - j ∧ (∃ a : Addr, σ.own = some (("result" : Str), a, ys.take j)) ∧ σ.ρ.lookup ("i" : Str) = some (.int (j : Int)) ∧ σ.ρ.lookup ("pool" : Str) = some (.tup xs) ∧ σ.ρ.lookup ("indices" : Str) = some (.val (.ref ix)) ∧ σ.ρ.lookup ("r" : Str) = some (.int (ys.length : Int))
theorem ct_picked (c : Cx) (xs ys : List PV) (ms : List (Addr × Obj)) (hmd : ∀ q ∈ ms, NoDict q.2) (ix : Addr) (lo : Obj) (vs : List Value) (hm : (ix, lo) ∈ ms) (hlo : ListO lo vs) (hv : ∀ (j : Nat) (p : PV), ys[j]? = some p → ∃ (k : Nat) (t : Tok), vs[j]? = some (Value.int k t) ∧ k < 1000 ∧ xs[k]? = some p) (hy : ys.length ≤ 1000) (hx : xs.length ≤ 1000) (κ : List (Value × PV)) :
    CTp c 6 (.ref 291) [.tup xs, .val (.ref ix), .int ys.length] κ ms fun v F ms' => ms' = ms ∧ Rep F (.tup ys) v := by
  refine CTp_def (n := 5) (f := 291) (by rfl) rfl rfl (by rfl) (bind3 (fun a b d => by rfl)) (by decide) (kindsN (by rfl)) hmd ?_
  intro s₀ F₀ L
  refine JP_lift (J_mono (Φ := fun fl σ' => ∃ v, fl = .ret v ∧ Has c σ' v (.tup ys)) ?_ fun fl σ' z => ⟨fun a h => h, fun F h fr H => ⟨rfl, by obtain ⟨v, rfl, hv⟩ := z; exact hv _ _ _ H⟩⟩)
  refine J_execs_cons (J_assignOwn (J_spliced_nil ⟨by rfl, [], .nil, Nat.zero_le _, fun l => ?_⟩) (by rfl))
  refine J_execs_cons <| J_Assign <| J_int fun t0 => J_store (p := .int 0) Has.int (by rfl) (by rfl) ?_
  refine J_execs_cons (J_mono (Φ := fun fl σ => fl = .next ∧ ∃ a : Addr, σ.own = some (("result" : Str), a, ys)) ?_ fun fl σ z => ?_)
  · refine J_while (PickI ys xs ix) (fun k σ hI => ?_) (ys.length) ⟨0, Nat.zero_le _, rfl, ⟨l, by rfl⟩, by rfl, by rfl, by rfl, by rfl⟩
    obtain ⟨j, hj, rfl, ⟨a, hown⟩, hi, hp, hix, hr⟩ := hI
    refine J_isTrueCmp <| J_name hi fun v1 => J_name hr fun v2 => J_ltInt (Has.mem (.tail _ (.head _))) (Has.mem (.head _)) <| J_truthyB ?_
    by_cases hlt : j < ys.length
    · rw [show decide ((j : Int) < (ys.length : Int)) = true from decide_eq_true (by omega)]
      obtain ⟨k, t, hk, hk2, hk3⟩ := hv j ys[j] (List.getElem?_eq_getElem hlt)
      have hkx : k < xs.length := by
        rcases Nat.lt_or_ge k xs.length with h | h
        · exact h
        · rw [List.getElem?_eq_none h] at hk3; cases hk3
      refine J_execs_cons <| J_Expr <| J_CallAttr <| J_nameOwn hown <| J_calleeFew fun pl => J_methOwn hown PySem.F.slot_list_append PySem.F.type_list_append <| J_callImm <| J_evalArgs <| J_spliced <| J_Subscript <| J_name hp fun v3 => J_Subscript <| J_name hix fun v4 => J_name hi fun v5 => J_tailPin (Has.mem (.tail _ (.head _))) hm hlo (Has.mem (.head _)) (by simpa using hk) (hb := ⟨by omega, by omega⟩) ?_
      refine J_tailT (k := (k : Int)) (j := k) (Has.mem (by simp)) Has.int (seq_at k _ hkx) hk3 (fun v6 => J_spliced_nil <| J_append hown (Has.mem (.head _)) (by rw [List.length_take, sizeLine_is]; omega) ⟨none_noRef, ?_⟩) (hb := ⟨by omega, by omega⟩)
      refine J_execs_cons <| J_AugName hi fun v7 => J_int fun t1 => J_iaddInt (Has.mem (.head _)) Has.int fun t2 => J_store (p := .int ((j : Int) + 1)) Has.int (by rfl) (by rfl) <| J_execs_nil ⟨ys.length - (j + 1), by omega, j + 1, hlt, rfl, ⟨a, ?_⟩, by rfl, hp, hix, hr⟩
      rw [List.take_succ_eq_append_getElem hlt]
    · rw [show decide ((j : Int) < (ys.length : Int)) = false from decide_eq_false (by omega)]
      have : j = ys.length := by omega
      subst this
      exact J_execs_nil ⟨rfl, a, by rw [hown, List.take_length]⟩
  · obtain ⟨rfl, a, hown⟩ := z
    refine J_freeze hown <| J_execs_cons <| J_return <| J_CallName <| J_Bt (v := .type "tuple") (by kernel_rfl) (by rfl) (by decide) (by rfl) <| J_callImm <| J_evalArgs <| J_spliced <| J_name (p := .lst ys) (by rfl) fun v1 => J_spliced_nil <| J_tupleOfL (Has.mem (.head _)) (by omega) fun w => ⟨_, rfl, Has.mem (.head _)⟩
end Mine
end

-- C17
section
open PySem PySem.W PyProof.Rows PySem.Calls
set_option maxRecDepth 100000
set_option maxHeartbeats 1000000
namespace Mine
section
variable {c : Cx} {n : Nat} {fr : Fc} {σ : AS} {ms : List (Addr × Obj)}
/-- a call whose answer is one value -/
theorem J_ctVal {m : Nat} {f w : Value} {vs : List Value} {ps : List PV} {p : PV} {Φ : Value → AS → Prop} (h : CT c m f ps [] p) (hm : m ≤ n) (ha : HasAll c σ vs ps) (hp : ∀ F v, Rep F p v → v = w) (k : Φ w σ) : J c n fr σ (call f vs []) Φ := fun A r F s H Q q =>
  wpAny_call (codeAny_mono (h vs [] A (r.mono hm) F s H.baseF H.sub (ha.reps H) KReps.nil Q fun v F' h' tk kp e rv => by
    obtain rfl := hp F' v rv
    exact q v σ F' h' tk k (H.step kp e)) fun r s' z => by
    rcases r with e | (v | _ | _ | _) <;> first | exact z | exact z.elim)
abbrev rangeObj (a b d : Int) (t u v : Tok) : Obj := { cls := .type "range", data := .fields #[.int a t, .int b u, .int d v] }
theorem J_range1 {v : Value} {i : Int} {Φ : Value → AS → Prop} (hv : Has c σ v (.int i)) (k : ∀ w t u z, Φ w (σ.push w (.raw (rangeObj 0 i 1 t u z)))) : J c n fr σ (call (.type "range") [v]) Φ := fun A r F s H Q q => by
  obtain ⟨t, rfl⟩ := hv _ _ _ H
  have ee := Ext.alloc H.sub (rangeObj 0 i 1 s.toks t (s.toks + 1)) rfl
  exact call_range_1 (q (.ref s.heap.objs.size) _ _ _ _ (k _ s.toks t (s.toks + 1)) ((H.step (Kp.push _ _) ee).push ⟨_, rfl, put_self _ _ _⟩))
theorem small_range {r : Nat} (h : r ≤ 2) : Builtin.Range.small 0 r 1 = true ∧ Builtin.Range.rangeSize 0 r 1 = r := by
  match r, h with
  | 0, _ => exact ⟨by decide +kernel, by decide +kernel⟩
  | 1, _ => exact ⟨by decide +kernel, by decide +kernel⟩
  | 2, _ => exact ⟨by decide +kernel, by decide +kernel⟩
theorem JP_listRange {v : Value} {r : Nat} {t u z : Tok} {Φ : Value → List (Addr × Obj) → AS → Prop} {Ψ : List (Addr × Obj) → Prop} (hv : Has c σ v (.raw (rangeObj 0 r 1 t u z))) (hr : r ≤ 2) (hs : fr.stk = none)
    (k : ∀ ix lo vs, ListO lo vs → vs.length = r → (∀ (j : Nat) (w : Value), vs[j]? = some w → ∃ t, w = .int j t) → (∀ q ∈ ms, q.1 ≠ ix) → Φ (.ref ix) (ms ++ [(ix, lo)]) σ) : JP c n fr ms σ (call (.type "list") [v]) Φ Ψ := fun A rm F s H Q E q e => by
  obtain ⟨a, rfl, ha⟩ := hv _ _ _ H
  refine call_list_range rm.1.2.2 (H.sub _ _ ha) (small_range hr).1 (small_range hr).2 (by omega) fun h' tk acc' c' hk hS hI => ?_
  obtain ⟨m, cm, L⟩ := H.loc
  have nx : s.heap.get? s.heap.objs.size = none := none_size _
  have hne : ∀ q ∈ ms, q.1 ≠ s.heap.objs.size := fun q hq e => by
    have := (L.pin q hq).1
    rw [e, nx] at this; cases this
  refine q _ _ σ F h' tk (k s.heap.objs.size { cls := .type "list", dict := none, data := .seq acc' c', slots := #[] } acc'.toList ⟨rfl, c', by simp⟩ (by simpa using hI.1) (fun j w hw => ?_) hne) (H.stepPins hs (fun b o _ q => hk b o q) (Le.refl _) (H.sub.kp hk) (fun _ _ z => .inl z) fun z hz => ?_)
  · obtain ⟨t, e⟩ := hI.2 j w (by simpa using hw)
    exact ⟨t, by simpa using e⟩
  · rcases List.mem_append.mp hz with hz | hz
    · have z2 := L.pin z hz
      exact ⟨hk _ _ z2.1, z2.2.1, .inl (List.mem_map_of_mem hz)⟩
    · obtain rfl := List.mem_singleton.mp hz
      exact ⟨hS, H.sub.off nx, .inr nx⟩
end
def InitPost (x dx : Addr) (xs : List PV) (r : Nat) (v : Value) (F : PM) (ms' : List (Addr × Obj)) : Prop := v = .none ∧ ∃ ix lo vs pv tr, ms' = [(x, slotObj dx [some (.bool true), some (.ref ix), some pv, some (.int r tr), some (.bool (decide ((xs.length : Int) < r)))]), (ix, lo)] ∧ ListO lo vs ∧ vs.length = r ∧
  (∀ (j : Nat) (w : Value), vs[j]? = some w → ∃ t, w = .int j t) ∧ Rep F (.tup xs) pv ∧ x ≠ ix
theorem slot_nd (dx : Addr) (sl : List (Option Value)) : NoDict (slotObj dx sl) := fun es k e => by cases e
theorem ct_cmbInit (c : Cx) (x dx : Addr) (xs : List PV) (r : Nat) (hr : r ≤ 2) (hx : xs.length ≤ 1000) : CTp c 10 (.ref 306) [.val (.ref x), .tup xs, .int r] [(.ref dx, .raw emptyDict)] [(x, slotObj dx [])] (InitPost x dx xs r) := by
  refine CTp_def (n := 9) (f := 306) (by rfl) rfl rfl (by rfl) (bind3 (fun a b d => by rfl)) (by decide) (kindsN (by rfl)) (fun q hq => by rcases List.mem_cons.mp hq with rfl | hq; exact slot_nd _ _; cases hq) ?_
  intro s₀ F₀ L
  refine JP_execs_cons <| JP_lift <| J_Expr <| J_CallName <| J_G (v := .ref 284) (by kernel_rfl) (by rfl) <| J_callBase (by kernel_rfl) <| J_evalArgs <| J_spliced <| J_name (p := .int r) (by rfl) fun v1 => J_spliced <| J_int fun t1 => J_spliced <| J_str fun t2 => J_spliced_nil <| J_ctVal (w := .none) (ct_whole c r _ (by omega) (by omega)) (by omega) (.cons (Has.mem (.head _)) (.cons Has.int (.cons Has.str .nil))) (fun F v h => h) ⟨none_noRef, ?_⟩
  refine JP_execs_cons <| JP_lift <| J_Assign <| J_CallName <| J_Bt (v := .type "tuple") (by kernel_rfl) (by rfl) (by decide) (by rfl) <| J_callImm <| J_evalArgs <| J_spliced <| J_name (p := .tup xs) (by rfl) fun v2 => J_spliced_nil <| J_tupleOfT (Has.mem (.head _)) <| J_store (p := .tup xs) (Has.mem (.head _)) (by rfl) (by rfl) ?_
  refine JP_execs_cons <| JP_if <| J_isTrueCmp <| J_name (p := .int r) (by rfl) fun v3 => J_int fun t3 => J_ltInt (Has.mem (.head _)) Has.int <| J_truthyB ?_
  rw [show decide ((r : Int) < 0) = false from decide_eq_false (by omega)]
  refine JP_execs_nil ?_
  refine JP_execs_cons <| JP_Assign1 <| JP_lift <| J_name (p := .tup xs) (by rfl) fun v4 => JP_assignAttr <| J_name (p := .val (.ref x)) (by rfl) fun v5 => JP_setSlot (p := 327) (rest := []) (i := 2) rfl (by simp) rfl (Has.mem (.head _)) (Has.mem (by simp)) (by kernel_rfl) (by kernel_rfl) (by kernel_rfl) (by decide) ?_
  refine JP_execs_cons <| JP_Assign1 <| JP_CallName <| J_Bt (v := .type "list") (by kernel_rfl) (by rfl) (by decide) (by rfl) <| JP_callImm <| JP_lift <| J_evalArgs <| J_spliced <| J_CallName <| J_Bt (v := .type "range") (by kernel_rfl) (by rfl) (by decide) (by rfl) <| J_callImm <| J_evalArgs <| J_spliced <| J_name (p := .int r) (by rfl) fun v6 => J_spliced_nil <| J_range1 (Has.mem (.head _)) fun v7 t4 t5 t6 => J_spliced_nil <| JP_listRange (Has.mem (.head _)) hr rfl fun ix lo vs hlo hl hvs hne => ?_
  have hxi : ix ≠ x := fun e => hne (x, _) (.head _) e.symm
  refine JP_assignAttr <| J_name (p := .val (.ref x)) (by rfl) fun v8 => JP_setSlot (p := 326) (rest := [(ix, lo)]) (i := 1) rfl (by simpa using hxi) rfl (Has.mem (.head _)) (Has.mem (by simp)) (by kernel_rfl) (by kernel_rfl) (by kernel_rfl) (by decide) ?_
  refine JP_execs_cons <| JP_Assign1 <| JP_lift <| J_BinOp <| J_name (p := .int r) (by rfl) fun v9 => J_int fun t7 => J_addInt (Has.mem (.head _)) Has.int fun t8 => JP_assignAttr <| J_name (p := .val (.ref x)) (by rfl) fun v10 => JP_setSlot (p := 328) (rest := [(ix, lo)]) (i := 3) rfl (by simpa using hxi) rfl (Has.mem (.head _)) (Has.mem (by simp)) (by kernel_rfl) (by kernel_rfl) (by kernel_rfl) (by decide) ?_
  refine JP_execs_cons <| JP_Assign1 <| JP_lift <| J_bool <| JP_assignAttr <| J_name (p := .val (.ref x)) (by rfl) fun v11 => JP_setSlot (p := 325) (rest := [(ix, lo)]) (i := 0) rfl (by simpa using hxi) rfl (Has.mem (.head _)) (Has.mem (by simp)) (by kernel_rfl) (by kernel_rfl) (by kernel_rfl) (by decide) ?_
  refine JP_execs_cons <| JP_Assign1 <| JP_lift <| J_Compare <| J_name (p := .int r) (by rfl) fun v12 => J_CallName <| J_Bt (v := .builtin "len") (by kernel_rfl) (by rfl) (by decide) (by rfl) <| J_callImm <| J_evalArgs <| J_spliced <| J_name (p := .tup xs) (by rfl) fun v13 => J_spliced_nil <| J_lenT (Has.mem (.head _)) (by rw [sizeLine_is]; omega) fun t9 => J_gtInt (Has.mem (.tail _ (.head _))) Has.int <| JP_assignAttr <| J_name (p := .val (.ref x)) (by rfl) fun v14 => JP_setSlot (p := 329) (rest := [(ix, lo)]) (i := 4) rfl (by simpa using hxi) rfl (Has.mem (.head _)) (Has.mem (by simp)) (by kernel_rfl) (by kernel_rfl) (by kernel_rfl) (by decide) ?_
  refine JP_execs_nil ⟨fun a ha => ?_, fun F h fr H => ⟨rfl, ix, lo, vs, v4, t8, ?_, hlo, hl, hvs, H.tmp (v4, .tup xs) (by simp), Ne.symm hxi⟩⟩
  · simpa [addrs] using .inl (by simpa [addrs] using ha)
  · simp [setAt]
end Mine
end

-- C18
section
open PySem PySem.W PyProof.Rows PySem.Calls
set_option maxRecDepth 100000
set_option maxHeartbeats 1000000
namespace Mine
section
variable {c : Cx} {n : Nat} {fr : Fc} {σ : AS} {ms : List (Addr × Obj)} {env : Env}
theorem J_getItemPin {o i v : Value} {l : Addr} {lo : Obj} {vs : List Value} {k : Int} {Φ : Value → AS → Prop} (ho : Has c σ o (.val (.ref l))) (hm : (l, lo) ∈ fr.pin) (hlo : ListO lo vs) (hi : Has c σ i (.int k)) (hp : vs[k.toNat]? = some v) (q : Φ v σ) (hb : 0 ≤ k ∧ k < 1000000 := by decide) : J c n fr σ (getItem o i) Φ := fun A r F s H Q q' => by
  obtain rfl : o = .ref l := ho _ _ _ H
  obtain ⟨t, rfl⟩ := hi _ _ _ H
  exact wpAny_getItem_list (⟨_, H.pinAt hm, hlo.1, hlo.2⟩ : s.heap.IsList l vs.toArray) (by omega) (by omega) (by simpa using hp) (q' v σ F s.heap s.toks q H)
theorem JP_setItemH {o i : Value} {l : Addr} {lo : Obj} {vs : List Value} {k : Int} {v : Value} {pre rest : List (Addr × Obj)} {Φ : Unit → List (Addr × Obj) → AS → Prop} {Ψ : List (Addr × Obj) → Prop} (ho : Has c σ o (.val (.ref l))) (hi : Has c σ i (.int k)) (hms : ms = pre ++ (l, lo) :: rest) (hlo : ListO lo vs) (hpr : ∀ q ∈ pre, q.1 ≠ l) (hr : ∀ q ∈ rest, q.1 ≠ l) (hs : fr.stk = none) (hk : 0 ≤ k ∧ k < vs.length) (hk2 : k < 1000000)
    (kont : ∀ lo', ListO lo' (vs.set k.toNat v) → Φ () (pre ++ (l, lo') :: rest) σ) : JP c n fr ms σ (setItem o i v) Φ Ψ := fun A r F s H Q E q e => by
  obtain rfl : o = .ref l := ho _ _ _ H
  obtain ⟨t, rfl⟩ := hi _ _ _ H
  exact JP_setItem hms hlo hpr hr hs hk hk2 kont A r F s H Q E q e
theorem JP_AugSub {o i value : Expr} {tpos pos : Pos} {op : Operator} {Φ : Flow → List (Addr × Obj) → AS → Prop} {Ψ : List (Addr × Obj) → Prop}
    (h : J c n (fr.wp ms) σ (eval o env) fun ov σ1 => J c n (fr.wp ms) σ1 (eval i env) fun iv σ2 => J c n (fr.wp ms) σ2 (getItem ov iv) fun old σ3 => J c n (fr.wp ms) σ3 (eval value env) fun v σ4 => J c n (fr.wp ms) σ4 (inplaceOp op old v) fun new σ5 => JP c n fr ms σ5 (setItem ov iv new) (fun _ ms' σ' => Φ .next ms' σ') Ψ)
    (hi : ∀ ov iv new, augStore i ov iv new = (do holding [new, ov, iv] (setItem ov iv new); release [new, ov, iv] []; pure .next) := by intros; rfl) : JP c n fr ms σ (exec (.AugAssign (.Subscript o i tpos) op value pos) env) Φ Ψ := by
  have e : exec (.AugAssign (.Subscript o i tpos) op value pos) env = (do
      standAt pos
      let ov ← eval o env
      let iv ← holding [ov] (eval i env)
      let new ← holding [ov, iv] do
        standAt tpos
        let old ← getItem ov iv
        let v ← holding [old] (eval value env)
        standAt pos
        operate [old, v] (inplaceOp op old v)
      standAt tpos
      augStore i ov iv new) := rfl
  rw [e]
  refine JP_bind <| JP_lift <| J_standAt <| JP_bind <| JP_lift <| J_mono h fun ov σ1 h => JP_bind <| JP_holding <| JP_lift <| J_mono h fun iv σ2 h => JP_bind <| JP_holding <| JP_bind <| JP_lift <| J_standAt <| JP_bind <| JP_lift <| J_mono h fun old σ3 h => JP_bind <| JP_holding <| JP_lift <| J_mono h fun v σ4 h => JP_bind <| JP_lift <| J_standAt <| JP_operate <| JP_lift <| J_mono h fun new σ5 h => ?_
  rw [hi]
  exact JP_bind <| JP_lift <| J_standAt <| JP_bind <| JP_holding <| JP_mono h fun u ms' σ6 z => JP_bind <| JP_lift <| J_release <| JP_pure z
end
def cmb (dx ix pa : Addr) (r : Int) (tr : Tok) (first : Bool) (stop : Bool) : Obj := slotObj dx [some (.bool first), some (.ref ix), some (.ref pa), some (.int r tr), some (.bool stop)]
theorem cmb_nd (dx ix pa : Addr) (r : Int) (tr : Tok) (f g : Bool) : NoDict (cmb dx ix pa r tr f g) := slot_nd _ _
/-- the first turn -/
theorem ct_next1 (c : Cx) (x dx ix pa : Addr) (r : Nat) (tr : Tok) (xs ys : List PV) (lo : Obj) (vs : List Value) (hlo : ListO lo vs) (hv : ∀ (j : Nat) (p : PV), ys[j]? = some p → ∃ (k : Nat) (t : Tok), vs[j]? = some (Value.int k t) ∧ k < 1000 ∧ xs[k]? = some p) (hr : r = ys.length) (hy : ys.length ≤ 1000) (hx : xs.length ≤ 1000) (hxi : x ≠ ix) :
    CTp c 10 (.ref 320) [.val (.ref x)] [(.ref dx, .raw emptyDict), (.ref pa, .tup xs)] [(x, cmb dx ix pa r tr true false), (ix, lo)] fun v F ms' => ms' = [(x, cmb dx ix pa r tr false false), (ix, lo)] ∧ Rep F (.tup ys) v := by
  subst hr
  refine CTp_def (n := 9) (f := 320) (by rfl) rfl rfl (by rfl) (bind1 (fun a => by rfl)) (by decide) (kindsN (by rfl)) (fun q hq => by rcases List.mem_cons.mp hq with rfl | hq; exact cmb_nd _ _ _ _ _ _ _; obtain rfl := List.mem_singleton.mp hq; exact hlo.nd) ?_
  intro s₀ F₀ L
  refine JP_execs_cons <| JP_if <| J_isTrue <| J_Attribute <| J_name (p := .val (.ref x)) (by rfl) fun v1 => J_getSlot (p := 329) (i := 4) (Has.mem (.head _)) (.head _) (Has.mem (by simp)) (by kernel_rfl) (by kernel_rfl) rfl rfl <| J_truthyB ?_
  refine JP_execs_nil ?_
  refine JP_execs_cons <| JP_lift <| J_Assign <| J_Attribute <| J_name (p := .val (.ref x)) (by rfl) fun v2 => J_getSlot (p := 327) (i := 2) (Has.mem (.head _)) (.head _) (Has.mem (by simp)) (by kernel_rfl) (by kernel_rfl) rfl rfl <| J_store (p := .tup xs) (Has.mem (by simp)) (by rfl) (by rfl) ?_
  refine JP_execs_cons <| JP_lift <| J_Assign <| J_Attribute <| J_name (p := .val (.ref x)) (by rfl) fun v3 => J_getSlot (p := 326) (i := 1) (Has.mem (.head _)) (.head _) (Has.mem (by simp)) (by kernel_rfl) (by kernel_rfl) rfl rfl <| J_store (p := .val (.ref ix)) Has.val (by rfl) (by rfl) ?_
  refine JP_execs_cons <| JP_lift <| J_Assign <| J_CallName <| J_Bt (v := .builtin "len") (by kernel_rfl) (by rfl) (by decide) (by rfl) <| J_callImm <| J_evalArgs <| J_spliced <| J_name (p := .tup xs) (by rfl) fun v4 => J_spliced_nil <| J_lenT (Has.mem (.head _)) (by rw [sizeLine_is]; omega) fun t1 => J_store (p := .int xs.length) Has.int (by rfl) (by rfl) ?_
  refine JP_execs_cons <| JP_lift <| J_Assign <| J_Attribute <| J_name (p := .val (.ref x)) (by rfl) fun v5 => J_getSlot (p := 328) (i := 3) (Has.mem (.head _)) (.head _) (Has.mem (by simp)) (by kernel_rfl) (by kernel_rfl) rfl rfl <| J_store (p := .int ys.length) Has.int (by rfl) (by rfl) ?_
  refine JP_execs_cons <| JP_if <| J_isTrue <| J_Attribute <| J_name (p := .val (.ref x)) (by rfl) fun v6 => J_getSlot (p := 325) (i := 0) (Has.mem (.head _)) (.head _) (Has.mem (by simp)) (by kernel_rfl) (by kernel_rfl) rfl rfl <| J_truthyB ?_
  refine JP_execs_cons <| JP_Assign1 <| JP_lift <| J_bool <| JP_assignAttr <| J_name (p := .val (.ref x)) (by rfl) fun v7 => JP_setSlot (p := 325) (dx := dx) (sl := [some (.bool true), some (.ref ix), some (.ref pa), some (.int ys.length tr), some (.bool false)]) (rest := [(ix, lo)]) (i := 0) rfl (by simpa using Ne.symm hxi) rfl (Has.mem (.head _)) (Has.mem (by simp)) (by kernel_rfl) (by kernel_rfl) (by kernel_rfl) (by decide) ?_
  refine JP_execs_nil ?_
  refine JP_execs_cons <| JP_lift <| J_return <| J_CallName <| J_G (v := .ref 291) (by kernel_rfl) (by rfl) <| J_callBase (by kernel_rfl) <| J_evalArgs <| J_spliced <| J_name (p := .tup xs) (by rfl) fun v8 => J_spliced <| J_name (p := .val (.ref ix)) (by rfl) fun v9 => J_spliced <| J_name (p := .int ys.length) (by rfl) fun v10 => J_spliced_nil ?_
  refine J_ctp (ct_picked c xs ys _ (fun q hq => by rcases List.mem_cons.mp hq with rfl | hq; exact slot_nd _ _; obtain rfl := List.mem_singleton.mp hq; exact hlo.nd) ix lo vs (.tail _ (.head _)) hlo hv hy hx []) (by omega) (.cons (Has.mem (by simp)) (.cons (Has.mem (by simp)) (.cons (Has.mem (by simp)) .nil))) (fun q hq => (nomatch hq)) rfl fun v11 => ?_
  exact ⟨fun a ha => by simpa [addrs] using ha, fun F h fr H => ⟨by simp [setAt, cmb], H.tmp (v11, .tup ys) (.head _)⟩⟩
end Mine
end

-- C19
section
open PySem PySem.W PyProof.Rows PySem.Calls
set_option maxRecDepth 100000
set_option maxHeartbeats 1000000
namespace Mine
/-- whether index j stands at its last place -/
def AtEnd (vs : List Value) (n r j : Nat) : Prop := ∃ t, vs[j]? = some (.int (j + n - r) t)
def NextI (x : Addr) (xs : List PV) (vs : List Value) (ix : Addr) (r k : Nat) (σ : AS) : Prop := σ.ρ.lookup ("self" : Str) = some (.val (.ref x)) ∧ k ≤ r ∧ (∀ j, k ≤ j → j < r → AtEnd vs xs.length r j) ∧ σ.own = none ∧ σ.ρ.lookup ("i" : Str) = some (.int ((k : Int) - 1)) ∧ σ.ρ.lookup ("n" : Str) = some (.int (xs.length : Int)) ∧ σ.ρ.lookup ("pool" : Str) = some (.tup xs) ∧ σ.ρ.lookup ("indices" : Str) = some (.val (.ref ix)) ∧ σ.ρ.lookup ("r" : Str) = some (.int (r : Int))
/-- a later turn: the last of one out of two, or the end -/
theorem call_next2 (c : Cx) (stop : Bool) (x dx ix pa : Addr) (r : Nat) (tr : Tok) (xs : List PV) (lo : Obj) (vs : List Value) (hlo : ListO lo vs) (hvl : vs.length = r) (hvi : ∀ (j : Nat) (w : Value), vs[j]? = some w → ∃ (i : Int) (t : Tok), w = .int i t) (hr : r ≤ 2) (hx : xs.length ≤ 1000) (hxi : x ≠ ix)
    (hend : stop = true → ∀ j, j < r → AtEnd vs xs.length r j) (hgo : stop = false → r = 1 ∧ (∃ t, vs = [.int 0 t]) ∧ xs.length = 2)
    {ws : List Value} {A : Around} (rm : Room 10 A) {F : PM} {s : Shared} (hB : Base c F) (hS : Sub F s.heap) (hP : Reps F [.val (.ref x)] ws) (hd : F dx = some emptyDict) (hp : Rep F (.tup xs) (.ref pa)) (h1 : s.heap.get? x = some (cmb dx ix pa r tr false false) ∧ F x = none) (h2 : s.heap.get? ix = some lo ∧ F ix = none)
    (hst : stop = true → ∃ l, A.frames = some l ∧ StkL l F s.heap) {R : Result → Shared → Prop}
    (ok : stop = false → ∀ v lo' t q F' h' tk, xs[1]? = some q → ExtOut [x, ix] s.heap h' → Le F F' → Sub F' h' → (∀ a o, F' a = some o → F a = some o ∨ s.heap.get? a = none) → h'.get? x = some (cmb dx ix pa r tr false false) → h'.get? ix = some lo' → ListO lo' [.int 1 t] → F' x = none → F' ix = none → Rep F' (.tup [q]) v → R (.ok (.ret v)) { s with heap := h', toks := tk })
    (er : stop = true → ∀ l, A.frames = some l → ∀ e h' tk, KwOut l [x, ix] s.heap h' → Sub F h' → (∃ o, h'.get? e = some o ∧ o.cls = .type "StopIteration") → R (.error (.ref e)) { s with heap := h', toks := tk }) :
    codeAny c.M A (.call (.ref 320) ⟨ws, []⟩) R s := by
  refine call_JP (n := 9) (f := 320) (ms := [(x, cmb dx ix pa r tr false false), (ix, lo)]) (κ := [(.ref dx, .raw emptyDict), (.ref pa, .tup xs)])
    (Φ := fun fl ms' σ' => stop = false ∧ ∃ v lo' t q, fl = .ret v ∧ xs[1]? = some q ∧ ms' = [(x, cmb dx ix pa r tr false false), (ix, lo')] ∧ ListO lo' [.int 1 t] ∧ Has c σ' v (.tup [q])) (Ψ := fun _ => stop = true)
    (by rfl) rfl rfl (by rfl) (bind1 (fun a => by rfl)) (by decide) (kindsN (by rfl)) ?_ (fun fl ms' σ' z a ha => by obtain ⟨_, v, lo', t, q, _, _, rfl, _⟩ := z; simpa [addrs] using ha) rm hB hS hP
    (fun q hq => by rcases List.mem_cons.mp hq with rfl | hq; exact ⟨dx, rfl, hd⟩; obtain rfl := List.mem_singleton.mp hq; exact hp)
    (fun q hq => by rcases List.mem_cons.mp hq with rfl | hq; exact h1; obtain rfl := List.mem_singleton.mp hq; exact h2)
    (fun _ q hq => by rcases List.mem_cons.mp hq with rfl | hq; exact cmb_nd _ _ _ _ _ _ _; obtain rfl := List.mem_singleton.mp hq; exact hlo.nd)
    (fun z => z.elim fun _ z => hst z) (fun fl ms' σ' F' h' tk fr z H e le sb hn hq => ?_) (fun z => z.elim fun _ z => er z)
  · intro s₀ F₀ L
    refine JP_execs_cons <| JP_if <| J_isTrue <| J_Attribute <| J_name (p := .val (.ref x)) (by rfl) fun v1 => J_getSlot (p := 329) (i := 4) (Has.mem (.head _)) (.head _) (Has.mem (by simp)) (by kernel_rfl) (by kernel_rfl) rfl rfl <| J_truthyB ?_
    refine JP_execs_nil ?_
    refine JP_execs_cons <| JP_lift <| J_Assign <| J_Attribute <| J_name (p := .val (.ref x)) (by rfl) fun v2 => J_getSlot (p := 327) (i := 2) (Has.mem (.head _)) (.head _) (Has.mem (by simp)) (by kernel_rfl) (by kernel_rfl) rfl rfl <| J_store (p := .tup xs) (Has.mem (by simp)) (by rfl) (by rfl) ?_
    refine JP_execs_cons <| JP_lift <| J_Assign <| J_Attribute <| J_name (p := .val (.ref x)) (by rfl) fun v3 => J_getSlot (p := 326) (i := 1) (Has.mem (.head _)) (.head _) (Has.mem (by simp)) (by kernel_rfl) (by kernel_rfl) rfl rfl <| J_store (p := .val (.ref ix)) Has.val (by rfl) (by rfl) ?_
    refine JP_execs_cons <| JP_lift <| J_Assign <| J_CallName <| J_Bt (v := .builtin "len") (by kernel_rfl) (by rfl) (by decide) (by rfl) <| J_callImm <| J_evalArgs <| J_spliced <| J_name (p := .tup xs) (by rfl) fun v4 => J_spliced_nil <| J_lenT (Has.mem (.head _)) (by rw [sizeLine_is]; omega) fun t1 => J_store (p := .int xs.length) Has.int (by rfl) (by rfl) ?_
    refine JP_execs_cons <| JP_lift <| J_Assign <| J_Attribute <| J_name (p := .val (.ref x)) (by rfl) fun v5 => J_getSlot (p := 328) (i := 3) (Has.mem (.head _)) (.head _) (Has.mem (by simp)) (by kernel_rfl) (by kernel_rfl) rfl rfl <| J_store (p := .int r) Has.int (by rfl) (by rfl) ?_
    refine JP_execs_cons <| JP_if <| J_isTrue <| J_Attribute <| J_name (p := .val (.ref x)) (by rfl) fun v6 => J_getSlot (p := 325) (i := 0) (Has.mem (.head _)) (.head _) (Has.mem (by simp)) (by kernel_rfl) (by kernel_rfl) rfl rfl <| J_truthyB ?_
    refine JP_execs_cons <| JP_lift <| J_Assign <| J_BinOp <| J_name (p := .int r) (by rfl) fun v7 => J_int fun t2 => J_subInt (Has.mem (.head _)) Has.int fun t3 => J_store (p := .int ((r : Int) - 1)) Has.int (by rfl) (by rfl) ?_
    refine JP_execs_cons <| JP_lift <| J_mono (Φ := fun fl σ => fl = .next ∧ ∃ k, NextI x xs vs ix r k σ ∧ (∀ j, k = j + 1 → ¬ AtEnd vs xs.length r j) ∧ (.ref dx, .raw emptyDict) ∈ σ.κ) ?_ fun fl σ z => ?_
    · refine J_while (fun k σ => NextI x xs vs ix r k σ ∧ (.ref dx, .raw emptyDict) ∈ σ.κ) (fun k σ hI => ?_) r ⟨⟨by rfl, Nat.le_refl _, fun j h1 h2 => by omega, by rfl, by rfl, by rfl, by rfl, by rfl, by rfl⟩, by simp⟩
      obtain ⟨⟨hself, hk, hJ, hown, hi, hn, hpool, hix, hrr⟩, hκd⟩ := hI
      refine J_isTrueAnd <| J_allAnd <| J_isTrueCmp <| J_name hi fun v8 => J_int fun t4 => J_geInt (Has.mem (.head _)) Has.int <| J_truthyB ?_
      cases k with
      | zero =>
        rw [show decide ((0 : Int) ≤ ((0 : Nat) : Int) - 1) = false from by decide]
        exact J_execs_nil ⟨rfl, 0, ⟨hself, Nat.zero_le _, hJ, hown, hi, hn, hpool, hix, hrr⟩, fun j z => by omega, by simp [hκd]⟩
      | succ j =>
        rw [show decide ((0 : Int) ≤ ((j + 1 : Nat) : Int) - 1) = true from decide_eq_true (by omega)]
        have hjl : j < vs.length := by omega
        obtain ⟨i, t, hvj⟩ := hvi j _ (List.getElem?_eq_getElem hjl)
        have hvj' : vs[j]? = some (.int i t) := by rw [List.getElem?_eq_getElem hjl, hvj]
        refine J_allAnd <| J_isTrueCmp <| J_Subscript <| J_name hix fun v9 => J_name hi fun v10 => J_tailPin (Has.mem (.tail _ (.head _))) (.tail _ (.head _)) hlo (Has.mem (.head _)) (by rw [show (((j + 1 : Nat) : Int) - 1).toNat = j by omega]; exact hvj') (hb := ⟨by omega, by omega⟩) ?_
        refine J_BinOp <| J_BinOp <| J_name hi fun v11 => J_name hn fun v12 => J_addInt (Has.mem (.tail _ (.head _))) (Has.mem (.head _)) fun t5 => J_name hrr fun v13 => J_subInt Has.int (Has.mem (.head _)) fun t6 => J_eqInt Has.int Has.int <| J_truthyB ?_
        cases hd : (i == ((j + 1 : Nat) : Int) - 1 + (xs.length : Int) - (r : Int)) with
        | false =>
          refine J_execs_nil ⟨rfl, j + 1, ⟨hself, hk, hJ, hown, hi, hn, hpool, hix, hrr⟩, fun j' z w => ?_, by simp [hκd]⟩
          have : j' = j := by omega
          subst this
          obtain ⟨t', w⟩ := w
          rw [hvj'] at w
          simp only [Option.some.injEq, Value.int.injEq] at w
          rw [beq_eq_false_iff_ne] at hd
          omega
        | true =>
          have hde := beq_iff_eq.mp hd
          refine J_allAnd_nil <| J_execs_cons <| J_AugName hi fun v14 => J_int fun t7 => J_isubInt (Has.mem (.head _)) Has.int fun t8 => J_store (p := .int ((((j + 1 : Nat) : Int) - 1) - 1)) Has.int (by rfl) (by rw [hown]; rfl) <| J_execs_nil ⟨j, Nat.lt_succ_self _, ⟨hself, by omega, fun j' h1 h2 => ?_, hown, ?_, hn, hpool, hix, hrr⟩, by simp [hκd]⟩
          · rcases Nat.lt_or_ge j j' with h | h
            · exact hJ j' h h2
            · have : j' = j := by omega
              subst this
              exact ⟨t, by rw [hvj']; congr 2; omega⟩
          · show some _ = some _
            congr 2; omega
    · obtain ⟨rfl, k, ⟨hself, hk, hJ, hown, hi, hn, hpool, hix, hrr⟩, hne, hκd⟩ := z
      refine JP_execs_cons <| JP_if <| J_isTrueCmp <| J_name hi fun v15 => J_int fun t9 => J_ltInt (Has.mem (.head _)) Has.int <| J_truthyB ?_
      cases stop with
      | true =>
        have k0 : k = 0 := by
          cases k with
          | zero => rfl
          | succ j => exact absurd (hend rfl j (by omega)) (hne j rfl)
        subst k0
        rw [show decide (((0 : Nat) : Int) - 1 < 0) = true from by decide]
        refine JP_execs_cons <| JP_Assign1 <| JP_lift <| J_bool <| JP_assignAttr <| J_name hself fun v16 => JP_setSlot (p := 329) (dx := dx) (sl := [some (.bool false), some (.ref ix), some (.ref pa), some (.int r tr), some (.bool false)]) (rest := [(ix, lo)]) (i := 4) rfl (by simpa using Ne.symm hxi) rfl (Has.mem (.head _)) (Has.mem (by simp [hκd])) (by kernel_rfl) (by kernel_rfl) (by kernel_rfl) (by decide) ?_
        exact JP_execs_cons <| JP_raise (by rfl) (by kernel_rfl) (by rfl) (by decide) rfl
      | false =>
        obtain ⟨hr1, ⟨t0, hvs⟩, hx2⟩ := hgo rfl
        subst hr1
        have k1 : k = 1 := by
          rcases Nat.lt_or_ge 0 k with h | h
          · omega
          · have k0 : k = 0 := by omega
            subst k0
            obtain ⟨t', w⟩ := hJ 0 (Nat.le_refl _) (by omega)
            rw [hvs] at w
            simp only [List.getElem?_cons_zero, Option.some.injEq, Value.int.injEq] at w
            omega
        subst k1
        rw [show decide (((1 : Nat) : Int) - 1 < 0) = false from by decide]
        obtain ⟨q, hq1⟩ : ∃ q, xs[1]? = some q := ⟨_, List.getElem?_eq_getElem (by omega)⟩
        refine JP_execs_nil <| JP_execs_cons <| JP_AugSub <| J_name hix fun v16 => J_name hi fun v17 => J_getItemPin (Has.mem (.tail _ (.head _))) (.tail _ (.head _)) hlo (Has.mem (.head _)) (v := .int 0 t0) (by rw [hvs]; rfl) <| J_int fun t10 => J_iaddInt (x := 0) Has.int Has.int fun t11 => JP_setItemH (pre := [(x, cmb dx ix pa ((1 : Nat) : Int) tr false false)]) (rest := []) (Has.mem (.tail _ (.head _))) (Has.mem (.head _)) rfl hlo (by simpa using hxi) (by simp) rfl (by rw [hvs]; exact ⟨by omega, by simp⟩) (by decide) fun lo' hlo' => ?_
        have hlo2 : ListO lo' [.int 1 t11] := by rw [hvs] at hlo'; exact hlo'
        refine JP_execs_cons <| JP_lift <| J_Assign <| J_BinOp <| J_name hi fun v18 => J_int fun t12 => J_addInt (Has.mem (.head _)) Has.int fun t13 => J_store (p := .int 1) Has.int (by rfl) (by rw [hown]; rfl) ?_
        refine JP_execs_cons <| JP_lift <| J_mono (Φ := fun fl σ => fl = .next ∧ σ.ρ.lookup ("pool" : Str) = some (.tup xs) ∧ σ.ρ.lookup ("indices" : Str) = some (.val (.ref ix)) ∧ σ.ρ.lookup ("r" : Str) = some (.int 1)) ?_ fun fl σ z => ?_
        · refine J_while (fun k σ => σ.ρ.lookup ("j" : Str) = some (.int 1) ∧ σ.ρ.lookup ("pool" : Str) = some (.tup xs) ∧ σ.ρ.lookup ("indices" : Str) = some (.val (.ref ix)) ∧ σ.ρ.lookup ("r" : Str) = some (.int 1)) (fun k σ hI => ?_) 0 ⟨by rfl, hpool, hix, hrr⟩
          obtain ⟨hj, hpool, hix, hrr⟩ := hI
          refine J_isTrueCmp <| J_name hj fun v19 => J_name hrr fun v20 => J_ltInt (Has.mem (.tail _ (.head _))) (Has.mem (.head _)) <| J_truthyB ?_
          exact J_execs_nil ⟨rfl, hpool, hix, hrr⟩
        · obtain ⟨rfl, hpool, hix, hrr⟩ := z
          refine JP_execs_nil <| JP_execs_cons <| JP_lift <| J_return <| J_CallName <| J_G (v := .ref 291) (by kernel_rfl) (by rfl) <| J_callBase (by kernel_rfl) <| J_evalArgs <| J_spliced <| J_name hpool fun v21 => J_spliced <| J_name hix fun v22 => J_spliced <| J_name hrr fun v23 => J_spliced_nil ?_
          refine J_ctp (ct_picked c xs [q] _ (fun q hq => by rcases List.mem_cons.mp hq with rfl | hq; exact slot_nd _ _; obtain rfl := List.mem_singleton.mp hq; exact hlo2.nd) ix lo' [.int 1 t11] (.tail _ (.head _)) hlo2 (fun j p hp => by
            cases j with
            | zero => exact ⟨1, t11, rfl, by decide, by simp at hp; rw [← hp]; exact hq1⟩
            | succ j => simp at hp) (by simp) hx []) (by omega) (.cons (Has.mem (by simp)) (.cons (Has.mem (by simp)) (.cons (Has.mem (by simp)) .nil))) (fun q hq => (nomatch hq)) rfl fun v24 => ?_
          exact ⟨rfl, v24, lo', t11, q, rfl, hq1, rfl, hlo2, Has.mem (.head _)⟩
  · obtain ⟨z0, v, lo', t, q, rfl, hq1, rfl, hlo', hv⟩ := z
    have a1 := hq (x, cmb dx ix pa r tr false false) (.head _)
    have a2 := hq (ix, lo') (.tail _ (.head _))
    exact ok z0 v lo' t q F' h' tk hq1 e le sb hn a1.1 a2.1 hlo' a1.2.1 a2.2.1 (hv _ _ _ H)
end Mine
end

-- C20
section
open PySem PySem.W PyProof.Rows PySem.Calls
set_option maxRecDepth 100000
set_option maxHeartbeats 1000000
namespace Mine
section
variable {M : Model} {A : Around} {E : Value → Shared → Prop} {s : Shared} {K : Frag} {x C f : Addr} {ox : Obj} {od : Option Obj}
/-- an iterator of the program's own gives an item, or ends -/
theorem own_next {Q : Option Value → Shared → Prop} (X : K.In s.heap) (I : PySem.W.InstAt s.heap x ox C od) (hs : findIn K (.ref C) "__next__" = some (some (.ref f))) (hf : typeIn K (.ref f) = some (.type "function"))
    (h : wpAny M A (call (.ref f) [.ref x]) (fun v s' => Q (some v) s') (fun e s' => wpAny M A (isInstance e (.type "StopIteration")) (fun b s₂ => b = true ∧ Q none s₂) E s') s) : wpAny M A (pyNext (.ref x)) Q E s := by
  unfold pyNext
  refine wpAny_bind (wpAny_attempt (special_fn (name := "__next__") (args := []) X I hs hf (wpAny_mono h (fun v s' hq => wpAny_pure hq) fun e s' he => ?_)))
  refine wpAny_bind (wpAny_mono he (fun b s₂ hb => ?_) fun _ _ z => z)
  obtain ⟨rfl, hb⟩ := hb
  exact wpAny_pure hb
/-- its __iter__ gives itself -/
theorem own_iter {Q : Value → Shared → Prop} {g : Value} (X : K.In s.heap) (I : PySem.W.InstAt s.heap x ox C od) (hs : findIn K (.ref C) "__iter__" = some (some (.ref f))) (hf : typeIn K (.ref f) = some (.type "function"))
    (h : wpAny M A (call (.ref f) [.ref x]) (fun v s' => v = .ref x ∧ Looks M s'.heap (specialOf (.ref x) "__next__") (some g) ∧ Q (.ref x) s') E s) : wpAny M A (pyIter (.ref x)) Q E s := by
  have one : ∀ refuse : Sem Value, wpAny M A (callSpecialIfBoundUnlessNone? (.ref x) "__iter__" refuse) (fun r s' => r = some (.ref x) ∧ Looks M s'.heap (specialOf (.ref x) "__next__") (some g) ∧ Q (.ref x) s') E s := by
    intro refuse
    have fin2 : wpAny M A (if (Value.ref f == Value.none) = true then (refuse >>= fun v => pure (some v)) else (call (.ref f) [.ref x] >>= fun v => pure (some v))) (fun r s' => r = some (.ref x) ∧ Looks M s'.heap (specialOf (.ref x) "__next__") (some g) ∧ Q (.ref x) s') E s := by
      rw [if_neg (show ¬ ((Value.ref f == Value.none) = true) from Bool.false_ne_true)]
      exact wpAny_bind (wpAny_mono h (fun v s' z => by obtain ⟨rfl, z⟩ := z; exact wpAny_pure ⟨rfl, z⟩) fun _ _ z => z)
    simp only [callSpecialIfBoundUnlessNone?, bindSpecialIfBound?]
    refine wpAny_holding (wpAny_bind (wpAny_bind (wpAny_bind (I.type.here ((looks_findIn X hs).here ?_)))))
    refine wpAny_bind (wpAny_askSetting (wpAny_ite ?_))
    split
    · exact wpAny_bind ((bind_fn X _ hf).here (wpAny_pure (by exact fin2)))
    · exact wpAny_tryCatch (wpAny_bind ((bind_fn X _ hf).here (wpAny_pure (by exact fin2))))
  unfold pyIter
  refine wpAny_bind (wpAny_bind (I.type.here ((looks_findIn X hs).here ?_)))
  show wpAny M A (callSpecialIfBoundUnlessNone? (.ref x) "__iter__" _ >>= _) Q E s
  refine wpAny_bind (wpAny_mono (one _) (fun r s' hr => ?_) fun _ _ z => z)
  obtain ⟨rfl, hl, hq⟩ := hr
  exact wpAny_bind (hl.here (wpAny_pure hq))
end
theorem ct_cmbIter (c : Cx) (x : Addr) : CT c 2 (.ref 313) [.val (.ref x)] [] (.val (.ref x)) := by
  refine CT_def (n := 1) (f := 313) (by rfl) rfl rfl (by rfl) (bind1 (fun a => by rfl)) (by decide) (kindsN (by rfl)) ?_
  intro s₀ F₀ L
  exact J_execs_cons <| J_return <| J_name (p := .val (.ref x)) (by rfl) fun v1 => Has.mem (.head _)
/-- what is given of two, r at a time -/
def combs (p q : PV) : Nat → List PV
  | 0 => [.tup []]
  | 1 => [.tup [p], .tup [q]]
  | _ => [.tup [p, q]]
inductive CSt (p q : PV) (r : Nat) (vs : List Value) : Bool → List PV → Prop
  | first : (∀ (j : Nat) (w : Value), vs[j]? = some w → ∃ t, w = .int j t) → CSt p q r vs true (combs p q r)
  | second (t : Tok) : r = 1 → vs = [.int 0 t] → CSt p q r vs false [.tup [q]]
  | last : (∀ j, j < r → AtEnd vs 2 r j) → CSt p q r vs false []
def CP (p q : PV) (x dx ix pa : Addr) (r : Nat) (tr : Tok) (ps : List PV) (pins : List (Addr × Obj)) : Prop := ∃ first lo vs, pins = [(x, cmb dx ix pa r tr first false), (ix, lo)] ∧ ListO lo vs ∧ vs.length = r ∧ (∀ (j : Nat) (w : Value), vs[j]? = some w → ∃ (i : Int) (t : Tok), w = .int i t) ∧ CSt p q r vs first ps
theorem next_find (w : World) : findIn (KK w) (.ref cmbC) "__next__" = some (some (.ref 320)) ∧ typeIn (KK w) (.ref 320) = some (.type "function") := ⟨by kernel_rfl, by kernel_rfl⟩
theorem ofEnd {M : Model} {A : Around} {s : Shared} {t : Code} {Q : Value → Shared → Prop} {E : Value → Shared → Prop} (h : codeAny M A t (EndC Q) s) : codeAny M A t (fun r s' => match r with | .ok (.ret v) => Q v s' | .ok _ => False | .error e => E e s') s :=
  codeAny_mono h fun r s' z => by rcases r with e | (v | _ | _ | _) <;> first | exact z | exact z.elim
theorem iterW_cmb (c : Cx) {n : Nat} (hn : 10 ≤ n) (target : Expr) (ht : ∀ it v, letOwnedTupleGo target it v = pure ()) (p q : PV) (x dx ix pa : Addr) (r : Nat) (tr : Tok) (hr : r ≤ 2) (hxi : x ≠ ix) :
    IterW c n target x [x, ix] (fun F => F dx = some emptyDict ∧ Rep F (.tup [p, q]) (.ref pa)) (CP p q x dx ix pa r tr) where
  mono := fun F F' l h => ⟨l _ _ h.1, h.2.mono l⟩
  pins := fun ps o h => by obtain ⟨first, lo, vs, rfl, _⟩ := h; rfl
  nd := fun ps o h z hz => by
    obtain ⟨first, lo, vs, rfl, hlo, _⟩ := h
    rcases List.mem_cons.mp hz with rfl | hz
    · exact cmb_nd _ _ _ _ _ _ _
    · obtain rfl := List.mem_singleton.mp hz; exact hlo.nd
  item := fun y ps pins A F s rm hB hS hoff hf ho hP Q k => by
    obtain ⟨first, lo, vs, rfl, hlo, hvl, hvi, hst⟩ := hP
    have h1 := ho (x, cmb dx ix pa r tr first false) (.head _)
    have h2 := ho (ix, lo) (.tail _ (.head _))
    have I := slotObj_inst h1 (hS _ _ hf.1)
    have e1 := hoff x (.head _)
    have e2 := hoff ix (.tail _ (.head _))
    have fin : ∀ v F' h' tk lo' vs' , h'.get? x = some (cmb dx ix pa r tr false false) → h'.get? ix = some lo' → ListO lo' vs' → vs'.length = r → (∀ (j : Nat) (w : Value), vs'[j]? = some w → ∃ (i : Int) (t : Tok), w = .int i t) → CSt p q r vs' false ps → ExtOut [x, ix] s.heap h' → Le F F' → Sub F' h' → (∀ a x, F' a = some x → F a = some x ∨ s.heap.get? a = none) → Rep F' y v →
        wpAny c.M A (letOwnedTupleGo target (.ref x) v) (fun _ s'' => Q v s'') (fun _ _ => False) { s with heap := h', toks := tk } := fun v F' h' tk lo' vs' g1 g2 g3 g4 g5 g6 g7 g8 g9 g10 g11 => by
      rw [ht]
      exact wpAny_pure (k v F' h' tk _ (fun z hz => by
        rcases List.mem_cons.mp hz with rfl | hz
        · exact g1
        · obtain rfl := List.mem_singleton.mp hz; exact g2) ⟨false, lo', vs', rfl, g3, g4, g5, g6⟩ g7 g8 g9 g10 g11)
    refine own_next (hB.inK hS) I (next_find c.w).1 (next_find c.w).2 (wpAny_call (ofEnd ?_))
    generalize hzz : y :: ps = zz at hst
    cases hst with
    | first hv =>
      obtain ⟨ys, hys, rfl, hps⟩ : ∃ ys : List PV, ys = [p, q].take r ∧ y = .tup ys ∧ (CSt p q r vs false ps) := by
        match r, hr, hzz, hvl, hv with
        | 0, _, hzz, hvl, hv => cases hzz; exact ⟨[], rfl, rfl, .last fun j h => absurd h (Nat.not_lt_zero _)⟩
        | 1, _, hzz, hvl, hv =>
          cases hzz
          match vs, hvl with
          | [w], _ =>
            obtain ⟨t, rfl⟩ := hv 0 w rfl
            exact ⟨[p], rfl, rfl, .second t rfl rfl⟩
        | 2, _, hzz, hvl, hv =>
          cases hzz
          refine ⟨[p, q], rfl, rfl, .last fun j h => ?_⟩
          obtain ⟨t, e⟩ := hv j _ (List.getElem?_eq_getElem (by omega))
          refine ⟨t, ?_⟩
          rw [List.getElem?_eq_getElem (by omega), e]
          congr 2; omega
      have hyl : ys.length = r := by rw [hys, List.length_take]; simp; omega
      refine ct_next1 c x dx ix pa r tr [p, q] ys lo vs hlo (fun j p' hj => ?_) hyl.symm (by omega) (by simp) hxi [.ref x] A (rm.mono hn) F s hB hS (Reps.cons rfl Reps.nil) (fun z hz => by rcases List.mem_cons.mp hz with rfl | hz; exact ⟨dx, rfl, hf.1⟩; obtain rfl := List.mem_singleton.mp hz; exact hf.2)
        (fun z hz => by rcases List.mem_cons.mp hz with rfl | hz; exact ⟨h1, e1⟩; obtain rfl := List.mem_singleton.mp hz; exact ⟨h2, e2⟩) _ fun v F' h' tk ms' g1 g2 g3 g4 g5 g6 => ?_
      · have hjr : j < r := by
          rcases Nat.lt_or_ge j ys.length with h | h
          · omega
          · rw [List.getElem?_eq_none h] at hj; cases hj
        obtain ⟨t, e⟩ := hv j _ (List.getElem?_eq_getElem (by omega))
        refine ⟨j, t, by rw [List.getElem?_eq_getElem (by omega), e], by omega, ?_⟩
        rw [hys, List.getElem?_take_of_lt hjr] at hj
        exact hj
      · obtain ⟨rfl, rv⟩ := g6
        exact fin v F' h' tk lo vs (g5 _ (.head _)).1 (g5 _ (.tail _ (.head _))).1 hlo hvl hvi hps g1 g2 g3 g4 rv
    | second t hr1 hvs =>
      cases hzz
      refine call_next2 c false x dx ix pa r tr [p, q] lo vs hlo hvl hvi hr (by simp) hxi nofun (fun _ => ⟨hr1, ⟨t, hvs⟩, rfl⟩) (rm.mono hn) hB hS (Reps.cons rfl Reps.nil) hf.1 hf.2 ⟨h1, e1⟩ ⟨h2, e2⟩ nofun (R := EndC _) (fun _ v lo' t' q' F' h' tk gq g1 g2 g3 g4 g5 g6 g7 g8 g9 rv => ?_) nofun
      simp at gq
      subst gq
      exact fin v F' h' tk lo' [.int 1 t'] g5 g6 g7 (by rw [hr1]; rfl) (fun j w hw => by
        cases j with
        | zero => simp at hw; exact ⟨1, t', hw.symm⟩
        | succ j => simp at hw) (.last fun j h => by
          have : j = 0 := by omega
          subst this
          rw [hr1]
          exact ⟨t', rfl⟩) g1 g2 g3 g4 rv
    | last _ => cases hzz
  done := fun pins A l F s rm hl hB hS hstk hoff hf ho hP Q k => by
    obtain ⟨first, lo, vs, rfl, hlo, hvl, hvi, hst⟩ := hP
    have h1 := ho (x, cmb dx ix pa r tr first false) (.head _)
    have h2 := ho (ix, lo) (.tail _ (.head _))
    have I := slotObj_inst h1 (hS _ _ hf.1)
    have e1 := hoff x (.head _)
    have e2 := hoff ix (.tail _ (.head _))
    refine own_next (hB.inK hS) I (next_find c.w).1 (next_find c.w).2 (wpAny_call ?_)
    generalize hzz : ([] : List PV) = zz at hst
    cases hst with
    | first hv =>
      match r, hr, hzz with
      | 0, _, hzz => cases hzz
      | 1, _, hzz => cases hzz
      | 2, _, hzz => cases hzz
    | second t hr1 hvs => cases hzz
    | last hend =>
      refine call_next2 c true x dx ix pa r tr [p, q] lo vs hlo hvl hvi hr (by simp) hxi (fun _ => hend) nofun (rm.mono hn) hB hS (Reps.cons rfl Reps.nil) hf.1 hf.2 ⟨h1, e1⟩ ⟨h2, e2⟩ (fun _ => ⟨l, hl, hstk⟩) nofun (fun _ l' hl' e h' tk g1 g2 g3 => ?_)
      obtain rfl : l = l' := by rw [hl] at hl'; exact Option.some.inj hl'
      obtain ⟨o, ho', hc⟩ := g3
      exact wpAny_isInstance (T := "StopIteration") (b := true) ⟨o, ho', hc⟩ isSubtype_stop ⟨rfl, k h' tk g1 g2⟩
end Mine
end

-- C21
section
open PySem PySem.W PyProof.Rows PySem.Calls
set_option maxRecDepth 100000
set_option maxHeartbeats 1000000
namespace Mine
theorem JI_comb {c : Cx} {n : Nat} {fr : Fc} {σ : AS} {target : Expr} {v w : Value} {p q : PV} {r : Nat} {Φ : List PV → AS → Prop} (hn : 14 ≤ n) (ht : ∀ it v, letOwnedTupleGo target it v = pure ()) (hr : r ≤ 2) (hv : Has c σ v (.tup [p, q])) (hw : Has c σ w (.int r)) (k : Φ (combs p q r) σ) : JI c n fr σ target (call (.ref cmbC) [v, w]) Φ := fun A rm F s H Q kQ => by
  have rv := hv _ _ _ H
  have rw' := hw _ _ _ H
  obtain ⟨hp, g, d, tk, os⟩ := s
  have X : (KK c.w).In hp := H.inK
  have hB := H.baseF
  have hS : Sub F hp := H.sub
  have e1 : (hp.push emptyDict).objs.size = hp.objs.size + 1 := Heap.size_push ..
  have hd0 : hp.get? hp.objs.size = none := none_size hp
  have hx0 : hp.get? (hp.objs.size + 1) = none := Heap.get?_none_of_le (Nat.le_succ _)
  have k1 : Kp hp ((hp.push emptyDict).push (instObj cmbC hp.objs.size)) := (Kp.push _ _).trans (Kp.push _ _)
  have gd : ((hp.push emptyDict).push (instObj cmbC hp.objs.size)).get? hp.objs.size = some emptyDict := Heap.get?_push_of_some _ (Heap.get?_push_size _ rfl)
  have gx : ((hp.push emptyDict).push (instObj cmbC hp.objs.size)).get? (hp.objs.size + 1) = some (instObj cmbC hp.objs.size) := by rw [← e1]; exact Heap.get?_push_size _ rfl
  have le1 : Le F (put F hp.objs.size emptyDict) := Le.put (hS.off hd0)
  have S1 : Sub (put F hp.objs.size emptyDict) ((hp.push emptyDict).push (instObj cmbC hp.objs.size)) := fun a o z => by
    unfold put at z; split at z
    · rename_i e; subst e; cases z; exact gd
    · exact k1 _ _ (hS _ _ z)
  have ox1 : (put F hp.objs.size emptyDict) (hp.objs.size + 1) = none := by
    rw [put_ne (Nat.succ_ne_self _)]; exact hS.off hx0
  have r2 : Room 10 (A.under (.builtin "type.__call__" ⟨.ref cmbC :: [v, w], []⟩)) := by
    have w1 : (Code.builtin "type.__call__" ⟨.ref cmbC :: [v, w], []⟩).weight = 1 := by rfl
    have w2 : (Code.builtin "type.__call__" ⟨.ref cmbC :: [v, w], []⟩).cUnits = 1 := by rfl
    refine ⟨?_, ?_, rm.1.2.2⟩
    · show A.depth + (Code.builtin "type.__call__" ⟨.ref cmbC :: [v, w], []⟩).weight + 2 * 10 < 1000
      rw [w1]; have := rm.1.1; omega
    · show A.units + (Code.builtin "type.__call__" ⟨.ref cmbC :: [v, w], []⟩).cUnits + 30 * 10 < 9900
      rw [w2]; have := rm.1.2.1; omega
  refine wpAny_call (make_core (makes_of X (by kernel_rfl)) (looks_findIn X (show findIn (KK c.w) (.ref cmbC) "__init__" = some (some (.ref 306)) by kernel_rfl)) (fun self => bind_fn X self (by kernel_rfl)) (.inl rfl) ?_)
  refine codeAny_mono (ct_cmbInit c (hp.objs.size + 1) hp.objs.size [p, q] r hr (by simp) [.ref (hp.objs.size + 1), v, w] _ r2 (put F hp.objs.size emptyDict) ⟨(hp.push emptyDict).push (instObj cmbC hp.objs.size), g, d, tk, os⟩ (hB.mono le1) S1 (Reps.cons rfl (Reps.cons (rv.mono le1) (Reps.cons rw' Reps.nil)))
    (fun z hz => by obtain rfl := List.mem_singleton.mp hz; exact ⟨_, rfl, put_self _ _ _⟩) (fun z hz => by obtain rfl := List.mem_singleton.mp hz; exact ⟨gx, ox1⟩)
    (fun v' s' => v' = .none ∧ wpAny c.M A (pyIter (.ref (hp.objs.size + 1))) Q (fun _ _ => False) s') fun v' F' h' tk' ms' ex le sb hnew hpin hpost => ?_) (fun r' s' z => ?_)
  · obtain ⟨rfl, ix, lo, vs, pv, tr, rfl, hlo, hvl, hvi, hpv, hxi⟩ := hpost
    refine ⟨rfl, ?_⟩
    obtain ⟨pa, ws, kk, rfl, hpa, hws⟩ := hpv
    have kp : Kp hp h' := fun b o z => ex b o (fun m => by
      have : b = hp.objs.size + 1 := by simpa [addrs] using m
      rw [this, hx0] at z; cases z) (k1 b o z)
    have hnew' : ∀ a o, F' a = some o → F a = some o ∨ hp.get? a = none := fun a o z => by
      rcases hnew a o z with y | y
      · unfold put at y; split at y
        · rename_i e; rw [e]; exact .inr hd0
        · exact .inl y
      · exact .inr (k1.none y)
    have ext : Ext F F' hp h' := ⟨le1.trans le, sb, hnew'⟩
    have H' : Holds c fr F' σ h' := H.step kp ext
    have z1 := hpin _ (.head _)
    have z2 := hpin _ (.tail _ (.head _))
    have nix : hp.get? ix = none := by
      rcases z2.2.2 with y | y
      · exact absurd (by simpa [addrs] using y) (Ne.symm hxi)
      · exact k1.none y
    have fd : F' hp.objs.size = some emptyDict := le _ _ (put_self _ _ _)
    have I := slotObj_inst z1.1 (sb _ _ fd)
    have n1 := H.freeNew hx0
    have n2 := H.freeNew nix
    refine own_iter (f := 313) (g := .ref 320) H'.inK I (by kernel_rfl) (by kernel_rfl) (wpAny_call (ofEnd ?_))
    refine ct_cmbIter c (hp.objs.size + 1) [.ref (hp.objs.size + 1)] [] A (rm.mono (by omega)) F' ⟨h', g, d, tk', os⟩ H'.baseF sb (Reps.cons rfl Reps.nil) KReps.nil _ fun v2 F2 h2 tk2 kp2 ex2 rv2 => ?_
    obtain rfl : v2 = .ref (hp.objs.size + 1) := rv2
    have H2 := H'.step kp2 ex2
    have I2 := slotObj_inst (kp2 _ _ z1.1) (ex2.sub _ _ (ex2.le _ _ fd))
    refine ⟨rfl, I2.type.andThen (looks_findIn H2.inK (next_find c.w).1), ?_⟩
    have lt : decide ((([p, q] : List PV).length : Int) < (r : Int)) = false := decide_eq_false (by simp; omega)
    rw [lt] at z1
    refine kQ (hp.objs.size + 1) (combs p q r) σ [hp.objs.size + 1, ix] _ _ [(hp.objs.size + 1, cmb hp.objs.size ix pa r tr true false), (ix, lo)] F2 h2 tk2 k (iterW_cmb c (by omega) target ht p q (hp.objs.size + 1) hp.objs.size ix pa r tr hr hxi) H2 (fun z hz => ?_) ⟨true, lo, vs, rfl, hlo, hvl, fun j w hw => by obtain ⟨t, e⟩ := hvi j w hw; exact ⟨j, t, e⟩, .first hvi⟩ ⟨ex2.le _ _ fd, ⟨pa, ws, kk, rfl, ex2.le _ _ hpa, hws.mono ex2.le⟩⟩ (fun a ha => ?_) (fun z hz m => ?_)
    · rcases List.mem_cons.mp hz with rfl | hz
      · exact kp2 _ _ z1.1
      · obtain rfl := List.mem_singleton.mp hz
        exact kp2 _ _ z2.1
    · rcases List.mem_cons.mp ha with rfl | ha
      · exact n1.1.step (ex2.off z1.2.1 z1.1)
      · obtain rfl := List.mem_singleton.mp ha
        exact n2.1.step (ex2.off z2.2.1 z2.1)
    · rcases List.mem_cons.mp m with m | m
      · exact n1.2 z hz m
      · exact n2.2 z hz (List.mem_singleton.mp m)
  · rcases r' with e | (v' | _ | _ | _) <;> first | exact z | exact z.elim
end Mine
end

-- C22
section
open PySem PySem.W PyProof.Rows PySem.Calls
set_option maxRecDepth 100000
set_option maxHeartbeats 1000000
namespace Mine
section
variable {c : Cx} {n : Nat} {fr : Fc} {σ : AS}
/-- numbers that follow each other by steps -/
def RangeL (d : Int) : Int → List PV → Prop
  | _, [] => True
  | x, p :: ps => p = .int x ∧ RangeL d (x + d) ps
theorem iter_range (c : Cx) (n : Nat) (it : Addr) (d : Int) : Iter c n it (fun _ => True) (fun ps o => ∃ x, o = { cls := .type "range_iterator", dict := none, data := .fields #[rawInt x, rawInt ps.length, rawInt d], slots := #[] } ∧ RangeL d x ps) where
  mono := fun _ _ _ _ => trivial
  nd := fun ps o ⟨x, e, _⟩ es k z => by rw [e] at z; cases z
  item := fun p ps A F s o r hB hS hn hf ho hP Q q => by
    obtain ⟨x, rfl, hp, hR⟩ := hP
    subst hp
    refine wpAny_pyNext_range_item ho (by simp only [List.length_cons]; omega) fun h' hit hs => ?_
    exact q _ F h' _ _ hit ⟨x + d, by simp, hR⟩ hs.extBut (Le.refl _) (fun b y w => (hs.2 b fun z => by rw [z, hn] at w; cases w).trans (hS b y w)) (fun _ _ w => .inl w) ⟨s.toks, rfl⟩
  done := fun A F s o r hB hS hn hf ho hP Q q => by
    obtain ⟨x, rfl, _⟩ := hP
    exact wpAny_pyNext_range_end r.2.2 ho (by simp) fun h' he => q h' _ he
  self := fun A s o ps ho hP Q q => by
    obtain ⟨x, rfl, _⟩ := hP
    exact wpAny_pyIter_rangeiter ho q
theorem iterOf_range {x : Value} {a b d : Int} {t u v : Tok} {xs : List PV} (hx : Has c σ x (.raw (rangeObj a b d t u v))) (hs : Builtin.Range.small a b d = true) (hn : Builtin.Range.rangeSize a b d = xs.length) (hR : RangeL d a xs) : IterOf c n fr σ x xs := fun A r F s H Q q => by
  obtain ⟨l, rfl, hl⟩ := hx _ _ _ H
  obtain ⟨Z, hp⟩ := H.fresh
  refine wpAny_pyIter_range (H.sub _ _ hl) hs ?_
  rw [hn]
  exact q s.heap.objs.size F _ _ _ _ _ (iter_range c n s.heap.objs.size d) (H.step (Kp.push _ _) (Ext.keep H.sub (Kp.push _ _))) (Heap.get?_push_size _ rfl) ⟨a, rfl, hR⟩ trivial Z hp
theorem J_range3 {x y z : Value} {a b d : Int} {Φ : Value → AS → Prop} (hx : Has c σ x (.int a)) (hy : Has c σ y (.int b)) (hz : Has c σ z (.int d)) (hd : d ≠ 0) (hb : Builtin.divisionGoesByPylong (b - a) d = false) (k : ∀ w t u v, Φ w (σ.push w (.raw (rangeObj a b d t u v)))) : J c n fr σ (call (.type "range") [x, y, z]) Φ := fun A r F s H Q q => by
  obtain ⟨t, rfl⟩ := hx _ _ _ H
  obtain ⟨u, rfl⟩ := hy _ _ _ H
  obtain ⟨v, rfl⟩ := hz _ _ _ H
  have ee := Ext.alloc H.sub (rangeObj a b d t u v) rfl
  exact call_range_3 hd (q (.ref s.heap.objs.size) _ _ _ _ (k _ t u v) ((H.step (Kp.push _ _) ee).push ⟨_, rfl, put_self _ _ _⟩)) (.inl hb)
/-- a formula, or its opposite where it is among these -/
def oppE (negs : List Fm) (f : Fm) : Option Ex := if inE (.f f) (negs.map .f) then notE (.f f) else some (.f f)
def gN (negs : List Fm) : PV → Option PV
  | .fm f => (oppE negs f).map Ex.pv
  | _ => none
theorem gN_two {negs : List Fm} {a b : Fm} {x y : Ex} (hx : oppE negs a = some x) (hy : oppE negs b = some y) : [PV.fm a, PV.fm b].filterMap (gN negs) = [x.pv, y.pv] := by
  simp [gN, hx, hy]
end
def XorI (a b : Fm) (simp : Bool) (l : List Ex) (σ : AS) : Prop := (∃ o : Addr, σ.own = some (("args" : Str), o, l.map Ex.pv)) ∧ σ.ρ.lookup ("self" : Str) = some (.fm (.node .xor [a, b])) ∧ σ.ρ.lookup ("simplify" : Str) = some (.bool simp)
/-- Xor.to_nnf -/
theorem ct_xorNnf (c : Cx) {m : Nat} (hm : 40 ≤ m) {sub : Ex → Option Ex} {simp : Bool} (hsub : SubOk c m simp sub) (a b : Fm) (na nb x y r : Ex) (hna : notE (.f a) = some na) (hnb : notE (.f b) = some nb) (hx : latE .or [.f a, .f b] = some x) (hy : latE .or [na, nb] = some y) (h : nnfC sub .and simp [x, y] = some r) :
    CTw c (m + 5) (.ref 406) [.fm (.node .xor [a, b]), .bool simp] [] r.pv := by
  refine CTw_def (n := m + 4) (f := 406) (by rfl) rfl rfl (by rfl) (bind2e (by rfl) (by rfl) (by rfl) (fun a b => by rfl) (fun a b => by rfl)) (by decide) (kindsN (by rfl)) ?_
  intro s₀ F₀ L stk
  have hin2 : oppE [a, b] a = some na ∧ oppE [a, b] b = some nb := by
    have e1 : inE (.f a) [.f a, .f b] = true := by simp [inE, Ex.eq, beq_iff.mpr rfl]
    have e2 : inE (.f b) [.f a, .f b] = true := by simp [inE, Ex.eq, beq_iff.mpr rfl]
    exact ⟨by unfold oppE; rw [show ([a, b] : List Fm).map Ex.f = [.f a, .f b] from rfl, e1, if_pos rfl]; exact hna, by unfold oppE; rw [show ([a, b] : List Fm).map Ex.f = [.f a, .f b] from rfl, e2, if_pos rfl]; exact hnb⟩
  refine J_execs_cons (J_assignOwn (J_spliced_nil ⟨by rfl, [], .nil, Nat.zero_le _, fun l => ?_⟩) (by rfl))
  refine J_execs_cons (J_mono (Φ := fun fl σ => fl = .next ∧ XorI a b simp [x, y] σ) ?_ fun fl σ z => ?_)
  · refine J_for <| J_CallName <| J_Bt (v := .type "range") (by kernel_rfl) (by rfl) (by decide) (by rfl) <| J_callImm <| J_evalArgs <| J_spliced <| J_int fun t1 => J_spliced <| J_BinOp <| J_CallName <| J_Bt (v := .builtin "len") (by kernel_rfl) (by rfl) (by decide) (by rfl) <| J_callImm <| J_evalArgs <| J_spliced <| J_Attribute <| J_name (p := .fm (.node .xor [a, b])) (by rfl) fun v1 => J_args (Has.mem (.head _)) fun v2 => J_spliced_nil <| J_lenT (Has.mem (.head _)) (show 2 ≤ 16777216 by decide) fun t2 => J_int fun t3 => J_addInt Has.int Has.int fun t4 => J_spliced <| J_int fun t5 => J_spliced_nil <| J_range3 (a := 0) (b := 3) (d := 2) Has.int Has.int Has.int (by decide) (by decide +kernel) fun w t6 t7 t8 => ⟨[.int 0, .int 2], iterOf_range (Has.mem (.head _)) (by decide +kernel) (by decide +kernel) ⟨rfl, rfl, trivial⟩, ?_⟩
    refine ForJ_ind (fun ps σ => (ps = [.int 0, .int 2] ∧ XorI a b simp [] σ) ∨ (ps = [.int 2] ∧ XorI a b simp [x] σ) ∨ (ps = [] ∧ XorI a b simp [x, y] σ)) ?_ ?_ _ _ (.inl ⟨rfl, ⟨l, by rfl⟩, by rfl, by rfl⟩)
    · rintro σ (⟨e, _⟩ | ⟨e, _⟩ | ⟨_, hI⟩)
      · cases e
      · cases e
      · exact J_execs_nil ⟨rfl, hI⟩
    · intro p ps σ hP v F₁ pin
      obtain ⟨k, negs, e1, e2, res, l, l', rfl, hk2, hcb, h1, h2, h3, hI, hnext⟩ : ∃ (k : Nat) (negs : List Fm) (e1 e2 res : Ex) (l l' : List Ex), p = .int k ∧ k ≤ 2 ∧ combs (.fm a) (.fm b) k = [.tup (negs.map .fm)] ∧ oppE negs a = some e1 ∧ oppE negs b = some e2 ∧ latE .or [e1, e2] = some res ∧ XorI a b simp l σ ∧ l.length ≤ 2 ∧ l' = l ++ [res] ∧ ∀ σ', XorI a b simp l' σ' → (ps = [.int 0, .int 2] ∧ XorI a b simp [] σ') ∨ (ps = [.int 2] ∧ XorI a b simp [x] σ') ∨ (ps = [] ∧ XorI a b simp [x, y] σ') := by
        rcases hP with ⟨e, hI⟩ | ⟨e, hI⟩ | ⟨e, hI⟩
        · cases e
          exact ⟨0, [], .f a, .f b, x, [], [x], rfl, by decide, rfl, rfl, rfl, hx, hI, by decide, rfl, fun σ' z => .inr (.inl ⟨rfl, z⟩)⟩
        · cases e
          exact ⟨2, [a, b], na, nb, y, [x], [x, y], rfl, by decide, rfl, hin2.1, hin2.2, hy, hI, by simp, rfl, fun σ' z => .inr (.inr ⟨rfl, z⟩)⟩
        · cases e
      obtain ⟨hll, rfl, hnext⟩ := hnext
      obtain ⟨⟨o, hown⟩, hself, hsimp⟩ := hI
      refine J_assignName (J_store (p := .int k) (Has.mem (.head _)) (by rfl) (by rw [hown]; rfl) ?_)
      refine J_execs_cons (J_mono (Φ := fun fl σ => fl = .next ∧ XorI a b simp (l ++ [res]) σ) ?_ fun fl σ' z => ?_)
      · refine J_forW <| JI_CallName <| J_G (v := .ref cmbC) (by kernel_rfl) (by rfl) <| JI_callBase (by kernel_rfl) <| J_evalArgs <| J_spliced <| J_Attribute <| J_name hself fun v3 => J_args (Has.mem (.head _)) fun v4 => J_spliced <| J_name (p := .int k) (by rfl) fun v5 => J_spliced_nil <| JI_comb (r := k) (p := .fm a) (q := .fm b) (by omega) (fun it v => by rfl) hk2 (Has.mem (.tail _ (.head _))) (Has.mem (.head _)) ?_
        rw [hcb]
        intro w1 F₂ pin₂
        refine J_assignName (J_storeCell (p := .tup (negs.map .fm)) (Has.mem (.head _)) (by rfl) (by rfl) (by rfl) ?_)
        refine J_execs_cons (J_AssignComp (ρ₂ := [(("neg" : Str), .tup (negs.map .fm))]) (g := gN negs) (J_Attribute <| J_name hself fun v6 => J_args (Has.mem (.head _)) fun v7 => ⟨[.fm a, .fm b], iterK_tup (Has.mem (.head _)), ?el, ?sees, (show 2 ≤ 1000000 by decide), (by rw [hown]; rfl), fun v8 => ?_⟩) (by rfl) (by rfl) (by rfl))
        case el =>
          intro p hp s₁ F₃ C pin₃ v9
          obtain ⟨f, e, rfl, he⟩ : ∃ f e, p = .fm f ∧ oppE negs f = some e := by
            rcases List.mem_cons.mp hp with rfl | hp
            · exact ⟨a, e1, rfl, h1⟩
            · obtain rfl := List.mem_singleton.mp hp
              exact ⟨b, e2, rfl, h2⟩
          refine J_assignName (J_store (Has.mem (.head _)) (by rfl) (by rfl) (J_ok0 ⟨e.pv, by simp [gN, he], ?_⟩))
          refine J_ifexp <| J_isTrueIn (neg := false) <| J_name (p := .fm f) (by rfl) fun v10 => J_name (p := .tup (negs.map .fm)) (by rfl) fun v11 => J_inTup (x := .f f) (ys := negs.map Ex.f) (by omega) (Has.mem (.tail _ (.head _))) (by rw [fms_map]; exact Has.mem (.head _)) ?_
          unfold oppE at he
          cases hin : inE (.f f) (negs.map .f) with
          | true =>
            rw [hin, if_pos rfl] at he
            exact J_CallName <| J_G (v := .ref 385) (by kernel_rfl) (by rfl) <| J_callBase (by kernel_rfl) <| J_evalArgs <| J_spliced <| J_name (p := .fm f) (by rfl) fun v12 => J_spliced_nil <| J_ct (ct_Not c he) (by omega) (.cons (Has.mem (.head _)) .nil) fun v13 => Has.mem (.head _)
          | false =>
            rw [hin, if_neg (by simp)] at he
            cases he
            exact J_name (p := .fm f) (by rfl) fun v12 => Has.mem (.head _)
        case sees =>
          intro q hq
          obtain rfl := List.mem_singleton.mp hq
          exact ⟨by rfl, fun C => .inl (by rfl), (show (some NameKind.cell : Option NameKind) ≠ some .local by decide), by rfl⟩
        rw [gN_two h1 h2]
        refine J_execs_cons <| J_Expr <| J_CallAttr <| J_nameOwn hown <| J_calleeFew fun pl => J_methOwn hown PySem.F.slot_list_append PySem.F.type_list_append <| J_callImm <| J_evalArgs <| J_spliced <| J_CallName <| J_G (v := .ref 349) (by kernel_rfl) (by rfl) <| J_callBase (by kernel_rfl) <| J_evalStar <| J_name (p := .lst [e1.pv, e2.pv]) (by rfl) fun w2 => J_evalAll_nil <| notIter_lst (Has.mem (.head _)) ⟨rfl, J_collectL (Has.mem (.head _)) (show 2 ≤ 16777216 by decide) fun vs hvs => ?_⟩
        refine J_ct (ct_lat c (.inr rfl) [e1, e2] res h3 (by decide : 2 ≤ 1000)) (by omega) (hasAll_pushAll _ hvs) fun w3 => J_spliced_nil <| J_append hown (Has.mem (.head _)) (by rw [List.length_map, sizeLine_is]; omega) ⟨none_noRef, ?_⟩
        refine J_execs_nil (J_execs_nil ⟨rfl, ⟨o, by simp⟩, hself, hsimp⟩)
      · obtain ⟨rfl, hI⟩ := z
        exact J_execs_nil (hnext σ' hI)
  · obtain ⟨rfl, ⟨o, hown⟩, hself, hsimp⟩ := z
    refine J_freeze hown <| J_execs_cons <| J_return <| J_CallAttr <| J_G (v := .ref (kC .and)) (by kernel_rfl) (by rfl) <| J_calleeStar <| J_cm (readsK c.w .and) (nnfC_find c.w .and) (nnfRec c.w) fun v3 => ?_
    refine J_callBound (Has.mem (.head _)) (nnfFnIn c.w) <| J_evalStar <| J_name (p := .lst [x.pv, y.pv]) (by rfl) fun v4 => J_evalAll <| J_name (p := .bool simp) hsimp fun v5 => J_evalAll_nil <| notIter_lst (Has.mem (.tail _ (.head _))) ⟨rfl, J_collectL (Has.mem (.tail _ (.head _))) (show 2 ≤ 16777216 by decide) fun vs hvs => ⟨Has.mem (by simp), ?_⟩⟩
    exact J_ctBoundW (Has.mem (by simp)) (ct_nnfC c (.inl rfl) hm hsub [x, y] r h (by decide : 2 ≤ 1000)) (by omega) Has.val (hasAll_pushAll _ hvs) ⟨rfl, .cons (Has.mem (by simp)) .nil⟩ fun v6 => Has.mem (.head _)
end Mine
end

-- C23
section
open PySem PySem.W PyProof.Rows PySem.Calls
set_option maxRecDepth 100000
set_option maxHeartbeats 1000000
namespace Mine
def gNot : PV → Option PV
  | .fm f => (notE (.f f)).map Ex.pv
  | _ => none
theorem notL_map : ∀ {as : List Fm} {l : List Ex}, notL (as.map .f) = some l → (∀ f ∈ as, ∃ e, notE (.f f) = some e) ∧ (as.map PV.fm).filterMap gNot = l.map Ex.pv ∧ l.length = as.length
  | [], l, h => by cases h; exact ⟨nofun, rfl, rfl⟩
  | f :: fs, l, h => by
    obtain ⟨y, hy, h⟩ := Option.bind_eq_some_iff.mp h
    obtain ⟨l', hl, h⟩ := Option.bind_eq_some_iff.mp h
    cases h
    obtain ⟨h1, h2, h3⟩ := notL_map hl
    refine ⟨fun g hg => ?_, ?_, by simp [h3]⟩
    · rcases List.mem_cons.mp hg with rfl | hg
      · exact ⟨y, hy⟩
      · exact h1 g hg
    · show List.filterMap gNot (PV.fm f :: fs.map PV.fm) = _
      rw [List.filterMap_cons_some (show gNot (.fm f) = some y.pv by simp [gNot, hy]), h2]
      rfl
inductive NotCase (sub : Ex → Option Ex) (simp : Bool) (r : Ex) : Kd → List Fm → Prop
  | and {as l} : notL (as.map .f) = some l → nnfC sub .or simp l = some r → as.length ≤ 1000 → NotCase sub simp r .and as
  | or {as l} : notL (as.map .f) = some l → nnfC sub .and simp l = some r → as.length ≤ 1000 → NotCase sub simp r .or as
  | imp {a b nb} : notE (.f b) = some nb → nnfC sub .and simp [.f a, nb] = some r → NotCase sub simp r .imp [a, b]
  | eqv {a b na nb x y} : latE .or [.f a, .f b] = some x → notE (.f a) = some na → notE (.f b) = some nb → latE .or [na, nb] = some y → nnfC sub .and simp [x, y] = some r → NotCase sub simp r .eqv [a, b]
  | xor {a b na nb x y} : Fm.beq a b = false → notE (.f a) = some na → latE .or [na, .f b] = some x → notE (.f b) = some nb → latE .or [.f a, nb] = some y → nnfC sub .and simp [x, y] = some r → NotCase sub simp r .xor [a, b]
def NXorI (a b : Fm) (simp : Bool) (l : List Ex) (σ : AS) : Prop := (∃ o : Addr, σ.own = some (("result" : Str), o, l.map Ex.pv)) ∧ σ.ρ.lookup ("args" : Str) = some (.tup [.fm a, .fm b]) ∧ σ.ρ.lookup ("simplify" : Str) = some (.bool simp)
/-- Not.to_nnf -/
theorem ct_notNnf (c : Cx) {m : Nat} (hm : 40 ≤ m) {sub : Ex → Option Ex} {simp : Bool} (hsub : SubOk c m simp sub) (k : Kd) (as : List Fm) (r : Ex) (hlit : litF 5 (.f (.node .not [.node k as])) = some false) (h : NotCase sub simp r k as) :
    CTw c (m + 5) (.ref 374) [.fm (.node .not [.node k as]), .bool simp] [] r.pv := by
  refine CTw_def (n := m + 4) (f := 374) (by rfl) rfl rfl (by rfl) (bind2e (by rfl) (by rfl) (by rfl) (fun a b => by rfl) (fun a b => by rfl)) (by decide) (kindsN (by rfl)) ?_
  intro s₀ F₀ L stk
  refine J_execs_cons <| J_if <| J_isTrue <| J_CallName <| J_G (v := .ref 614) (by kernel_rfl) (by rfl) <| J_callBase (by kernel_rfl) <| J_evalArgs <| J_spliced <| J_name (p := .fm (.node .not [.node k as])) (by rfl) fun v1 => J_spliced_nil <| J_ct (ct_lit c 5 (.f (.node .not [.node k as])) false hlit) (by omega) (.cons (Has.mem (.head _)) .nil) fun v2 => J_known (w := .bool false) (Has.bv (Has.mem (.head _))) <| J_truthyB ?_
  refine J_execs_nil <| J_execs_cons <| J_Assign <| J_Subscript <| J_Attribute <| J_name (p := .fm (.node .not [.node k as])) (by rfl) fun v3 => J_args (Has.mem (.head _)) fun v4 => J_int fun t1 => J_tailT (k := 0) (j := 0) (Has.mem (.head _)) Has.int (by rfl) (by rfl) fun v5 => J_store (p := .fm (.node k as)) (Has.mem (.head _)) (by rfl) (by rfl) ?_
  refine J_execs_cons <| J_Assign <| J_Attribute <| J_name (p := .fm (.node k as)) (by rfl) fun v6 => J_args (Has.mem (.head _)) fun v7 => J_store (p := .tup (as.map .fm)) (Has.mem (.head _)) (by rfl) (by rfl) ?_
  refine J_execs_cons <| J_if <| J_isTrue <| J_CallName <| J_Bt (v := .builtin "isinstance") (by kernel_rfl) (by rfl) (by decide) (by rfl) <| J_callImm <| J_evalArgs <| J_spliced <| J_name (p := .fm (.node k as)) (by rfl) fun v8 => J_spliced <| J_G (v := .ref 268) (by kernel_rfl) (by rfl) <| J_spliced_nil <| J_isiE (e := .f (.node k as)) (Has.mem (.head _)) (isi_kd c.w .and _) <| J_truthyB ?_
  cases h with
  | and hl hn hlen =>
    rename_i l
    obtain ⟨h1, h2, h3⟩ := notL_map hl
    refine J_execs_cons <| J_return <| J_CallAttr <| J_G (v := .ref (kC .or)) (by kernel_rfl) (by rfl) <| J_calleeStar <| J_cm (readsK c.w .or) (nnfC_find c.w .or) (nnfRec c.w) fun v9 => ?_
    refine J_callBound (Has.mem (.head _)) (nnfFnIn c.w) <| J_evalStar <| J_ListComp (ρ₂ := []) (g := gNot) (J_name (p := .tup (as.map .fm)) (by rfl) fun v10 => ⟨as.map .fm, iterK_tup (Has.mem (.head _)), ?el, Sees.nil, by rw [List.length_map]; omega, fun v11 => ?_⟩) (by rfl)
    case el =>
      intro p hp s₁ F₁ C pin v
      obtain ⟨f, hf, rfl⟩ := List.mem_map.mp hp
      obtain ⟨e, he⟩ := h1 f hf
      exact J_assignName (J_store (Has.mem (.head _)) (by rfl) (by rfl) (J_ok0 ⟨e.pv, by simp [gNot, he], J_CallName <| J_G (v := .ref 385) (by kernel_rfl) (by rfl) <| J_callBase (by kernel_rfl) <| J_evalArgs <| J_spliced <| J_name (p := .fm f) (by rfl) fun v12 => J_spliced_nil <| J_ct (ct_Not c he) (by omega) (.cons (Has.mem (.head _)) .nil) fun v13 => Has.mem (.head _)⟩))
    rw [h2]
    refine J_evalAll <| J_name (p := .bool simp) (by rfl) fun v14 => J_evalAll_nil <| notIter_lst (Has.mem (.tail _ (.head _))) ⟨rfl, J_collectL (Has.mem (.tail _ (.head _))) (by rw [List.length_map, h3, sizeLine_is]; omega) fun vs hvs => ⟨Has.mem (by simp), ?_⟩⟩
    exact J_ctBoundW (Has.mem (by simp)) (ct_nnfC c (.inr rfl) hm hsub l r hn (by omega)) (by omega) Has.val (hasAll_pushAll _ hvs) ⟨rfl, .cons (Has.mem (by simp)) .nil⟩ fun v15 => Has.mem (.head _)
  | or hl hn hlen =>
    rename_i l
    obtain ⟨h1, h2, h3⟩ := notL_map hl
    refine J_execs_nil <| J_execs_cons <| J_if <| J_isTrue <| J_CallName <| J_Bt (v := .builtin "isinstance") (by kernel_rfl) (by rfl) (by decide) (by rfl) <| J_callImm <| J_evalArgs <| J_spliced <| J_name (p := .fm (.node .or as)) (by rfl) fun v8 => J_spliced <| J_G (v := .ref 349) (by kernel_rfl) (by rfl) <| J_spliced_nil <| J_isiE (e := .f (.node .or as)) (Has.mem (.head _)) (isi_kd c.w .or _) <| J_truthyB ?_
    refine J_execs_cons <| J_return <| J_CallAttr <| J_G (v := .ref (kC .and)) (by kernel_rfl) (by rfl) <| J_calleeStar <| J_cm (readsK c.w .and) (nnfC_find c.w .and) (nnfRec c.w) fun v9 => ?_
    refine J_callBound (Has.mem (.head _)) (nnfFnIn c.w) <| J_evalStar <| J_ListComp (ρ₂ := []) (g := gNot) (J_name (p := .tup (as.map .fm)) (by rfl) fun v10 => ⟨as.map .fm, iterK_tup (Has.mem (.head _)), ?el, Sees.nil, by rw [List.length_map]; omega, fun v11 => ?_⟩) (by rfl)
    case el =>
      intro p hp s₁ F₁ C pin v
      obtain ⟨f, hf, rfl⟩ := List.mem_map.mp hp
      obtain ⟨e, he⟩ := h1 f hf
      exact J_assignName (J_store (Has.mem (.head _)) (by rfl) (by rfl) (J_ok0 ⟨e.pv, by simp [gNot, he], J_CallName <| J_G (v := .ref 385) (by kernel_rfl) (by rfl) <| J_callBase (by kernel_rfl) <| J_evalArgs <| J_spliced <| J_name (p := .fm f) (by rfl) fun v12 => J_spliced_nil <| J_ct (ct_Not c he) (by omega) (.cons (Has.mem (.head _)) .nil) fun v13 => Has.mem (.head _)⟩))
    rw [h2]
    refine J_evalAll <| J_name (p := .bool simp) (by rfl) fun v14 => J_evalAll_nil <| notIter_lst (Has.mem (.tail _ (.head _))) ⟨rfl, J_collectL (Has.mem (.tail _ (.head _))) (by rw [List.length_map, h3, sizeLine_is]; omega) fun vs hvs => ⟨Has.mem (by simp), ?_⟩⟩
    exact J_ctBoundW (Has.mem (by simp)) (ct_nnfC c (.inl rfl) hm hsub l r hn (by omega)) (by omega) Has.val (hasAll_pushAll _ hvs) ⟨rfl, .cons (Has.mem (by simp)) .nil⟩ fun v15 => Has.mem (.head _)
  | imp hnb hn =>
    rename_i a b nb
    refine J_execs_nil <| J_execs_cons <| J_if <| J_isTrue <| J_CallName <| J_Bt (v := .builtin "isinstance") (by kernel_rfl) (by rfl) (by decide) (by rfl) <| J_callImm <| J_evalArgs <| J_spliced <| J_name (p := .fm (.node .imp [a, b])) (by rfl) fun v8 => J_spliced <| J_G (v := .ref 349) (by kernel_rfl) (by rfl) <| J_spliced_nil <| J_isiE (e := .f (.node .imp [a, b])) (Has.mem (.head _)) (isi_kd c.w .or _) <| J_truthyB ?_
    refine J_execs_nil <| J_execs_cons <| J_if <| J_isTrue <| J_CallName <| J_Bt (v := .builtin "isinstance") (by kernel_rfl) (by rfl) (by decide) (by rfl) <| J_callImm <| J_evalArgs <| J_spliced <| J_name (p := .fm (.node .imp [a, b])) (by rfl) fun v8 => J_spliced <| J_G (v := .ref 448) (by kernel_rfl) (by rfl) <| J_spliced_nil <| J_isiE (e := .f (.node .imp [a, b])) (Has.mem (.head _)) (isi_kd c.w .imp _) <| J_truthyB ?_
    refine J_execs_cons <| J_AssignTuple <| J_name (p := .tup [.fm a, .fm b]) (by rfl) fun v2 => J_unpack (xs := [.fm a, .fm b]) (Has.mem (.head _)) (by rfl) (by rfl) fun vs hvs => ?_
    match vs, hvs with
    | [x, y], _ =>
      refine J_inOrder <| J_assignName <| J_store (p := .fm a) (Has.mem (by simp)) (by rfl) (by rfl) <| J_inOrder <| J_assignName <| J_store (p := .fm b) (Has.mem (by simp)) (by rfl) (by rfl) <| J_inOrder_nil ?_
      refine J_execs_cons <| J_return <| J_CallAttr <| J_G (v := .ref (kC .and)) (by kernel_rfl) (by rfl) <| J_calleeFew fun pl => J_methC (getK c.w .and) <| J_cm (readsK c.w .and) (nnfC_find c.w .and) (nnfRec c.w) fun v3 => ?_
      refine J_callBound (Has.mem (.head _)) (nnfFnIn c.w) <| J_evalKw <| J_spliced <| J_name (p := .fm a) (by rfl) fun v6 => J_spliced <| J_CallName <| J_G (v := .ref 385) (by kernel_rfl) (by rfl) <| J_callBase (by kernel_rfl) <| J_evalArgs <| J_spliced <| J_name (p := .fm b) (by rfl) fun v4 => J_spliced_nil <| J_ct (ct_Not c hnb) (by omega) (.cons (Has.mem (.head _)) .nil) fun v5 => J_spliced_nil <| J_evalAll <| J_name (p := .bool simp) (by rfl) fun v7 => J_evalAll_nil ⟨Has.mem (by simp), ?_⟩
      exact J_ctBoundW (Has.mem (by simp)) (ct_nnfC c (.inl rfl) hm hsub [.f a, nb] r hn (by decide : 2 ≤ 1000)) (by omega) Has.val (.cons (Has.mem (by simp [Ex.pv])) (.cons (Has.mem (by simp [Ex.pv])) .nil)) ⟨rfl, .cons (Has.mem (by simp)) .nil⟩ fun v8 => Has.mem (.head _)
  | eqv hx hna hnb hy hn =>
    rename_i a b na nb x y
    have hl : notL ([a, b].map .f) = some [na, nb] := by simp [notL, hna, hnb]
    obtain ⟨h1, h2, h3⟩ := notL_map hl
    refine J_execs_nil <| J_execs_cons <| J_if <| J_isTrue <| J_CallName <| J_Bt (v := .builtin "isinstance") (by kernel_rfl) (by rfl) (by decide) (by rfl) <| J_callImm <| J_evalArgs <| J_spliced <| J_name (p := .fm (.node .eqv [a, b])) (by rfl) fun v8 => J_spliced <| J_G (v := .ref 349) (by kernel_rfl) (by rfl) <| J_spliced_nil <| J_isiE (e := .f (.node .eqv [a, b])) (Has.mem (.head _)) (isi_kd c.w .or _) <| J_truthyB ?_
    refine J_execs_nil <| J_execs_cons <| J_if <| J_isTrue <| J_CallName <| J_Bt (v := .builtin "isinstance") (by kernel_rfl) (by rfl) (by decide) (by rfl) <| J_callImm <| J_evalArgs <| J_spliced <| J_name (p := .fm (.node .eqv [a, b])) (by rfl) fun v8 => J_spliced <| J_G (v := .ref 448) (by kernel_rfl) (by rfl) <| J_spliced_nil <| J_isiE (e := .f (.node .eqv [a, b])) (Has.mem (.head _)) (isi_kd c.w .imp _) <| J_truthyB ?_
    refine J_execs_nil <| J_execs_cons <| J_if <| J_isTrue <| J_CallName <| J_Bt (v := .builtin "isinstance") (by kernel_rfl) (by rfl) (by decide) (by rfl) <| J_callImm <| J_evalArgs <| J_spliced <| J_name (p := .fm (.node .eqv [a, b])) (by rfl) fun v8 => J_spliced <| J_G (v := .ref 481) (by kernel_rfl) (by rfl) <| J_spliced_nil <| J_isiE (e := .f (.node .eqv [a, b])) (Has.mem (.head _)) (isi_kd c.w .eqv _) <| J_truthyB ?_
    refine J_execs_cons <| J_return <| J_CallAttr <| J_G (v := .ref (kC .and)) (by kernel_rfl) (by rfl) <| J_calleeFew fun pl => J_methC (getK c.w .and) <| J_cm (readsK c.w .and) (nnfC_find c.w .and) (nnfRec c.w) fun v9 => ?_
    refine J_callBound (Has.mem (.head _)) (nnfFnIn c.w) <| J_evalKw <| J_spliced <| J_CallName <| J_G (v := .ref 349) (by kernel_rfl) (by rfl) <| J_callBase (by kernel_rfl) <| J_evalStar <| J_name (p := .tup [.fm a, .fm b]) (by rfl) fun v10 => J_evalAll_nil <| notIter_tup (Has.mem (.head _)) ⟨rfl, J_collectT (Has.mem (.head _)) (show 2 ≤ 16777216 by decide) fun vs hvs => ?_⟩
    refine J_ct (ct_lat c (.inr rfl) [.f a, .f b] x hx (by decide : 2 ≤ 1000)) (by omega) (hasAll_pushAll _ hvs) fun w1 => J_spliced <| J_CallName <| J_G (v := .ref 349) (by kernel_rfl) (by rfl) <| J_callBase (by kernel_rfl) <| J_evalStar <| J_ListComp (ρ₂ := []) (g := gNot) (J_name (p := .tup [.fm a, .fm b]) (by rfl) fun v11 => ⟨[a, b].map .fm, iterK_tup (Has.mem (.head _)), ?el, Sees.nil, (show 2 ≤ 1000000 by decide), fun v12 => ?_⟩) (by rfl)
    case el =>
      intro p hp s₁ F₁ C pin v
      obtain ⟨f, hf, rfl⟩ := List.mem_map.mp hp
      obtain ⟨e, he⟩ := h1 f hf
      exact J_assignName (J_store (Has.mem (.head _)) (by rfl) (by rfl) (J_ok0 ⟨e.pv, by simp [gNot, he], J_CallName <| J_G (v := .ref 385) (by kernel_rfl) (by rfl) <| J_callBase (by kernel_rfl) <| J_evalArgs <| J_spliced <| J_name (p := .fm f) (by rfl) fun v12 => J_spliced_nil <| J_ct (ct_Not c he) (by omega) (.cons (Has.mem (.head _)) .nil) fun v13 => Has.mem (.head _)⟩))
    rw [h2]
    refine J_evalAll_nil <| notIter_lst (Has.mem (.head _)) ⟨rfl, J_collectL (Has.mem (.head _)) (show 2 ≤ 16777216 by decide) fun ws hws => ?_⟩
    refine J_ct (ct_lat c (.inr rfl) [na, nb] y hy (by decide : 2 ≤ 1000)) (by omega) (hasAll_pushAll _ hws) fun w2 => J_spliced_nil <| J_evalAll <| J_name (p := .bool simp) (by rfl) fun v14 => J_evalAll_nil ⟨Has.mem (by simp), ?_⟩
    exact J_ctBoundW (Has.mem (by simp)) (ct_nnfC c (.inl rfl) hm hsub [x, y] r hn (by decide : 2 ≤ 1000)) (by omega) Has.val (.cons (Has.mem (by simp)) (.cons (Has.mem (by simp)) .nil)) ⟨rfl, .cons (Has.mem (by simp)) .nil⟩ fun v15 => Has.mem (.head _)
  | xor hab hna hx hnb hy hn =>
    rename_i a b na nb x y
    have hba : Fm.beq b a = false := by
      cases q : Fm.beq b a with
      | false => rfl
      | true => rw [beq_iff.mp q, beq_iff.mpr rfl] at hab; cases hab
    have o1 : oppE [a] a = some na := by unfold oppE; rw [show inE (.f a) ([a].map .f) = true by simp [inE, Ex.eq, beq_iff.mpr rfl], if_pos rfl]; exact hna
    have o2 : oppE [a] b = some (.f b) := by unfold oppE; rw [show inE (.f b) ([a].map .f) = false by simp [inE, Ex.eq, hab], if_neg (by simp)]
    have o3 : oppE [b] a = some (.f a) := by unfold oppE; rw [show inE (.f a) ([b].map .f) = false by simp [inE, Ex.eq, hba], if_neg (by simp)]
    have o4 : oppE [b] b = some nb := by unfold oppE; rw [show inE (.f b) ([b].map .f) = true by simp [inE, Ex.eq, beq_iff.mpr rfl], if_pos rfl]; exact hnb
    refine J_execs_nil <| J_execs_cons <| J_if <| J_isTrue <| J_CallName <| J_Bt (v := .builtin "isinstance") (by kernel_rfl) (by rfl) (by decide) (by rfl) <| J_callImm <| J_evalArgs <| J_spliced <| J_name (p := .fm (.node .xor [a, b])) (by rfl) fun v8 => J_spliced <| J_G (v := .ref 349) (by kernel_rfl) (by rfl) <| J_spliced_nil <| J_isiE (e := .f (.node .xor [a, b])) (Has.mem (.head _)) (isi_kd c.w .or _) <| J_truthyB ?_
    refine J_execs_nil <| J_execs_cons <| J_if <| J_isTrue <| J_CallName <| J_Bt (v := .builtin "isinstance") (by kernel_rfl) (by rfl) (by decide) (by rfl) <| J_callImm <| J_evalArgs <| J_spliced <| J_name (p := .fm (.node .xor [a, b])) (by rfl) fun v8 => J_spliced <| J_G (v := .ref 448) (by kernel_rfl) (by rfl) <| J_spliced_nil <| J_isiE (e := .f (.node .xor [a, b])) (Has.mem (.head _)) (isi_kd c.w .imp _) <| J_truthyB ?_
    refine J_execs_nil <| J_execs_cons <| J_if <| J_isTrue <| J_CallName <| J_Bt (v := .builtin "isinstance") (by kernel_rfl) (by rfl) (by decide) (by rfl) <| J_callImm <| J_evalArgs <| J_spliced <| J_name (p := .fm (.node .xor [a, b])) (by rfl) fun v8 => J_spliced <| J_G (v := .ref 481) (by kernel_rfl) (by rfl) <| J_spliced_nil <| J_isiE (e := .f (.node .xor [a, b])) (Has.mem (.head _)) (isi_kd c.w .eqv _) <| J_truthyB ?_
    refine J_execs_nil <| J_execs_cons <| J_if <| J_isTrue <| J_CallName <| J_Bt (v := .builtin "isinstance") (by kernel_rfl) (by rfl) (by decide) (by rfl) <| J_callImm <| J_evalArgs <| J_spliced <| J_name (p := .fm (.node .xor [a, b])) (by rfl) fun v8 => J_spliced <| J_G (v := .ref 409) (by kernel_rfl) (by rfl) <| J_spliced_nil <| J_isiE (e := .f (.node .xor [a, b])) (Has.mem (.head _)) (isi_kd c.w .xor _) <| J_truthyB ?_
    refine J_execs_cons (J_assignOwn (J_spliced_nil ⟨by rfl, [], .nil, Nat.zero_le _, fun l => ?_⟩) (by rfl))
    refine J_execs_cons (J_mono (Φ := fun fl σ => fl = .next ∧ NXorI a b simp [x, y] σ) ?_ fun fl σ z => ?_)
    · refine J_for <| J_CallName <| J_Bt (v := .type "range") (by kernel_rfl) (by rfl) (by decide) (by rfl) <| J_callImm <| J_evalArgs <| J_spliced <| J_int fun t1 => J_spliced <| J_BinOp <| J_CallName <| J_Bt (v := .builtin "len") (by kernel_rfl) (by rfl) (by decide) (by rfl) <| J_callImm <| J_evalArgs <| J_spliced <| J_name (p := .tup [.fm a, .fm b]) (by rfl) fun v2 => J_spliced_nil <| J_lenT (Has.mem (.head _)) (show 2 ≤ 16777216 by decide) fun t2 => J_int fun t3 => J_addInt Has.int Has.int fun t4 => J_spliced <| J_int fun t5 => J_spliced_nil <| J_range3 (a := 1) (b := 3) (d := 2) Has.int Has.int Has.int (by decide) (by decide +kernel) fun w t6 t7 t8 => ⟨[.int 1], iterOf_range (Has.mem (.head _)) (by decide +kernel) (by decide +kernel) ⟨rfl, trivial⟩, ?_⟩
      intro v F₁ pin
      refine J_assignName (J_store (p := .int 1) (Has.mem (.head _)) (by rfl) (by rfl) ?_)
      refine J_execs_cons (J_mono (Φ := fun fl σ => fl = .next ∧ NXorI a b simp [x, y] σ) ?_ fun fl σ' z => ?_)
      · refine J_forW <| JI_CallName <| J_G (v := .ref cmbC) (by kernel_rfl) (by rfl) <| JI_callBase (by kernel_rfl) <| J_evalArgs <| J_spliced <| J_name (p := .tup [.fm a, .fm b]) (by rfl) fun v4 => J_spliced <| J_name (p := .int 1) (by rfl) fun v5 => J_spliced_nil <| JI_comb (r := 1) (p := .fm a) (q := .fm b) (by omega) (fun it v => by rfl) (by decide) (Has.mem (.tail _ (.head _))) (Has.mem (.head _)) ?_
        refine ForJ_ind (fun ps σ => (ps = [.tup [.fm a], .tup [.fm b]] ∧ NXorI a b simp [] σ) ∨ (ps = [.tup [.fm b]] ∧ NXorI a b simp [x] σ) ∨ (ps = [] ∧ NXorI a b simp [x, y] σ)) ?_ ?_ _ _ (.inl ⟨rfl, ⟨l, by rfl⟩, by rfl, by rfl⟩)
        · rintro σ (⟨e, _⟩ | ⟨e, _⟩ | ⟨_, hI⟩)
          · cases e
          · cases e
          · exact J_execs_nil ⟨rfl, hI⟩
        · intro p ps σ hP w1 F₂ pin₂
          obtain ⟨negs, e1, e2, res, l, l', rfl, h1, h2, h3, hI, hll, rfl, hnext⟩ : ∃ (negs : List Fm) (e1 e2 res : Ex) (l l' : List Ex), p = .tup (negs.map .fm) ∧ oppE negs a = some e1 ∧ oppE negs b = some e2 ∧ latE .or [e1, e2] = some res ∧ NXorI a b simp l σ ∧ l.length ≤ 2 ∧ l' = l ++ [res] ∧ ∀ σ', NXorI a b simp l' σ' → (ps = [.tup [.fm a], .tup [.fm b]] ∧ NXorI a b simp [] σ') ∨ (ps = [.tup [.fm b]] ∧ NXorI a b simp [x] σ') ∨ (ps = [] ∧ NXorI a b simp [x, y] σ') := by
            rcases hP with ⟨e, hI⟩ | ⟨e, hI⟩ | ⟨e, hI⟩
            · cases e
              exact ⟨[a], na, .f b, x, [], [x], rfl, o1, o2, hx, hI, by decide, rfl, fun σ' z => .inr (.inl ⟨rfl, z⟩)⟩
            · cases e
              exact ⟨[b], .f a, nb, y, [x], [x, y], rfl, o3, o4, hy, hI, by simp, rfl, fun σ' z => .inr (.inr ⟨rfl, z⟩)⟩
            · cases e
          obtain ⟨⟨o, hown⟩, hargs, hsimp⟩ := hI
          refine J_assignName (J_storeCell (p := .tup (negs.map .fm)) (Has.mem (.head _)) (by rfl) (by rfl) (by rfl) ?_)
          refine J_execs_cons (J_AssignComp (ρ₂ := [(("neg" : Str), .tup (negs.map .fm))]) (g := gN negs) (J_name hargs fun v7 => ⟨[.fm a, .fm b], iterK_tup (Has.mem (.head _)), ?el, ?sees, (show 2 ≤ 1000000 by decide), (by rw [hown]; rfl), fun v8 => ?_⟩) (by rfl) (by rfl) (by rfl))
          case el =>
            intro p hp s₁ F₃ C pin₃ v9
            obtain ⟨f, e, rfl, he⟩ : ∃ f e, p = .fm f ∧ oppE negs f = some e := by
              rcases List.mem_cons.mp hp with rfl | hp
              · exact ⟨a, e1, rfl, h1⟩
              · obtain rfl := List.mem_singleton.mp hp
                exact ⟨b, e2, rfl, h2⟩
            refine J_assignName (J_store (Has.mem (.head _)) (by rfl) (by rfl) (J_ok0 ⟨e.pv, by simp [gN, he], ?_⟩))
            refine J_ifexp <| J_isTrueIn (neg := false) <| J_name (p := .fm f) (by rfl) fun v10 => J_name (p := .tup (negs.map .fm)) (by rfl) fun v11 => J_inTup (x := .f f) (ys := negs.map Ex.f) (by omega) (Has.mem (.tail _ (.head _))) (by rw [fms_map]; exact Has.mem (.head _)) ?_
            unfold oppE at he
            cases hin : inE (.f f) (negs.map .f) with
            | true =>
              rw [hin, if_pos rfl] at he
              exact J_CallName <| J_G (v := .ref 385) (by kernel_rfl) (by rfl) <| J_callBase (by kernel_rfl) <| J_evalArgs <| J_spliced <| J_name (p := .fm f) (by rfl) fun v12 => J_spliced_nil <| J_ct (ct_Not c he) (by omega) (.cons (Has.mem (.head _)) .nil) fun v13 => Has.mem (.head _)
            | false =>
              rw [hin, if_neg (by simp)] at he
              cases he
              exact J_name (p := .fm f) (by rfl) fun v12 => Has.mem (.head _)
          case sees =>
            intro q hq
            obtain rfl := List.mem_singleton.mp hq
            exact ⟨by rfl, fun C => .inl (by rfl), (show (some NameKind.cell : Option NameKind) ≠ some .local by decide), by rfl⟩
          rw [gN_two h1 h2]
          refine J_execs_cons <| J_Expr <| J_CallAttr <| J_nameOwn hown <| J_calleeFew fun pl => J_methOwn hown PySem.F.slot_list_append PySem.F.type_list_append <| J_callImm <| J_evalArgs <| J_spliced <| J_CallName <| J_G (v := .ref 349) (by kernel_rfl) (by rfl) <| J_callBase (by kernel_rfl) <| J_evalStar <| J_name (p := .lst [e1.pv, e2.pv]) (by rfl) fun w2 => J_evalAll_nil <| notIter_lst (Has.mem (.head _)) ⟨rfl, J_collectL (Has.mem (.head _)) (show 2 ≤ 16777216 by decide) fun vs hvs => ?_⟩
          refine J_ct (ct_lat c (.inr rfl) [e1, e2] res h3 (by decide : 2 ≤ 1000)) (by omega) (hasAll_pushAll _ hvs) fun w3 => J_spliced_nil <| J_append hown (Has.mem (.head _)) (by rw [List.length_map, sizeLine_is]; omega) ⟨none_noRef, ?_⟩
          exact J_execs_nil (hnext _ ⟨⟨o, by simp⟩, hargs, hsimp⟩)
      · obtain ⟨rfl, hI⟩ := z
        exact J_execs_nil (J_execs_nil ⟨rfl, hI⟩)
    · obtain ⟨rfl, ⟨o, hown⟩, hargs, hsimp⟩ := z
      refine J_freeze hown <| J_execs_cons <| J_return <| J_CallAttr <| J_G (v := .ref (kC .and)) (by kernel_rfl) (by rfl) <| J_calleeStar <| J_cm (readsK c.w .and) (nnfC_find c.w .and) (nnfRec c.w) fun v3 => ?_
      refine J_callBound (Has.mem (.head _)) (nnfFnIn c.w) <| J_evalStar <| J_name (p := .lst [x.pv, y.pv]) (by rfl) fun v4 => J_evalAll <| J_name (p := .bool simp) hsimp fun v5 => J_evalAll_nil <| notIter_lst (Has.mem (.tail _ (.head _))) ⟨rfl, J_collectL (Has.mem (.tail _ (.head _))) (show 2 ≤ 16777216 by decide) fun vs hvs => ⟨Has.mem (by simp), ?_⟩⟩
      exact J_ctBoundW (Has.mem (by simp)) (ct_nnfC c (.inl rfl) hm hsub [x, y] r hn (by decide : 2 ≤ 1000)) (by omega) Has.val (hasAll_pushAll _ hvs) ⟨rfl, .cons (Has.mem (by simp)) .nil⟩ fun v6 => Has.mem (.head _)
end Mine
end

-- J31
section
open PySem PySem.W PyProof.Rows PySem.Calls
set_option maxRecDepth 100000
set_option maxHeartbeats 1000000
namespace Mine
section
variable {prog : Program} {w : World} {A : Around} {E : Value → Shared → Prop} {s : Shared}
/-- a tuple's iterator drawn upon: the item there is -/
theorem tupNext_some {it t : Addr} {i : Nat} {items : Array Value} {x : Value} {Q : Value → Shared → Prop} (hit : IsTupIter s.heap it t i) (ht : IsTup s.heap t items) (hx : items[i]? = some x)
    (hQ : ∀ h', IsTupIter h' it t (i + 1) → Heap.SameBut it s.heap h' → Q x { s with heap := h' }) : wpAny (model prog w) A (Builtin.SmallTypes.nextOf (.ref it)) Q E s := by
  obtain ⟨o, ho, hc, hd⟩ := id hit
  obtain ⟨ol, hol, _, nl, hdl⟩ := ht
  have sb := Heap.SameBut.update s.heap it (Obj.mapFields (·.setIfInBounds 1 (rawInt ((i : Int) + 1))))
  have up := Heap.get?_update_self (Obj.mapFields (·.setIfInBounds 1 (rawInt ((i : Int) + 1)))) ho (Obj.isFreed_of_fields (Obj.data_mapFields hd _))
  have hit' : IsTupIter (s.heap.update it (Obj.mapFields (·.setIfInBounds 1 (rawInt ((i : Int) + 1))))) it t (i + 1) := ⟨_, up, (Obj.cls_mapFields ..).trans hc, by rw [Obj.data_mapFields hd]; simp [rawInt]⟩
  unfold Builtin.SmallTypes.nextOf
  refine wpAny_bind (wpAny_callSpecial?_slot (name := Str.ofString "__next__") hit.typeIs slot_tupleiter_next (wpAny_call_entry slot_tupleiter_next hit.typeIs entry_tupleiter_next ?_ (args_tupleiter_next _)))
  refine wpAny_bind (m := field (.ref it) 0) (wpAny_field ho hd (x := .ref t) rfl ?_)
  refine wpAny_ite_split (fun z => absurd z Bool.false_ne_true) fun _ => ?_
  refine wpAny_bind (m := field (.ref it) 1) (wpAny_field ho hd (x := .int i 0) rfl (wpAny_bind (m := seqItems? (.ref t)) (wpAny_seqItems hol hdl ?_)))
  simp only [Int.toNat_natCast, hx]
  exact wpAny_bind (wpAny_setField ho hd (by simp) (wpAny_pure ⟨x, rfl, wpAny_pure (hQ _ hit' sb)⟩))
/-- none is left -/
theorem tupNext_none {it t : Addr} {i : Nat} {items : Array Value} {Q : Value → Shared → Prop} (hh : A.handled = none) (hit : IsTupIter s.heap it t i) (ht : IsTup s.heap t items) (hx : items[i]? = none)
    (hE : ∀ h' e, Heap.ExtBut it s.heap h' → (∃ o, h'.get? e = some o ∧ o.cls = .type "StopIteration") → E (.ref e) { s with heap := h' }) : wpAny (model prog w) A (Builtin.SmallTypes.nextOf (.ref it)) Q E s := by
  obtain ⟨o, ho, hc, hd⟩ := id hit
  obtain ⟨ol, hol, _, nl, hdl⟩ := ht
  unfold Builtin.SmallTypes.nextOf
  refine wpAny_bind (wpAny_callSpecial?_slot (name := Str.ofString "__next__") hit.typeIs slot_tupleiter_next (wpAny_call_entry slot_tupleiter_next hit.typeIs entry_tupleiter_next ?_ (args_tupleiter_next _)))
  refine wpAny_bind (m := field (.ref it) 0) (wpAny_field ho hd (x := .ref t) rfl ?_)
  refine wpAny_ite_split (fun z => absurd z Bool.false_ne_true) fun _ => ?_
  refine wpAny_bind (m := field (.ref it) 1) (wpAny_field ho hd (x := .int i 0) rfl (wpAny_bind (m := seqItems? (.ref t)) (wpAny_seqItems hol hdl ?_)))
  simp only [Int.toNat_natCast, hx]
  refine wpAny_bind (wpAny_rule (wpAny_bind (wpAny_setField ho hd (by simp) ?_)))
  refine wpAny_bind (m := newExc (.type "StopIteration") []) ?_
  simp only [newExc, newTuple]
  refine wpAny_bind (wpAny_newObj_type ?_ (by size_fits))
  refine wpAny_bind (m := firstArgMember _ _) (wpAny_of_eq (a := Value.none) (by first | rfl | (simp only [firstArgMember]; rfl)) (wpAny_newObj_type ?_ (by size_fits)))
  simp only [raiseNew]
  refine wpAny_bind (wpAny_handled ?_)
  first | rw [show A.in1.handled = none from hh] | rw [hh]
  exact wpAny_bind (wpAny_pure (wpAny_throw (hE _ _ (((Heap.SameBut.update ..).extBut.push _).push _) ⟨_, Heap.get?_push_size _ rfl, rfl⟩)))
theorem tupIter_at {h h' : Heap} {a t : Addr} {i : Nat} (x : IsTupIter h a t i) (e : ∀ o, h.get? a = some o → h'.get? a = some o) : IsTupIter h' a t i := let ⟨o, ho, r⟩ := x; ⟨o, e o ho, r⟩
/-- the parts of a zip over two tuples -/
structure ZipT (h : Heap) (z TI TO i1 i2 t1 t2 : Addr) (k1 k2 : Nat) (f0 : Value) : Prop where
  zip : IsZip h z TI TO f0
  ti : IsPair h TI (.ref i1) (.ref i2)
  to : ∃ a b, IsPair h TO a b
  it1 : IsTupIter h i1 t1 k1
  it2 : IsTupIter h i2 t2 k2
structure ZipApartT (z TI TO i1 i2 t1 t2 : Addr) : Prop where
  zTI : TI ≠ z
  zTO : TO ≠ z
  zi1 : i1 ≠ z
  zi2 : i2 ≠ z
  TOi1 : TO ≠ i1
  TOi2 : TO ≠ i2
  i12 : i1 ≠ i2
  TITO : TI ≠ TO
  TIi1 : TI ≠ i1
  TIi2 : TI ≠ i2
  t1 : t1 ∉ [z, TO, i1, i2]
  t2 : t2 ∉ [z, TO, i1, i2]
theorem zip_step {z TI TO i1 i2 t1 t2 : Addr} {k1 k2 : Nat} {Q : Fin → Shared → Prop} (hh : A.handled = none) (D : ZipApartT z TI TO i1 i2 t1 t2) (Z : ZipT s.heap z TI TO i1 i2 t1 t2 k1 k2 .none) {xs ys : Array Value} {x : Value} (h1 : IsTup s.heap t1 xs) (h2 : IsTup s.heap t2 ys) (hx : xs[k1]? = some x)
    (ok : ∀ y h', ys[k2]? = some y → ZipT h' z TI TO i1 i2 t1 t2 (k1 + 1) (k2 + 1) (rawInt s.heap.objs.size) → IsPair h' s.heap.objs.size x y → ExtOut [z, TO, i1, i2] s.heap h' → Q (.done (.ret (.ref s.heap.objs.size))) { s with heap := h' })
    (er : ys[k2]? = none → ∀ h' e, ExtOut [z, TO, i1, i2] s.heap h' → (∃ o, h'.get? e = some o ∧ o.cls = .type "StopIteration") → E (.ref e) { s with heap := h' }) :
    wpAny (model prog w) A (Builtin.«zip.__next__» ⟨[.ref z], []⟩) Q E s := by
  obtain ⟨hz, hTI, ⟨a, b, hTO⟩, hi1, hi2⟩ := Z
  refine wpAny_bind (m := field (.ref z) 2) (wpAny_field hz rfl (x := .bool false) rfl ?_)
  refine wpAny_bind (m := field (.ref z) 3) (wpAny_field hz rfl (x := .ref TI) rfl (wpAny_bind (wpAny_seqItems hTI rfl ?_)))
  refine wpAny_bind (m := Builtin.SmallTypes.ownedTupleIsFree (.ref z)) ?_
  unfold Builtin.SmallTypes.ownedTupleIsFree
  refine wpAny_bind (wpAny_field hz rfl (x := .none) rfl (wpAny_pure ?_))
  simp only [if_true]
  refine wpAny_bind (wpAny_rule (wpAny_bind (wpAny_field hz rfl (x := .ref TO) rfl (wpAny_bind (wpAny_setField_rec hz (by simp) fun h₁ hz₁ hs₁ => ?_)))))
  refine wpAny_bind ?_
  simp only [List.zipIdx_cons, List.zipIdx_nil, List.forIn_cons, List.forIn_nil]
  refine wpAny_bind (wpAny_bind (wpAny_onRaise ?_))
  refine wpAny_bind (m := Builtin.SmallTypes.nextOf (.ref i1)) (tupNext_some (hi1.extBut hs₁.extBut D.zi1) (h1.extBut hs₁.extBut (fun e => D.t1 (by simp [e]))) hx fun h₂ h1₂ hs₂ => wpAny_pure ?_)
  have hTO₂ : IsPair h₂ TO a b := hs₂.extBut _ _ D.TOi1 (hs₁.extBut _ _ D.zTO hTO)
  refine wpAny_bind (wpAny_seqItems hTO₂ rfl (wpAny_bind (wpAny_updateSeq_pair hTO₂ fun h₃ hTO₃ hs₃ => wpAny_bind (wpAny_letGo (wpAny_pure ?_)))))
  have hz₃ : IsZip h₃ z TI TO .ellipsis := hs₃.extBut _ _ (Ne.symm D.zTO) (hs₂.extBut _ _ (Ne.symm D.zi1) hz₁)
  have hi1₃ : IsTupIter h₃ i1 t1 (k1 + 1) := h1₂.extBut hs₃.extBut (Ne.symm D.TOi1)
  have ex₃ : ExtOut [z, TO, i1, i2] s.heap h₃ := fun c o hc e => hs₃.extBut _ _ (fun q => hc (by simp [q])) (hs₂.extBut _ _ (fun q => hc (by simp [q])) (hs₁.extBut _ _ (fun q => hc (by simp [q])) e))
  have hi2₃ : IsTupIter h₃ i2 t2 k2 := ((hi2.extBut hs₁.extBut D.zi2).extBut hs₂.extBut (Ne.symm D.i12)).extBut hs₃.extBut (Ne.symm D.TOi2)
  have ht2₃ : IsTup h₃ t2 ys := ((h2.extBut hs₁.extBut (fun e => D.t2 (by simp [e]))).extBut hs₂.extBut (fun e => D.t2 (by simp [e]))).extBut hs₃.extBut (fun e => D.t2 (by simp [e]))
  refine wpAny_bind (wpAny_bind (wpAny_onRaise ?_))
  refine wpAny_bind (m := Builtin.SmallTypes.nextOf (.ref i2)) ?_
  cases hy : ys[k2]? with
  | none =>
    refine tupNext_none hh hi2₃ ht2₃ hy fun h₄ e hs₄ he => ?_
    obtain ⟨oe, hoe, hce⟩ := he
    have hz₄ : IsZip h₄ z TI TO .ellipsis := hs₄ _ _ (Ne.symm D.zi2) hz₃
    refine wpAny_setField_rec hz₄ (by simp) fun h₅ _ hs₅ => er hy h₅ e (fun c o hc q => hs₅.extBut _ _ (fun q => hc (by simp [q])) (hs₄ _ _ (fun q => hc (by simp [q])) (ex₃ c o hc q))) ⟨oe, hs₅.extBut _ _ (fun q => by rw [q, hz₄] at hoe; cases hoe; simp at hce) hoe, hce⟩
  | some y =>
    refine tupNext_some hi2₃ ht2₃ hy fun h₄ hi2₄ hs₄ => wpAny_pure ?_
    have hTO₃' : IsPair h₃ TO x b := hTO₃
    have hTO₄ : IsPair h₄ TO x b := hs₄.extBut _ _ D.TOi2 hTO₃'
    refine wpAny_bind (wpAny_seqItems hTO₄ rfl (wpAny_bind (wpAny_updateSeq_pair hTO₄ fun h₅ hTO₅ hs₅ => wpAny_bind (wpAny_letGo (wpAny_pure (wpAny_pure ?_))))))
    have hTO₅' : IsPair h₅ TO x y := hTO₅
    refine wpAny_bind (wpAny_seqItems hTO₅' rfl (wpAny_bind (wpAny_newTuple ?_)))
    have hsz : h₅.objs.size = s.heap.objs.size := by rw [hs₅.1, hs₄.1, hs₃.1, hs₂.1, hs₁.1]
    have hz₅ : IsZip h₅ z TI TO .ellipsis := hs₅.extBut _ _ (Ne.symm D.zTO) (hs₄.extBut _ _ (Ne.symm D.zi2) hz₃)
    have ex₅ : ExtOut [z, TO, i1, i2] s.heap h₅ := fun c o hc e => hs₅.extBut _ _ (fun q => hc (by simp [q])) (hs₄.extBut _ _ (fun q => hc (by simp [q])) (ex₃ c o hc e))
    have hz₆ : IsZip (h₅.push { cls := .type "tuple", data := .seq #[x, y] }) z TI TO .ellipsis := Heap.get?_push_of_some _ hz₅
    refine wpAny_bind (m := Builtin.SmallTypes.ownedTupleHandOut (.ref z) (.ref h₅.objs.size)) ?_
    unfold Builtin.SmallTypes.ownedTupleHandOut
    refine wpAny_bind (wpAny_setField_rec hz₆ (by simp) fun h₇ hz₇ hs₇ => wpAny_setField_rec hz₇ (by simp) fun h₈ hz₈ hs₈ => ?_)
    have up : ∀ c o, c ≠ z → h₅.get? c = some o → h₈.get? c = some o := fun c o c1 e => hs₈.extBut _ _ c1 (hs₇.extBut _ _ c1 (Heap.get?_push_of_some _ e))
    have hzlt : z < h₅.objs.size := Heap.lt_size hz₅
    have hz₈' : IsZip h₈ z TI TO (rawInt h₅.objs.size) := hz₈
    have fin := ok y h₈ hy ⟨by rw [← hsz]; exact hz₈', up _ _ D.zTI (ex₅ _ _ (by simp [D.zTI, D.TITO, D.TIi1, D.TIi2]) hTI), ⟨x, y, up _ _ D.zTO hTO₅'⟩, tupIter_at ((hi1₃.extBut hs₄.extBut D.i12).extBut hs₅.extBut (Ne.symm D.TOi1)) fun o e => up _ o (D.zi1) e, tupIter_at (hi2₄.extBut hs₅.extBut (Ne.symm D.TOi2)) fun o e => up _ o D.zi2 e⟩
      (by rw [← hsz]; exact hs₈.extBut _ _ (Nat.ne_of_gt hzlt) (hs₇.extBut _ _ (Nat.ne_of_gt hzlt) (Heap.get?_push_size _ rfl))) (fun c o hc e => up c o (fun q => hc (by simp [q])) (ex₅ c o hc e))
    refine wpAny_pure ?_
    rw [hsz]
    exact fin
end
end Mine
end

-- J32
section
open PySem PySem.W PyProof.Rows PySem.Calls
set_option maxRecDepth 100000
set_option maxHeartbeats 1000000
namespace Mine
abbrev zipObj (f0 : Value) (TI TO : Addr) : Obj := { cls := .type "zip", dict := none, data := .fields #[f0, .bool false, .bool false, .ref TI, .ref TO], slots := #[] }
abbrev tupIt (t : Addr) : Obj := { cls := .type "tuple_iterator", data := .fields #[.ref t, .int 0 0] }
abbrev zh2 (h : Heap) (t1 t2 : Addr) : Heap := (h.push (tupIt t1)).push (tupIt t2)
abbrev zh4 (h : Heap) (t1 t2 : Addr) : Heap := ((zh2 h t1 t2).push (tupObj [.ref h.objs.size, .ref (h.push (tupIt t1)).objs.size] 0)).push (tupObj [.none, .none] 0)
abbrev zh5 (h : Heap) (t1 t2 : Addr) : Heap := (zh4 h t1 t2).push (zipObj .none (zh2 h t1 t2).objs.size ((zh2 h t1 t2).push (tupObj [.ref h.objs.size, .ref (h.push (tupIt t1)).objs.size] 0)).objs.size)
theorem zipT_new (t1 t2 : Addr) (xs ys : Array Value) : Meets (Builtin.«zip.__new__» ⟨[.type "zip", .ref t1, .ref t2], []⟩) (fun _ R s => IsTup s.heap t1 xs ∧ IsTup s.heap t2 ys ∧ R (.ok (.ret (.ref (zh4 s.heap t1 t2).objs.size))) { s with heap := zh5 s.heap t1 t2 }) :=
  .of_wp fun prog w A R s h => by
    obtain ⟨hp, g, d, tk, os⟩ := s
    obtain ⟨h1, h2, h⟩ := h
    have hsub := sub_zip
    have H1 : IsTup (Shared.heap ⟨hp, g, d, tk, os⟩) t1 xs := h1
    have H2 : IsTup (Shared.heap ⟨hp.push (tupIt t1), g, d, tk, os⟩) t2 ys := IsTup.push h2 _
    wp_walk using iter_tuple H1, iter_tuple H2
    exact ⟨_, rfl, h⟩
section
variable {prog : Program} {w : World} {A : Around} {E : Value → Shared → Prop} {s : Shared}
theorem call_zipT {t1 t2 : Addr} {xs ys : Array Value} {Q : Value → Shared → Prop} (h1 : IsTup s.heap t1 xs) (h2 : IsTup s.heap t2 ys) (h : Q (.ref (zh4 s.heap t1 t2).objs.size) { s with heap := zh5 s.heap t1 t2 }) :
    wpAny (model prog w) A (call (.type "zip") [.ref t1, .ref t2]) Q E s :=
  callType_new F.called_zip (by decide) (F.typeCall_zip_2 _ _) (F.newCall_zip_2 _ _) (fun obj => F.args_object_init_3 obj _ _) F.entry_zip_new (zipT_new t1 t2 xs ys) ⟨h1, h2, ⟨_, Heap.get?_push_size _ rfl, rfl⟩, h⟩
theorem zip_pyNext {z : Addr} {o : Obj} {Q : Option Value → Shared → Prop} (hz : s.heap.get? z = some o) (hc : o.cls = .type "zip")
    (h : wpAny (model prog w) A.in1 (Builtin.«zip.__next__» ⟨[.ref z], []⟩) (fun fin s' => ∃ v, fin = .done (.ret v) ∧ Q (some v) s') (fun e s' => (∃ a, e = .ref a ∧ ∃ o, s'.heap.get? a = some o ∧ o.cls = .type "StopIteration") ∧ Q none s') s) : wpAny (model prog w) A (pyNext (.ref z)) Q E s := by
  have hT : s.TypeIs (.ref z) "zip" := ⟨_, hz, hc⟩
  unfold pyNext
  refine wpAny_bind (wpAny_attempt (wpAny_callSpecial?_slot (name := Str.ofString "__next__") hT PySem.F.slot_zip_next (wpAny_call_entry PySem.F.slot_zip_next hT PySem.F.entry_zip_next (wpAny_mono h (fun fin s' z => ?_) fun e s' z => ?_) (PySem.F.args_zip_next_1 _))))
  · obtain ⟨v, rfl, q⟩ := z
    exact ⟨v, rfl, wpAny_pure q⟩
  · obtain ⟨⟨a, rfl, o, ho, hc⟩, q⟩ := z
    exact wpAny_bind (wpAny_isInstance (T := "StopIteration") (b := true) ⟨o, ho, hc⟩ isSubtype_stop (wpAny_pure q))
end
def zipPV : List PV → List PV → List PV
  | x :: xs, y :: ys => .tup [x, y] :: zipPV xs ys
  | _, _ => []
def ZP (xs ys : List PV) (z TI TO i1 i2 t1 t2 : Addr) (ps : List PV) (pins : List (Addr × Obj)) : Prop := ∃ k a b o1 o2, pins = [(z, zipObj .none TI TO), (TO, tupObj [a, b] 0), (i1, o1), (i2, o2)] ∧ (o1.cls = .type "tuple_iterator" ∧ o1.data = .fields #[.ref t1, .int (k : Nat) 0]) ∧ (o2.cls = .type "tuple_iterator" ∧ o2.data = .fields #[.ref t2, .int (k : Nat) 0]) ∧ k ≤ ys.length ∧ ps = zipPV (xs.drop k) (ys.drop k)
theorem iterW_zip (c : Cx) {n : Nat} (elts : List Expr) (kk : Nat) (pos : Pos) (xs ys : List PV) (z TI TO i1 i2 t1 t2 : Addr) (D : ZipApartT z TI TO i1 i2 t1 t2) (hlen : ys.length < xs.length) :
    IterW c n (.Tuple elts kk pos) z [z, TO, i1, i2] (fun F => F TI = some (tupObj [.ref i1, .ref i2] 0) ∧ (∃ vs m, F t1 = some (tupObj vs m) ∧ Reps F xs vs) ∧ ∃ vs m, F t2 = some (tupObj vs m) ∧ Reps F ys vs) (ZP xs ys z TI TO i1 i2 t1 t2) where
  mono := fun F F' l h => by
    obtain ⟨h1, ⟨v1, m1, h2, h3⟩, v2, m2, h4, h5⟩ := h
    exact ⟨l _ _ h1, ⟨v1, m1, l _ _ h2, h3.mono l⟩, v2, m2, l _ _ h4, h5.mono l⟩
  pins := fun ps o h => by obtain ⟨k, a, b, o1, o2, rfl, _⟩ := h; rfl
  nd := fun ps o h q hq => by
    obtain ⟨k, a, b, o1, o2, rfl, ⟨_, h1⟩, ⟨_, h2⟩, _⟩ := h
    intro es n e
    simp only [List.mem_cons, List.not_mem_nil, or_false] at hq
    rcases hq with rfl | rfl | rfl | rfl
    · cases e
    · cases e
    · rw [h1] at e; cases e
    · rw [h2] at e; cases e
  item := fun p ps pins A F s r hB hS hoff hf ho hP Q q => by
    obtain ⟨k, a, b, o1, o2, rfl, ⟨c1, d1⟩, ⟨c2, d2⟩, hk, hps⟩ := hP
    obtain ⟨f1, ⟨v1, m1, f2, f3⟩, v2, m2, f4, f5⟩ := hf
    have hz := ho (z, zipObj .none TI TO) (by simp)
    have hTO := ho (TO, tupObj [a, b] 0) (by simp)
    have g1 := ho (i1, o1) (by simp)
    have g2 := ho (i2, o2) (by simp)
    have hky : k < ys.length := by
      rcases Nat.lt_or_ge k ys.length with h | h
      · exact h
      · rw [List.drop_eq_nil_iff.mpr h] at hps
        cases xs.drop k <;> simp [zipPV] at hps
    have hkx : k < xs.length := by omega
    rw [List.drop_eq_getElem_cons hkx, List.drop_eq_getElem_cons hky] at hps
    simp only [zipPV, List.cons.injEq] at hps
    obtain ⟨rfl, rfl⟩ := hps
    obtain ⟨x, hx, rx⟩ := f3.get (List.getElem?_eq_getElem hkx)
    obtain ⟨y, hy, ry⟩ := f5.get (List.getElem?_eq_getElem hky)
    refine zip_pyNext hz rfl (zip_step (xs := v1.toArray) (ys := v2.toArray) (k1 := k) (k2 := k) (x := x) r.2.2 D ⟨hz, hS _ _ f1, ⟨a, b, hTO⟩, ⟨o1, g1, c1, d1⟩, ⟨o2, g2, c2, d2⟩⟩ ⟨_, hS _ _ f2, rfl, m1, rfl⟩ ⟨_, hS _ _ f4, rfl, m2, rfl⟩ (by simpa using hx) (fun y' h' hy' Z hT ex => ?_) (fun e => by rw [show v2.toArray[k]? = some y from by simpa using hy] at e; cases e))
    rw [show v2.toArray[k]? = some y from by simpa using hy] at hy'
    cases hy'
    refine ⟨_, rfl, ?_⟩
    obtain ⟨Z1, Z2, ⟨a', b', Z3⟩, ⟨o1', Z4, Z5, Z6⟩, ⟨o2', Z7, Z8, Z9⟩⟩ := Z
    refine wpAny_letOwnedTupleGo_zip Z1 fun h2 hz2 hs2 => ?_
    have nT : s.heap.get? s.heap.objs.size = none := none_size _
    have le : Le F (put F s.heap.objs.size (tupObj [x, y] 0)) := Le.put (hS.off nT)
    have zT : s.heap.objs.size ≠ z := Nat.ne_of_gt (Heap.lt_size hz)
    have ex2 : ExtOut [z, TO, i1, i2] s.heap h2 := fun b o hb e => hs2.extBut _ _ (fun w => hb (by simp [w])) (ex b o hb e)
    refine q _ (put F s.heap.objs.size (tupObj [x, y] 0)) h2 _ [(z, zipObj .none TI TO), (TO, tupObj [a', b'] 0), (i1, o1'), (i2, o2')] (fun w hw => ?_) ⟨k + 1, a', b', o1', o2', rfl, ⟨Z5, Z6⟩, ⟨Z8, Z9⟩, hky, rfl⟩ ex2 le (fun b o e => ?_) (fun b o e => ?_) ⟨_, [x, y], 0, rfl, put_self _ _ _, Reps.cons (rx.mono le) (Reps.cons (ry.mono le) Reps.nil)⟩
    · simp only [List.mem_cons, List.not_mem_nil, or_false] at hw
      rcases hw with rfl | rfl | rfl | rfl
      · exact hz2
      · exact hs2.extBut _ _ D.zTO Z3
      · exact hs2.extBut _ _ D.zi1 Z4
      · exact hs2.extBut _ _ D.zi2 Z7
    · unfold put at e; split at e
      · rename_i w; subst w; cases e; exact hs2.extBut _ _ zT hT
      · exact ex2 b o (fun m => by rw [hoff b m] at e; cases e) (hS b o e)
    · unfold put at e; split at e
      · rename_i w; subst w; exact .inr nT
      · exact .inl e
  done := fun pins A l F s r hl hB hS hstk hoff hf ho hP Q q => by
    obtain ⟨k, a, b, o1, o2, rfl, ⟨c1, d1⟩, ⟨c2, d2⟩, hk, hps⟩ := hP
    obtain ⟨f1, ⟨v1, m1, f2, f3⟩, v2, m2, f4, f5⟩ := hf
    have hz := ho (z, zipObj .none TI TO) (by simp)
    have hTO := ho (TO, tupObj [a, b] 0) (by simp)
    have g1 := ho (i1, o1) (by simp)
    have g2 := ho (i2, o2) (by simp)
    have hkx : k < xs.length := by omega
    have hky : ys.length ≤ k := by
      rcases Nat.lt_or_ge k ys.length with h | h
      · rw [List.drop_eq_getElem_cons hkx, List.drop_eq_getElem_cons h] at hps; cases hps
      · exact h
    obtain ⟨x, hx, rx⟩ := f3.get (List.getElem?_eq_getElem hkx)
    have hy : v2.toArray[k]? = none := by simp; rw [f5.length]; exact hky
    refine zip_pyNext hz rfl (zip_step (xs := v1.toArray) (ys := v2.toArray) (k1 := k) (k2 := k) (x := x) r.2.2 D ⟨hz, hS _ _ f1, ⟨a, b, hTO⟩, ⟨o1, g1, c1, d1⟩, ⟨o2, g2, c2, d2⟩⟩ ⟨_, hS _ _ f2, rfl, m1, rfl⟩ ⟨_, hS _ _ f4, rfl, m2, rfl⟩ (by simpa using hx) (fun y' h' hy' => by rw [hy] at hy'; cases hy') (fun _ h' e ex he => ⟨⟨e, rfl, he⟩, ?_⟩))
    exact q h' _ (KwOut.of ex) fun b o e => ex b o (fun m => by rw [hoff b m] at e; cases e) (hS b o e)
theorem JI_zip {c : Cx} {n : Nat} {fr : Fc} {σ : AS} {elts : List Expr} {kk : Nat} {pos : Pos} {v w : Value} {xs ys : List PV} {Φ : List PV → AS → Prop} (hv : Has c σ v (.tup xs)) (hw : Has c σ w (.tup ys)) (hlen : ys.length < xs.length) (k : Φ (zipPV xs ys) σ) : JI c n fr σ (.Tuple elts kk pos) (call (.type "zip") [v, w]) Φ := fun A rm F s H Q kQ => by
  obtain ⟨t1, v1, m1, rfl, f1, r1⟩ := hv _ _ _ H
  obtain ⟨t2, v2, m2, rfl, f2, r2⟩ := hw _ _ _ H
  have a1 : IsTup s.heap t1 v1.toArray := ⟨_, H.sub _ _ f1, rfl, m1, rfl⟩
  have a2 : IsTup s.heap t2 v2.toArray := ⟨_, H.sub _ _ f2, rfl, m2, rfl⟩
  refine call_zipT a1 a2 ?_
  generalize hn : s.heap.objs.size = N
  have z1 : (s.heap.push (tupIt t1)).objs.size = N + 1 := by rw [Heap.size_push, hn]
  have z2 : (zh2 s.heap t1 t2).objs.size = N + 2 := by rw [Heap.size_push, z1]
  have z3 : ((zh2 s.heap t1 t2).push (tupObj [.ref s.heap.objs.size, .ref (s.heap.push (tupIt t1)).objs.size] 0)).objs.size = N + 3 := by rw [Heap.size_push, z2]
  have z4 : (zh4 s.heap t1 t2).objs.size = N + 4 := by rw [Heap.size_push, z3]
  have kp : Kp s.heap (zh5 s.heap t1 t2) := fun b o e => Heap.get?_push_of_some _ (Heap.get?_push_of_some _ (Heap.get?_push_of_some _ (Heap.get?_push_of_some _ (Heap.get?_push_of_some _ e))))
  have g5 : (zh5 s.heap t1 t2).get? (N + 4) = some (zipObj .none (N + 2) (N + 3)) := by
    have := Heap.get?_push_size (zh4 s.heap t1 t2) (o := zipObj .none (zh2 s.heap t1 t2).objs.size ((zh2 s.heap t1 t2).push (tupObj [.ref s.heap.objs.size, .ref (s.heap.push (tupIt t1)).objs.size] 0)).objs.size) rfl
    rw [z4] at this
    rw [this, z2, z3]
  have g4 : (zh5 s.heap t1 t2).get? (N + 3) = some (tupObj [.none, .none] 0) := by
    have := Heap.get?_push_size ((zh2 s.heap t1 t2).push (tupObj [.ref s.heap.objs.size, .ref (s.heap.push (tupIt t1)).objs.size] 0)) (o := tupObj [.none, .none] 0) rfl
    rw [z3] at this
    exact Heap.get?_push_of_some _ this
  have g3 : (zh5 s.heap t1 t2).get? (N + 2) = some (tupObj [.ref N, .ref (N + 1)] 0) := by
    have := Heap.get?_push_size (zh2 s.heap t1 t2) (o := tupObj [.ref s.heap.objs.size, .ref (s.heap.push (tupIt t1)).objs.size] 0) rfl
    rw [z2, z1, hn] at this
    exact Heap.get?_push_of_some _ (Heap.get?_push_of_some _ (by rw [z1, hn]; exact this))
  have g2 : (zh5 s.heap t1 t2).get? (N + 1) = some (tupIt t2) := by
    have := Heap.get?_push_size (s.heap.push (tupIt t1)) (o := tupIt t2) rfl
    rw [z1] at this
    exact Heap.get?_push_of_some _ (Heap.get?_push_of_some _ (Heap.get?_push_of_some _ this))
  have g1 : (zh5 s.heap t1 t2).get? N = some (tupIt t1) := by
    have := Heap.get?_push_size s.heap (o := tupIt t1) rfl
    rw [hn] at this
    exact Heap.get?_push_of_some _ (Heap.get?_push_of_some _ (Heap.get?_push_of_some _ (Heap.get?_push_of_some _ this)))
  have nw : ∀ j, s.heap.get? (N + j) = none := fun j => Heap.get?_none_of_le (hn ▸ Nat.le_add_right _ j)
  have le : Le F (put F (N + 2) (tupObj [.ref N, .ref (N + 1)] 0)) := Le.put (H.sub.off (nw 2))
  have ext : Ext F (put F (N + 2) (tupObj [.ref N, .ref (N + 1)] 0)) s.heap (zh5 s.heap t1 t2) := ⟨le, fun b o e => by
    unfold put at e; split at e
    · rename_i q; subst q; cases e; exact g3
    · exact kp _ _ (H.sub b o e), fun b o e => by
    unfold put at e; split at e
    · rename_i q; subst q; exact .inr (nw 2)
    · exact .inl e⟩
  have H' := H.step kp ext
  have l1 : t1 < N := hn ▸ Heap.lt_size (H.sub _ _ f1)
  have l2 : t2 < N := hn ▸ Heap.lt_size (H.sub _ _ f2)
  have ne : ∀ i j : Nat, i ≠ j → N + i ≠ N + j := fun i j h e => h (Nat.add_left_cancel e)
  have big : ∀ t : Addr, t < N → t ∉ [N + 4, N + 3, N, N + 1] := fun t h m => by
    have ge : ∀ j, t ≠ N + j := fun j e => by rw [e] at h; exact absurd h (Nat.not_lt.mpr (Nat.le_add_right N j))
    simp only [List.mem_cons, List.not_mem_nil, or_false] at m
    rcases m with e | e | e | e
    · exact ge 4 e
    · exact ge 3 e
    · exact ge 0 e
    · exact ge 1 e
  have D : ZipApartT (N + 4) (N + 2) (N + 3) N (N + 1) t1 t2 := ⟨ne 2 4 (by decide), ne 3 4 (by decide), ne 0 4 (by decide), ne 1 4 (by decide), ne 3 0 (by decide), ne 3 1 (by decide), ne 0 1 (by decide), ne 2 3 (by decide), ne 2 0 (by decide), ne 2 1 (by decide), big t1 l1, big t2 l2⟩
  rw [z4]
  refine wpAny_pyIter_zip g5 ?_
  have fr' : ∀ j, j ≠ 2 → Free fr (put F (N + 2) (tupObj [.ref N, .ref (N + 1)] 0)) σ (N + j) := fun j hj => (H.freeNew (nw j)).1.step (by rw [put_ne (ne j 2 hj)]; exact H.sub.off (nw j))
  refine kQ (N + 4) (zipPV xs ys) σ [N + 4, N + 3, N, N + 1] _ _ [(N + 4, zipObj .none (N + 2) (N + 3)), (N + 3, tupObj [.none, .none] 0), (N, tupIt t1), (N + 1, tupIt t2)] _ _ _ k (iterW_zip c elts kk pos xs ys (N + 4) (N + 2) (N + 3) N (N + 1) t1 t2 D hlen) H' (fun q hq => ?_) ⟨0, .none, .none, _, _, rfl, ⟨rfl, rfl⟩, ⟨rfl, rfl⟩, Nat.zero_le _, rfl⟩ ⟨put_self _ _ _, ⟨v1, m1, le _ _ f1, r1.mono le⟩, v2, m2, le _ _ f2, r2.mono le⟩ (fun a ha => ?_) (fun q hq m => ?_)
  · simp only [List.mem_cons, List.not_mem_nil, or_false] at hq
    rcases hq with rfl | rfl | rfl | rfl
    · exact g5
    · exact g4
    · exact g1
    · exact g2
  · simp only [List.mem_cons, List.not_mem_nil, or_false] at ha
    rcases ha with rfl | rfl | rfl | rfl
    · exact fr' 4 (by decide)
    · exact fr' 3 (by decide)
    · exact fr' 0 (by decide)
    · exact fr' 1 (by decide)
  · have hh : ∀ j, q.1 ≠ N + j := fun j => (H.freeNew (nw j)).2 q hq
    simp only [List.mem_cons, List.not_mem_nil, or_false] at m
    rcases m with m | m | m | m
    · exact hh 4 m
    · exact hh 3 m
    · exact hh 0 m
    · exact hh 1 m
end Mine
end

-- C24
section
open PySem PySem.W PyProof.Rows PySem.Calls
set_option maxRecDepth 100000
set_option maxHeartbeats 1000000
namespace Mine
/-- Equivalent.to_nnf -/
theorem ct_eqvNnf (c : Cx) {m : Nat} (hm : 40 ≤ m) {sub : Ex → Option Ex} {simp : Bool} (hsub : SubOk c m simp sub) (a b : Fm) (na nb x y r : Ex) (hna : notE (.f a) = some na) (hnb : notE (.f b) = some nb) (hx : latE .or [na, .f b] = some x) (hy : latE .or [nb, .f a] = some y) (h : nnfC sub .and simp [x, y] = some r) :
    CTw c (m + 5) (.ref 470) [.fm (.node .eqv [a, b]), .bool simp] [] r.pv := by
  refine CTw_def (n := m + 4) (f := 470) (by rfl) rfl rfl (by rfl) (bind2e (by rfl) (by rfl) (by rfl) (fun a b => by rfl) (fun a b => by rfl)) (by decide) (kindsN (by rfl)) ?_
  intro s₀ F₀ L stk
  refine J_execs_cons (J_assignOwn (J_spliced_nil ⟨by rfl, [], .nil, Nat.zero_le _, fun l => ?_⟩) (by rfl))
  refine J_execs_cons (J_mono (Φ := fun fl σ => fl = .next ∧ (∃ o : Addr, σ.own = some (("args" : Str), o, [x].map Ex.pv)) ∧ σ.ρ.lookup ("self" : Str) = some (.fm (.node .eqv [a, b])) ∧ σ.ρ.lookup ("simplify" : Str) = some (.bool simp)) ?_ fun fl σ z => ?_)
  · refine J_forW <| JI_CallName <| J_Bt (v := .type "zip") (by kernel_rfl) (by rfl) (by decide) (by rfl) <| JI_callImm <| J_evalArgs <| J_spliced <| J_Attribute <| J_name (p := .fm (.node .eqv [a, b])) (by rfl) fun v1 => J_args (Has.mem (.head _)) fun v2 => J_spliced <| J_Subscript <| J_Attribute <| J_name (p := .fm (.node .eqv [a, b])) (by rfl) fun v3 => J_args (Has.mem (.head _)) fun v4 => J_Slice <| J_partSome <| J_int fun t1 => J_partNone fun v5 => J_fromT (k := 1) (xs := [.fm a, .fm b]) (Has.mem (.tail _ (.head _))) (Has.mem (.head _)) (by decide) (by simp) (show 2 ≤ 16777216 by decide) fun v6 => J_spliced_nil <| JI_zip (xs := [.fm a, .fm b]) (ys := [.fm b]) (Has.mem (by simp)) (Has.mem (by simp)) (by simp) ?_
    intro w1 F₁ pin
    refine J_unpack (xs := [.fm a, .fm b]) (Has.mem (.head _)) (by rfl) (by rfl) fun vs hvs => ?_
    match vs, hvs with
    | [u, v], _ =>
      refine J_inOrder <| J_assignName <| J_store (p := .fm a) (Has.mem (by simp)) (by rfl) (by rfl) <| J_inOrder <| J_assignName <| J_store (p := .fm b) (Has.mem (by simp)) (by rfl) (by rfl) <| J_inOrder_nil ?_
      refine J_execs_cons <| J_Expr <| J_CallAttr <| J_nameOwn (by rfl) <| J_calleeFew fun pl => J_methOwn (by rfl) PySem.F.slot_list_append PySem.F.type_list_append <| J_callImm <| J_evalArgs <| J_spliced <| J_CallName <| J_G (v := .ref 349) (by kernel_rfl) (by rfl) <| J_callBase (by kernel_rfl) <| J_evalArgs <| J_spliced <| J_CallName <| J_G (v := .ref 385) (by kernel_rfl) (by rfl) <| J_callBase (by kernel_rfl) <| J_evalArgs <| J_spliced <| J_name (p := .fm a) (by rfl) fun v7 => J_spliced_nil <| J_ct (ct_Not c hna) (by omega) (.cons (Has.mem (.head _)) .nil) fun v8 => J_spliced <| J_name (p := .fm b) (by rfl) fun v9 => J_spliced_nil <| J_ct (ct_lat c (.inr rfl) [na, .f b] x hx (by decide : 2 ≤ 1000)) (by omega) (.cons (Has.mem (.tail _ (.head _))) (.cons (Has.mem (.head _)) .nil)) fun v10 => J_spliced_nil <| J_append (by rfl) (Has.mem (.head _)) (Nat.zero_le _) ⟨none_noRef, ?_⟩
      exact J_execs_nil <| J_execs_nil ⟨rfl, ⟨l, by rfl⟩, by rfl, by rfl⟩
  · obtain ⟨rfl, ⟨o, hown⟩, hself, hsimp⟩ := z
    refine J_execs_cons <| J_Expr <| J_CallAttr <| J_nameOwn hown <| J_calleeFew fun pl => J_methOwn hown PySem.F.slot_list_append PySem.F.type_list_append <| J_callImm <| J_evalArgs <| J_spliced <| J_CallName <| J_G (v := .ref 349) (by kernel_rfl) (by rfl) <| J_callBase (by kernel_rfl) <| J_evalArgs <| J_spliced <| J_CallName <| J_G (v := .ref 385) (by kernel_rfl) (by rfl) <| J_callBase (by kernel_rfl) <| J_evalArgs <| J_spliced <| J_Subscript <| J_Attribute <| J_name hself fun v7 => J_args (Has.mem (.head _)) fun v8 => J_negInt <| J_int fun t2 => ⟨Has.int, fun t3 => J_tailT (k := -1) (j := 1) (Has.mem (.head _)) Has.int (by rfl) (by rfl) fun v9 => J_spliced_nil ?_⟩
    refine J_ct (ct_Not c hnb) (by omega) (.cons (Has.mem (.head _)) .nil) fun v10 => J_spliced <| J_Subscript <| J_Attribute <| J_name hself fun v11 => J_args (Has.mem (.head _)) fun v12 => J_int fun t4 => J_tailT (k := 0) (j := 0) (Has.mem (.head _)) Has.int (by rfl) (by rfl) fun v13 => J_spliced_nil <| J_ct (ct_lat c (.inr rfl) [nb, .f a] y hy (by decide : 2 ≤ 1000)) (by omega) (.cons (Has.mem (by simp)) (.cons (Has.mem (.head _)) .nil)) fun v14 => J_spliced_nil <| J_append hown (Has.mem (.head _)) (show 1 ≤ 16777216 by decide) ⟨none_noRef, ?_⟩
    refine J_freeze (ps := [x.pv, y.pv]) (by rfl) <| J_execs_cons <| J_return <| J_CallAttr <| J_G (v := .ref (kC .and)) (by kernel_rfl) (by rfl) <| J_calleeStar <| J_cm (readsK c.w .and) (nnfC_find c.w .and) (nnfRec c.w) fun v3 => ?_
    refine J_callBound (Has.mem (.head _)) (nnfFnIn c.w) <| J_evalStar <| J_name (p := .lst [x.pv, y.pv]) (by rfl) fun v4 => J_evalAll <| J_name (p := .bool simp) hsimp fun v5 => J_evalAll_nil <| notIter_lst (Has.mem (.tail _ (.head _))) ⟨rfl, J_collectL (Has.mem (.tail _ (.head _))) (show 2 ≤ 16777216 by decide) fun vs hvs => ⟨Has.mem (by simp), ?_⟩⟩
    exact J_ctBoundW (Has.mem (by simp)) (ct_nnfC c (.inl rfl) hm hsub [x, y] r h (by decide : 2 ≤ 1000)) (by omega) Has.val (hasAll_pushAll _ hvs) ⟨rfl, .cons (Has.mem (by simp)) .nil⟩ fun v6 => Has.mem (.head _)
end Mine
end

-- C25
section
open PySem PySem.W PyProof.Rows PySem.Calls
set_option maxRecDepth 100000
set_option maxHeartbeats 1000000
namespace Mine
theorem nf_and (w : World) (as : List Fm) : NnfFn (KK w) (.node .and as) 188 := ⟨by kernel_rfl, by kernel_rfl, by kernel_rfl⟩
theorem nf_or (w : World) (as : List Fm) : NnfFn (KK w) (.node .or as) 188 := ⟨by kernel_rfl, by kernel_rfl, by kernel_rfl⟩
theorem nf_not (w : World) (as : List Fm) : NnfFn (KK w) (.node .not as) 374 := ⟨by kernel_rfl, by kernel_rfl, by kernel_rfl⟩
theorem nf_xor (w : World) (as : List Fm) : NnfFn (KK w) (.node .xor as) 406 := ⟨by kernel_rfl, by kernel_rfl, by kernel_rfl⟩
theorem nf_imp (w : World) (as : List Fm) : NnfFn (KK w) (.node .imp as) 437 := ⟨by kernel_rfl, by kernel_rfl, by kernel_rfl⟩
theorem nf_eqv (w : World) (as : List Fm) : NnfFn (KK w) (.node .eqv as) 470 := ⟨by kernel_rfl, by kernel_rfl, by kernel_rfl⟩
theorem nnfC_len {sub : Ex → Option Ex} {k : Kd} {simp : Bool} {args : List Ex} {r : Ex} (h : nnfC sub k simp args = some r) : args.length ≤ 1000 := by
  unfold nnfC at h
  split at h
  · assumption
  · cases h
theorem notL_len {l l' : List Ex} : ∀ {l l' : List Ex}, notL l = some l' → l'.length = l.length := by
  intro l
  induction l with
  | nil => intro l' h; cases h; rfl
  | cons x r ih =>
    intro l' h
    obtain ⟨y, hy, h⟩ := Option.bind_eq_some_iff.mp h
    obtain ⟨l2, hl, h⟩ := Option.bind_eq_some_iff.mp h
    cases h
    simp [ih hl]
theorem nnf_ok (c : Cx) (simp : Bool) : ∀ n : Nat, SubOk c (40 + 5 * n) simp (toNnf n simp)
  | 0 => fun f r _ h => by cases h
  | n + 1 => fun f r hlit h => by
    have ih := nnf_ok c simp n
    have hm : 40 ≤ 40 + 5 * n := by omega
    have e : 40 + 5 * (n + 1) = 40 + 5 * n + 5 := by omega
    rw [e]
    cases f with
    | sym i => cases hlit
    | node k as =>
      cases k with
      | and =>
        have h : nnfC (toNnf n simp) .and simp (as.map .f) = some r := h
        exact ⟨188, nf_and c.w as, ct_bfNnf c (.inl rfl) hm ih as r h (by simpa using nnfC_len h)⟩
      | or =>
        have h : nnfC (toNnf n simp) .or simp (as.map .f) = some r := h
        exact ⟨188, nf_or c.w as, ct_bfNnf c (.inr rfl) hm ih as r h (by simpa using nnfC_len h)⟩
      | imp =>
        match as, h with
        | [a, b], h =>
          have h : (notE (.f a)).bind (fun na => nnfC (toNnf n simp) .or simp [na, .f b]) = some r := h
          obtain ⟨na, hna, h⟩ := Option.bind_eq_some_iff.mp h
          exact ⟨437, nf_imp c.w _, ct_impNnf c hm ih a b na r hna h⟩
        | [], h => cases h
        | [_], h => cases h
        | _ :: _ :: _ :: _, h => cases h
      | eqv =>
        match as, h with
        | [a, b], h =>
          have h : (notE (.f a)).bind (fun na => (latE .or [na, .f b]).bind fun x => (notE (.f b)).bind fun nb => (latE .or [nb, .f a]).bind fun y => nnfC (toNnf n simp) .and simp [x, y]) = some r := h
          obtain ⟨na, hna, h⟩ := Option.bind_eq_some_iff.mp h
          obtain ⟨x, hx, h⟩ := Option.bind_eq_some_iff.mp h
          obtain ⟨nb, hnb, h⟩ := Option.bind_eq_some_iff.mp h
          obtain ⟨y, hy, h⟩ := Option.bind_eq_some_iff.mp h
          exact ⟨470, nf_eqv c.w _, ct_eqvNnf c hm ih a b na nb x y r hna hnb hx hy h⟩
        | [], h => cases h
        | [_], h => cases h
        | _ :: _ :: _ :: _, h => cases h
      | xor =>
        match as, h with
        | [a, b], h =>
          have h : (latE .or [.f a, .f b]).bind (fun x => (notE (.f a)).bind fun na => (notE (.f b)).bind fun nb => (latE .or [na, nb]).bind fun y => nnfC (toNnf n simp) .and simp [x, y]) = some r := h
          obtain ⟨x, hx, h⟩ := Option.bind_eq_some_iff.mp h
          obtain ⟨na, hna, h⟩ := Option.bind_eq_some_iff.mp h
          obtain ⟨nb, hnb, h⟩ := Option.bind_eq_some_iff.mp h
          obtain ⟨y, hy, h⟩ := Option.bind_eq_some_iff.mp h
          exact ⟨406, nf_xor c.w _, ct_xorNnf c hm ih a b na nb x y r hna hnb hx hy h⟩
        | [], h => cases h
        | [_], h => cases h
        | _ :: _ :: _ :: _, h => cases h
      | not =>
        match as, h with
        | [g], h =>
          have h := h
          cases g with
          | sym i => cases hlit
          | node k as =>
            have h2 : NotCase (toNnf n simp) simp r k as := by
              have h0 := h
              unfold toNnf at h0
              rw [hlit, Option.bind_some, if_neg (by simp)] at h0
              cases k with
              | and =>
                obtain ⟨l, hl, h0⟩ := Option.bind_eq_some_iff.mp h0
                exact .and hl h0 (by have := nnfC_len h0; have := notL_len hl (l := []) (l' := []); simp at this; omega)
              | or =>
                obtain ⟨l, hl, h0⟩ := Option.bind_eq_some_iff.mp h0
                exact .or hl h0 (by have := nnfC_len h0; have := notL_len hl (l := []) (l' := []); simp at this; omega)
              | imp =>
                match as, h0 with
                | [a, b], h0 =>
                  obtain ⟨nb, hnb, h0⟩ := Option.bind_eq_some_iff.mp h0
                  exact .imp hnb h0
                | [], h0 => cases h0
                | [_], h0 => cases h0
                | _ :: _ :: _ :: _, h0 => cases h0
              | eqv =>
                match as, h0 with
                | [a, b], h0 =>
                  obtain ⟨x, hx, h0⟩ := Option.bind_eq_some_iff.mp h0
                  obtain ⟨na, hna, h0⟩ := Option.bind_eq_some_iff.mp h0
                  obtain ⟨nb, hnb, h0⟩ := Option.bind_eq_some_iff.mp h0
                  obtain ⟨y, hy, h0⟩ := Option.bind_eq_some_iff.mp h0
                  exact .eqv hx hna hnb hy h0
                | [], h0 => cases h0
                | [_], h0 => cases h0
                | _ :: _ :: _ :: _, h0 => cases h0
              | xor =>
                match as, h0 with
                | [a, b], h0 =>
                  dsimp only at h0
                  split at h0
                  · cases h0
                  · rename_i hab
                    obtain ⟨na, hna, h0⟩ := Option.bind_eq_some_iff.mp h0
                    obtain ⟨x, hx, h0⟩ := Option.bind_eq_some_iff.mp h0
                    obtain ⟨nb, hnb, h0⟩ := Option.bind_eq_some_iff.mp h0
                    obtain ⟨y, hy, h0⟩ := Option.bind_eq_some_iff.mp h0
                    exact .xor (by simpa using hab) hna hx hnb hy h0
                | [], h0 => cases h0
                | [_], h0 => cases h0
                | _ :: _ :: _ :: _, h0 => cases h0
              | not => cases h0
            exact ⟨374, nf_not c.w _, ct_notNnf c hm ih k as r hlit h2⟩
        | [], h => cases h
        | _ :: _ :: _, h => cases h
end Mine
end

-- J33
section
open PySem PySem.W PyProof.Rows PySem.Calls
set_option maxRecDepth 100000
set_option maxHeartbeats 1000000
namespace Mine
namespace MapF
theorem owner_map : Manifest.owners.lookup (String.ofList ['p', 'a', 'm'].reverse) = some Manifest.sig_map := by kernel_rfl
theorem slot_next : Slot "map" "__next__" "map.__next__" :=
  .of (owner := "map") (n := "__next__") (by rw [typeLookup_type, builtinLookup_eq_fast]; kernel_rfl) (by decide +kernel) (by decide +kernel) (by decide +kernel) (by first | exact .inl (by decide +kernel) | exact .inr (by decide +kernel)) (by rw [isSubtype_type]; kernel_rfl)
theorem slot_iter : Slot "map" "__iter__" "map.__iter__" :=
  .of (owner := "map") (n := "__iter__") (by rw [typeLookup_type, builtinLookup_eq_fast]; kernel_rfl) (by decide +kernel) (by decide +kernel) (by decide +kernel) (by first | exact .inl (by decide +kernel) | exact .inr (by decide +kernel)) (by rw [isSubtype_type]; kernel_rfl)
theorem slot_init : Slot "map" "__init__" "object.__init__" :=
  .of (owner := "object") (n := "__init__") (by rw [typeLookup_type, builtinLookup_eq_fast]; kernel_rfl) (by decide +kernel) (by decide +kernel) (by decide +kernel) (by first | exact .inl (by decide +kernel) | exact .inr (by decide +kernel)) (by rw [isSubtype_type]; kernel_rfl)
theorem entry_next : entryFor table "map.__next__" = some Builtin.«map.__next__» := entryFor_of_tree (by kernel_rfl)
theorem args_next (a : Value) : argsOk "map.__next__" ⟨[a], []⟩ := by
  unfold argsOk; rw [signature?_of (id := "map.__next__") (n := ['_', '_', 't', 'x', 'e', 'n', '_', '_']) (o := ['p', 'a', 'm']) (by kernel_rfl) owner_map]; kernel_rfl
theorem args_iter (a : Value) : argsOk "map.__iter__" ⟨[a], []⟩ := by
  unfold argsOk; rw [signature?_of (id := "map.__iter__") (n := ['_', '_', 'r', 'e', 't', 'i', '_', '_']) (o := ['p', 'a', 'm']) (by kernel_rfl) owner_map]; kernel_rfl
theorem entry_iter : entryFor table "map.__iter__" = some Builtin.«dict_keyiterator.__iter__» :=
  entryFor_alias (id' := "dict_keyiterator.__iter__") (by kernel_rfl) (by first | rfl | decide +kernel | (unfold String.splitOn; simp +decide [String.splitOnAux])) (by decide +kernel) (by kernel_rfl)
theorem mro_map : mroOf (.type "map") = pure [.type "map", .type "object"] := by rw [mroOf_type]; kernel_rfl
theorem lookup_new : typeLookup (.type "map") "__new__" = pure (some (.builtin "map.__new__")) := by rw [typeLookup_type, builtinLookup_eq_fast]; kernel_rfl
theorem called : TypeCalled "map" "map.__new__" "object.__init__" :=
  ⟨by decide +kernel, by decide +kernel, ⟨_, _, mro_map⟩, madeBy_type mro_map lookup_new (by decide +kernel), by decide +kernel, by rw [isSubtype_type]; kernel_rfl, slot_init⟩
theorem typeCall (a b : Value) : checkTypeCall "map" ⟨[a, b], []⟩ = pure () := by kernel_rfl
theorem newCall (a b : Value) : checkBuiltinCall "map.__new__" ⟨[.type "map", a, b], []⟩ = pure () := by kernel_rfl
theorem entry_new : entryFor table "map.__new__" = some Builtin.«map.__new__» := entryFor_of_tree (by kernel_rfl)
theorem sub_map : isSubtype (.type "map") (.type "map") = pure true := by rw [isSubtype_type]; kernel_rfl
theorem no_len : typeLookup (.type "map") "__len__" = pure none := by rw [typeLookup_type, builtinLookup_eq_fast]; kernel_rfl
theorem no_hint : typeLookup (.type "map") "__length_hint__" = pure none := by rw [typeLookup_type, builtinLookup_eq_fast]; kernel_rfl
end MapF
abbrev mapObj (TI : Addr) (f : Value) : Obj := { cls := .type "map", dict := none, data := .fields #[.ref TI, f], slots := #[] }
abbrev lstIt (l : Addr) : Obj := { cls := .type "list_iterator", data := .fields #[.ref l, .int 0 0] }
abbrev mh3 (h : Heap) (l : Addr) (f : Value) : Heap := ((h.push (lstIt l)).push (tupObj [.ref h.objs.size] 0)).push (mapObj (h.push (lstIt l)).objs.size f)
theorem map_new (f : Value) (l : Addr) (xs : Array Value) : Meets (Builtin.«map.__new__» ⟨[.type "map", f, .ref l], []⟩) (fun _ R s => s.heap.IsList l xs ∧ R (.ok (.ret (.ref ((s.heap.push (lstIt l)).push (tupObj [.ref s.heap.objs.size] 0)).objs.size))) { s with heap := mh3 s.heap l f }) :=
  .of_wp fun prog w A R s h => by
    obtain ⟨hp, g, d, tk, os⟩ := s
    obtain ⟨h1, h⟩ := h
    have hsub := MapF.sub_map
    have H1 : Heap.IsList (Shared.heap ⟨hp, g, d, tk, os⟩) l xs := h1
    wp_walk using wpAny_pyIter_list H1
    exact ⟨_, rfl, h⟩
section
variable {prog : Program} {w : World} {A : Around} {E : Value → Shared → Prop} {s : Shared}
theorem call_map {f : Value} {l : Addr} {xs : Array Value} {Q : Value → Shared → Prop} (h1 : s.heap.IsList l xs) (h : Q (.ref ((s.heap.push (lstIt l)).push (tupObj [.ref s.heap.objs.size] 0)).objs.size) { s with heap := mh3 s.heap l f }) :
    wpAny (model prog w) A (call (.type "map") [f, .ref l]) Q E s :=
  callType_new MapF.called (by decide) (MapF.typeCall _ _) (MapF.newCall _ _) (fun obj => PySem.F.args_object_init_3 obj _ _) MapF.entry_new (map_new f l xs) ⟨h1, ⟨_, Heap.get?_push_size _ rfl, rfl⟩, h⟩
theorem map_pyIter {m TI : Addr} {f : Value} {Q : Value → Shared → Prop} (hm : s.heap.get? m = some (mapObj TI f)) (h : Q (.ref m) s) : wpAny (model prog w) A (pyIter (.ref m)) Q E s := by
  have hT : s.TypeIs (.ref m) "map" := ⟨_, hm, rfl⟩
  refine wpAny_pyIter_slot hT MapF.slot_iter (wpAny_call_entry MapF.slot_iter hT MapF.entry_iter ?_ (MapF.args_iter _))
  show wpAny _ _ (ret (.ref m)) _ _ s
  exact wpAny_pure ⟨_, rfl, "map", _, hT, MapF.slot_next.lookup, h⟩
/-- the next of a map: the function called on the list's next item -/
theorem map_some {m TI it l : Addr} {f x : Value} {i : Nat} {xs : Array Value} {Q : Option Value → Shared → Prop} (hm : s.heap.get? m = some (mapObj TI f)) (hTI : s.heap.get? TI = some (tupObj [.ref it] 0)) (hit : s.heap.IsListIter it l i) (hl : s.heap.IsList l xs) (hx : xs[i]? = some x)
    (mne : m ≠ it) (h : ∀ h', h'.IsListIter it l (i + 1) → Heap.SameBut it s.heap h' → wpAny (model prog w) A.in1 (call f [x]) (fun v s' => Q (some v) s') (fun _ _ => False) { s with heap := h' }) : wpAny (model prog w) A (pyNext (.ref m)) Q E s := by
  have hT : s.TypeIs (.ref m) "map" := ⟨_, hm, rfl⟩
  unfold pyNext
  refine wpAny_bind (wpAny_attempt (wpAny_callSpecial?_slot (name := Str.ofString "__next__") hT MapF.slot_next (wpAny_call_entry MapF.slot_next hT MapF.entry_next ?_ (MapF.args_next _))))
  refine wpAny_bind (m := field (.ref m) 0) (wpAny_field hm rfl (x := .ref TI) rfl (wpAny_bind (wpAny_seqItems hTI rfl ?_)))
  refine wpAny_bind ?_
  simp only [List.forIn_toArray, List.forIn_cons, List.forIn_nil]
  refine wpAny_bind (wpAny_bind (wpAny_holding (wpAny_nextOf_list_item hit hl hx fun h' hit' hs' => wpAny_pure (wpAny_pure ?_))))
  have hm' := hs'.extBut _ _ mne hm
  refine wpAny_bind (wpAny_field hm' rfl (x := f) rfl (wpAny_bind (wpAny_holding (wpAny_mono (h h' hit' hs') (fun v s' q => ?_) fun _ _ z => False.elim z))))
  exact wpAny_bind (wpAny_letGo (wpAny_pure ⟨v, rfl, wpAny_pure q⟩))
theorem map_none {m TI it l : Addr} {f : Value} {i : Nat} {xs : Array Value} {Q : Option Value → Shared → Prop} (hh : A.handled = none) (hm : s.heap.get? m = some (mapObj TI f)) (hTI : s.heap.get? TI = some (tupObj [.ref it] 0)) (hit : s.heap.IsListIter it l i) (hl : s.heap.IsList l xs) (hx : xs[i]? = none)
    (h : ∀ h', Heap.ExtBut it s.heap h' → Q none { s with heap := h' }) : wpAny (model prog w) A (pyNext (.ref m)) Q E s := by
  have hT : s.TypeIs (.ref m) "map" := ⟨_, hm, rfl⟩
  unfold pyNext
  refine wpAny_bind (wpAny_attempt (wpAny_callSpecial?_slot (name := Str.ofString "__next__") hT MapF.slot_next (wpAny_call_entry MapF.slot_next hT MapF.entry_next ?_ (MapF.args_next _))))
  refine wpAny_bind (m := field (.ref m) 0) (wpAny_field hm rfl (x := .ref TI) rfl (wpAny_bind (wpAny_seqItems hTI rfl ?_)))
  refine wpAny_bind ?_
  simp only [List.forIn_toArray, List.forIn_cons, List.forIn_nil]
  refine wpAny_bind (wpAny_bind (wpAny_holding (wpAny_nextOf_list_end hh hit hl hx fun h' e hs' he => ?_)))
  obtain ⟨o, ho, hc⟩ := he
  exact wpAny_bind (wpAny_isInstance (T := "StopIteration") (b := true) ⟨o, ho, hc⟩ isSubtype_stop (wpAny_pure (h h' hs')))
end
end Mine
end

-- J34
section
open PySem PySem.W PyProof.Rows PySem.Calls
set_option maxRecDepth 100000
set_option maxHeartbeats 1000000
namespace Mine
abbrev lstRec (acc : Array Value) (k : Nat) : Obj := { cls := .type "list", dict := none, data := .seq acc k, slots := #[] }
theorem ext_map (c : Cx) {mm : Nat} {f : Value} {xs ys : List PV} (hf : ∀ (j : Nat) (p : PV), xs[j]? = some p → ∃ q, ys[j]? = some q ∧ CT c mm f [p] [] q) (hlen : xs.length = ys.length) (hz : ys.length ≤ 1000) {m TI it l S : Addr} {vs : List Value} {kk : Nat} {res : Value} (mne : m ≠ it) (lne : l ≠ it) (hSi : S ≠ it) (hSm : S ≠ m) (hST : S ≠ TI) (hSl : S ≠ l) {A : Around} (r : Room (mm + 2) A) {R : Result → Shared → Prop} :
    ∀ (k i : Nat) (F : PM) (s : Shared) (acc : Array Value) (cc : Nat), xs.length - i = k → i ≤ xs.length → Base c F → Sub F s.heap → F m = some (mapObj TI f) → F TI = some (tupObj [.ref it] 0) → F l = some (lstObj vs kk) → Reps F xs vs → s.heap.IsListIter it l i → F it = none → s.heap.get? S = some (lstRec acc cc) → F S = none → Reps F (ys.take i) acc.toList →
    (∀ F' h' tk acc' cc', ExtOut [it, S] s.heap h' → Le F F' → Sub F' h' → (∀ a x, F' a = some x → F a = some x ∨ s.heap.get? a = none) → h'.get? S = some (lstRec acc' cc') → F' S = none → Reps F' ys acc'.toList → R (.ok (.ret res)) { s with heap := h', toks := tk }) →
    codeAny c.M A (.builtin "list.extend.loop" ⟨[.ref S, .ref m, res], []⟩) R s := by
  intro k
  induction k with
  | zero =>
    intro i F s acc cc hk hi hB hS fm fT fl hr hit oit hSo oS hacc q
    have hin : i = xs.length := by omega
    subst hin
    refine codeAny_builtin PySem.F.entry_extend_loop ?_
    rw [Around.under_plainId PySem.F.plain_extend_loop _]
    refine wpAny_bind (m := pyNext (.ref m)) (map_none (xs := vs.toArray) r.2.2 (hS _ _ fm) (hS _ _ fT) hit ⟨_, hS _ _ fl, rfl, kk, rfl⟩ (by simp [hr.length]) fun h' he => wpAny_pure ?_)
    obtain ⟨o, ho, _⟩ := id hit
    refine q F h' _ acc cc (fun b x hb e => he b x (fun z => hb (by simp [z])) e) (Le.refl _) (fun b x w => he b x (fun z => by rw [z, oit] at w; cases w) (hS b x w)) (fun _ _ w => .inl w) (he S _ hSi hSo) oS (by rw [hlen, List.take_length] at hacc; exact hacc)
  | succ k ih =>
    intro i F s acc cc hk hi hB hS fm fT fl hr hit oit hSo oS hacc q
    have hlt : i < xs.length := by omega
    obtain ⟨v, hv, rv⟩ := hr.get (List.getElem?_eq_getElem hlt)
    obtain ⟨y, hy, hct⟩ := hf i xs[i] (List.getElem?_eq_getElem hlt)
    refine codeAny_builtin PySem.F.entry_extend_loop ?_
    rw [Around.under_plainId PySem.F.plain_extend_loop _]
    refine wpAny_bind (m := pyNext (.ref m)) (map_some (xs := vs.toArray) (x := v) (hS _ _ fm) (hS _ _ fT) hit ⟨_, hS _ _ fl, rfl, kk, rfl⟩ (by simpa using hv) mne fun h₁ hit₁ hs₁ => ?_)
    have S1 : Sub F h₁ := fun b x w => (hs₁.2 b fun z => by rw [z, oit] at w; cases w).trans (hS b x w)
    refine wpAny_call (codeAny_mono (hct [v] [] A.in1.in1 r.in1.in1 F { s with heap := h₁ } hB S1 (Reps.cons rv Reps.nil) KReps.nil _ fun u F₂ h₂ tk₂ kp ex ru => ?_) fun r' s' z => by
      rcases r' with e | (v | _ | _ | _) <;> first | exact z | exact z.elim)
    have hS₂ : h₂.get? S = some (lstRec acc cc) := kp _ _ (hs₁.extBut _ _ hSi hSo)
    show wpAny _ A.in1 (updateSeq S (·.push u) >>= _) _ _ _
    have up := Heap.get?_update_self (Obj.mapSeq (·.push u)) hS₂ rfl
    have acl : acc.size = i := by have := hacc.length; simp at this; omega
    have oS₂ : F₂ S = none := ex.off oS (hs₁.extBut _ _ hSi hSo)
    have oit₂ : F₂ it = none := by obtain ⟨o, ho, _⟩ := id hit₁; exact ex.off oit ho
    refine wpAny_bind (wpAny_updateSeq hS₂ rfl (wpAny_pure ⟨plainId_quiet PySem.F.plain_extend_loop _, ih (i + 1) F₂ { s with heap := h₂.update S (Obj.mapSeq (·.push u)), toks := tk₂ } (acc.push u) _ (by omega) hlt (hB.mono ex.le) (fun b x w => (Heap.get?_update_other _ _ (fun z : S = b => by rw [← z, oS₂] at w; cases w)).trans (ex.sub b x w)) (ex.le _ _ fm) (ex.le _ _ fT) (ex.le _ _ fl) (hr.mono ex.le) ?_ oit₂ up oS₂ ?_ fun F' h' tk acc' cc' g1 g2 g3 g4 g5 g6 g8 => ?_⟩) (hz := by show acc.size ≤ sizeLine; rw [acl, sizeLine_is]; omega))
    · obtain ⟨o, ho, hd⟩ := hit₁
      exact ⟨o, (Heap.get?_update_other _ _ hSi).trans (kp _ _ ho), hd⟩
    · have e1 : ys.take (i + 1) = ys.take i ++ [y] := by rw [List.take_add_one, hy]; rfl
      rw [e1]
      simpa using (hacc.mono ex.le).append (Reps.cons ru Reps.nil)
    · have nS : ∀ b x, F' b = some x → F b = some x ∨ s.heap.get? b = none := fun b x w => by
        rcases g4 b x w with w | w
        · rcases ex.new b x w with w | w
          · exact .inl w
          · right
            by_cases hb : b = it
            · subst hb; obtain ⟨o, ho, _⟩ := hit₁; rw [ho] at w; cases w
            · cases z : s.heap.get? b with
              | none => rfl
              | some o => rw [hs₁.extBut _ _ hb z] at w; cases w
        · right
          cases z : s.heap.get? b with
          | none => rfl
          | some o =>
            exfalso
            by_cases hb : b = S
            · subst hb; rw [up] at w; cases w
            · rw [show (h₂.update S (Obj.mapSeq (·.push u))).get? b = h₂.get? b from Heap.get?_update_other _ _ (Ne.symm hb)] at w
              by_cases hb' : b = it
              · subst hb'; obtain ⟨o, ho, _⟩ := hit₁; rw [kp _ _ ho] at w; cases w
              · rw [kp _ _ (hs₁.extBut _ _ hb' z)] at w; cases w
      refine q F' h' tk acc' cc' (fun b x hb z => ?_) (ex.le.trans g2) g3 nS g5 g6 g8
      have b1 : b ≠ it := fun z => hb (by simp [z])
      have b2 : b ≠ S := fun z => hb (by simp [z])
      exact g1 b x hb ((Heap.get?_update_other _ _ (Ne.symm b2)).trans (kp _ _ (hs₁.extBut _ _ b1 z)))
end Mine
end

-- J35
section
open PySem PySem.W PyProof.Rows PySem.Calls
set_option maxRecDepth 100000
set_option maxHeartbeats 1000000
namespace Mine
section
variable {prog : Program} {w : World} {A : Around} {E : Value → Shared → Prop} {s : Shared}
theorem wpAny_hint_map {m TI : Addr} {f : Value} {Q : Bool → Shared → Prop} (hm : s.heap.get? m = some (mapObj TI f)) (h : Q true s) : wpAny (model prog w) A (Builtin.List.listLengthHint (.ref m)) Q E s := by
  have hT : s.TypeIs (.ref m) "map" := ⟨_, hm, rfl⟩
  unfold Builtin.List.listLengthHint
  refine wpAny_bind (wpAny_specialOf hT MapF.no_len ?_)
  refine wpAny_bind (wpAny_specialOf hT MapF.no_hint ?_)
  exact wpAny_pure h
theorem wpAny_extend_map {R : Result → Shared → Prop} {m TI : Addr} {f : Value} (hm : s.heap.get? m = some (mapObj TI f)) (S : Addr) (res : Value) (c₀ : Nat) (hS : s.heap.get? S = some { cls := .type "list", data := .seq #[] c₀ }) (hSm : S ≠ m)
    (hR : ∀ h' c₁, (∀ b o, b ≠ S → s.heap.get? b = some o → h'.get? b = some o) → (∀ b, h'.get? b = none → s.heap.get? b = none) → (∀ b, s.heap.get? b = none → h'.get? b = none) → h'.get? S = some (lstRec #[] c₁) →
      codeAny (model prog w) A (.builtin "list.extend.loop" ⟨[.ref S, .ref m, res], []⟩) R { s with heap := h' }) :
    wpAny (model prog w) A.in1 (Builtin.List.listExtendWith (.ref S) (.ref m) res)
      (fun fin s' => match fin with | .done f => R (.ok f) s' | .again c' => c'.quiet = true ∧ codeAny (model prog w) A c' R s') (fun e s' => R (.error e) s') s := by
  unfold Builtin.List.listExtendWith
  refine wpAny_bind (wpAny_typeOf (T := "map") ⟨_, hm, rfl⟩ ?_)
  have h1 : Builtin.List.listSameRef (.ref S) (.ref m) = false := by simp [Builtin.List.listSameRef, hSm]
  have h2 : (Value.type "map" == Value.type "list") = false := by decide
  have h3 : (Value.type "map" == Value.type "tuple") = false := by decide
  simp only [h1, h2, h3, Bool.or_false, Bool.false_eq_true, if_false]
  refine wpAny_bind (map_pyIter hm ?_)
  refine wpAny_bind (wpAny_holding (wpAny_hint_map hm ?_))
  refine wpAny_ite_split (fun _ => ?_) (fun h => absurd rfl h)
  refine wpAny_bind (wpAny_rule ?_)
  refine wpAny_bind ?_
  show wpAny _ _ (updateSeq S (·.push .none) >>= fun _ => updateSeq S (·.pop)) _ _ _
  refine wpAny_bind (wpAny_updateSeq hS rfl ?_)
  have hS₂ := Heap.get?_update_self (Obj.mapSeq (·.push Value.none)) hS rfl
  refine wpAny_updateSeq (hz := by seq_fits) hS₂ rfl ?_
  have hS₃ := Heap.get?_update_self (Obj.mapSeq (·.pop)) hS₂ rfl
  have oth : ∀ b, b ≠ S → ((s.heap.update S (Obj.mapSeq (·.push Value.none))).update S (Obj.mapSeq (·.pop))).get? b = s.heap.get? b := fun b hb => (Heap.get?_update_other _ _ (Ne.symm hb)).trans (Heap.get?_update_other _ _ (Ne.symm hb))
  refine wpAny_pure ⟨plainId_quiet F.plain_extend_loop _, hR _ _ (fun b o hb e => (oth b hb).trans e) (fun b e => ?_) (fun b e => ?_) hS₃⟩
  · by_cases hb : b = S
    · subst hb; rw [hS₃] at e; cases e
    · exact (oth b hb).symm.trans e
  · by_cases hb : b = S
    · subst hb; rw [hS] at e; cases e
    · exact (oth b hb).trans e
theorem call_list_map {m TI : Addr} {f : Value} (hm : s.heap.get? m = some (mapObj TI f)) {Q : Value → Shared → Prop} (hz : s.heap.get? s.heap.objs.size = none)
    (hQ : ∀ h' c₁, (∀ b o, s.heap.get? b = some o → h'.get? b = some o) → (∀ b, b ≠ s.heap.objs.size → h'.get? b = none → s.heap.get? b = none) → h'.get? s.heap.objs.size = some (lstRec #[] c₁) →
      codeAny (model prog w) A.in1 (.builtin "list.extend.loop" ⟨[.ref s.heap.objs.size, .ref m, .none], []⟩) (fun r s' => r = .ok (.ret .none) ∧ Q (.ref s.heap.objs.size) s') { s with heap := h' }) :
    wpAny (model prog w) A (call (.type "list") [.ref m]) Q E s := by
  refine callType_codes (Q₁ := fun obj s₁ => obj = .ref s.heap.objs.size ∧ s₁ = { s with heap := s.heap.push { cls := .type "list", data := .seq #[] } }) F.called_list (F.typeCall_list_1 _) F.entry_list_init
    (code_list_new _ ⟨rfl, rfl⟩) fun obj s₁ h₁ => ?_
  obtain ⟨rfl, rfl⟩ := h₁
  have hS : (s.heap.push { cls := .type "list", data := .seq #[] }).get? s.heap.objs.size = some { cls := .type "list", data := .seq #[] } := Heap.get?_push_size _ rfl
  refine ⟨⟨_, hS, rfl⟩, F.args_list_init_2 _ _, ?_⟩
  have hSm : s.heap.objs.size ≠ m := fun e => by rw [e] at hz; rw [hm] at hz; cases hz
  show wpAny _ _ (do let old ← Builtin.List.listItems (.ref s.heap.objs.size); Builtin.List.listUpdate (.ref s.heap.objs.size) (fun _ => #[]); letGo old.toList.reverse; Builtin.List.listExtendWith (.ref s.heap.objs.size) (.ref m) .none) _ _ _
  refine wpAny_bind ?_
  unfold Builtin.List.listItems
  refine wpAny_bind (wpAny_seqItems hS rfl (wpAny_pure ?_))
  show wpAny _ _ (updateSeq s.heap.objs.size (fun _ => #[]) >>= fun _ => letGo (#[] : Array Value).toList.reverse >>= fun _ => Builtin.List.listExtendWith (.ref s.heap.objs.size) (.ref m) .none) _ _ _
  refine wpAny_bind (wpAny_updateSeq hS rfl ?_)
  have hS₂ := Heap.get?_update_self (Obj.mapSeq (fun _ => (#[] : Array Value))) hS rfl
  have oth : ∀ b, b ≠ s.heap.objs.size → ((s.heap.push { cls := .type "list", data := .seq #[] }).update s.heap.objs.size (Obj.mapSeq (fun _ => (#[] : Array Value)))).get? b = (s.heap.push { cls := .type "list", data := .seq #[] }).get? b :=
    fun b hb => Heap.get?_update_other _ _ (Ne.symm hb)
  refine wpAny_bind (wpAny_letGo ?_)
  refine wpAny_extend_map (A := A.in1) ((oth m (Ne.symm hSm)).trans (Heap.get?_push_of_some _ hm)) _ .none _ hS₂ hSm fun h' c₁ k1 k2 k3 k4 => ?_
  refine codeAny_mono (hQ h' c₁ (fun b o e => k1 b o (Nat.ne_of_lt (Heap.lt_size e)) ((oth b (Nat.ne_of_lt (Heap.lt_size e))).trans (Heap.get?_push_of_some _ e))) (fun b hb e => by
      have e1 := (oth b hb).symm.trans (k2 b e)
      cases z : s.heap.get? b with
      | none => rfl
      | some o => rw [Heap.get?_push_of_some _ z] at e1; cases e1) k4) fun r s' z => ?_
  obtain ⟨rfl, z⟩ := z
  exact ⟨rfl, z⟩
end
end Mine
end

-- J36
section
open PySem PySem.W PyProof.Rows PySem.Calls
set_option maxRecDepth 100000
set_option maxHeartbeats 1000000
namespace Mine
section
variable {c : Cx} {n : Nat} {fr : Fc} {σ : AS} {ms : List (Addr × Obj)} {env : Env}
theorem J_ofJP {α : Type} {t : Sem α} {Φ : α → AS → Prop} (hp : fr.pin = []) (h : JP c n fr [] σ t (fun a ms' σ' => ms' = [] ∧ Φ a σ') (fun _ => False)) : J c n fr σ t Φ := by
  obtain ⟨s₀, F₀, env, mc, pin, stk⟩ := fr
  obtain rfl : pin = [] := hp
  intro A r F s H Q q
  refine h A r F s H Q _ (fun a ms' σ' F' h' tk z H' => ?_) (fun _ _ _ _ _ _ _ z => z.elim)
  obtain ⟨rfl, z⟩ := z
  exact q a σ' F' h' tk z H'
theorem evalArgs_plainE {prog : Program} {w : World} {A : Around} {s : Shared} {f : Value} {pos : Pos} {e : Expr} {E : Value → Shared → Prop} {Q : Args → Shared → Prop}
    (h : wpAny (model prog w) A (eval e env) (fun v s' => Q ⟨[v], []⟩ s') E s) (he : starEach [e] env = [(false, eval e env)] := by rfl) : wpAny (model prog w) A (evalArgs f true (backTo pos (starEach [e] env)) (backToKw pos (keywordEach [] env))) Q E s := by
  rw [he]
  refine evalArgs_plain ?_
  show wpAny _ _ (spliced [(false, eval e env)]) _ _ _
  unfold spliced
  refine wpAny_bind (wpAny_mono h (fun v s' z => ?_) fun _ _ x => x)
  simp only [Bool.false_eq_true, if_false]
  exact wpAny_bind (wpAny_pure (wpAny_bind (wpAny_holding (wpAny_pure (wpAny_pure z)))))
theorem JP_evalArgs1 {f : Value} {e : Expr} {pos : Pos} {Φ : Args → List (Addr × Obj) → AS → Prop} {Ψ : List (Addr × Obj) → Prop} (h : JP c n fr ms σ (eval e env) (fun v ms' σ' => Φ ⟨[v], []⟩ ms' σ') Ψ)
    (he : starEach [e] env = [(false, eval e env)] := by rfl) : JP c n fr ms σ (evalArgs f true (backTo pos (starEach [e] env)) (backToKw pos (keywordEach [] env))) Φ Ψ := fun A r F s H Q E q x =>
  evalArgs_plainE (h A r F s H _ E (fun v ms' σ' F' h' tk z H' => q _ ms' σ' F' h' tk z H') fun ms' σ' F' h' h'' e tk z H' M => x ms' σ' F' h' h'' e tk z H' M) he
theorem JP_map {f v : Value} {ps : List PV} {Φ : Value → List (Addr × Obj) → AS → Prop} {Ψ : List (Addr × Obj) → Prop} (hv : Has c σ v (.lst ps)) (hs : fr.stk = none)
    (k : ∀ m TI it l, Φ (.ref m) [(it, lstIt l)] (((σ.push (.ref l) (.lst ps)).push (.ref TI) (.raw (tupObj [.ref it] 0))).push (.ref m) (.raw (mapObj TI f)))) : JP c n fr [] σ (call (.type "map") [f, v]) Φ Ψ := fun A rm F s H Q E q e => by
  obtain ⟨l, vs, kk, rfl, fl, hr⟩ := hv _ _ _ H
  refine call_map (xs := vs.toArray) ⟨_, H.sub _ _ fl, rfl, kk, rfl⟩ ?_
  have e1 := Ext.alloc (h := s.heap.push (lstIt l)) (F := F) (H.sub.kp (Kp.push _ _)) (tupObj [.ref s.heap.objs.size] 0) rfl
  have e2 := Ext.alloc e1.sub (mapObj (s.heap.push (lstIt l)).objs.size f) rfl
  have a1 : s.heap.get? s.heap.objs.size = none := none_size _
  have kp : Kp s.heap (mh3 s.heap l f) := Kp.trans (Kp.push _ _) (Kp.trans (Kp.push _ _) (Kp.push _ _))
  have le := e1.le.trans e2.le
  have hit : (mh3 s.heap l f).get? s.heap.objs.size = some (lstIt l) := Heap.get?_push_of_some _ (Heap.get?_push_of_some _ (Heap.get?_push_size _ rfl))
  have new : ∀ b x, (put (put F (s.heap.push (lstIt l)).objs.size (tupObj [.ref s.heap.objs.size] 0)) ((s.heap.push (lstIt l)).push (tupObj [.ref s.heap.objs.size] 0)).objs.size (mapObj (s.heap.push (lstIt l)).objs.size f)) b = some x → F b = some x ∨ (s.heap.push (lstIt l)).get? b = none := fun b x w => by
    rcases e2.new b x w with w | w
    · exact e1.new b x w
    · right
      cases z : (s.heap.push (lstIt l)).get? b with
      | none => rfl
      | some o => rw [Heap.get?_push_of_some _ z] at w; cases w
  have H1 : Holds c (fr.wp [(s.heap.objs.size, lstIt l)]) _ σ (mh3 s.heap l f) := H.stepPins hs (fun b o _ z => kp b o z) le e2.sub (fun b x w => by
      rcases new b x w with w | w
      · exact .inl w
      · right
        cases z : s.heap.get? b with
        | none => rfl
        | some o => rw [Heap.get?_push_of_some _ z] at w; cases w) fun z hz => by
      obtain rfl := List.mem_singleton.mp hz
      refine ⟨hit, ?_, .inr a1⟩
      match zz : (put (put F (s.heap.push (lstIt l)).objs.size (tupObj [.ref s.heap.objs.size] 0)) ((s.heap.push (lstIt l)).push (tupObj [.ref s.heap.objs.size] 0)).objs.size (mapObj (s.heap.push (lstIt l)).objs.size f)) s.heap.objs.size with
      | none => rfl
      | some o =>
        exfalso
        rcases new _ _ zz with w | w
        · rw [H.sub _ _ w] at a1; cases a1
        · rw [Heap.get?_push_size _ rfl] at w; cases w
  exact q _ _ _ _ _ s.toks (k _ (s.heap.push (lstIt l)).objs.size s.heap.objs.size l) (((H1.push (v := .ref l) (p := .lst ps) ⟨l, vs, kk, rfl, le _ _ fl, hr.mono le⟩).push (v := .ref (s.heap.push (lstIt l)).objs.size) (p := .raw (tupObj [.ref s.heap.objs.size] 0)) ⟨_, rfl, e2.le _ _ (put_self _ _ _)⟩).push (p := .raw (mapObj (s.heap.push (lstIt l)).objs.size f)) ⟨_, rfl, put_self _ _ _⟩)
theorem JP_listOfMap {mm : Nat} {f : Value} {m TI it l : Addr} {ps ys : List PV} {Φ : Value → List (Addr × Obj) → AS → Prop} {Ψ : List (Addr × Obj) → Prop} (hf : ∀ (j : Nat) (p : PV), ps[j]? = some p → ∃ q, ys[j]? = some q ∧ CT c mm f [p] [] q) (hlen : ps.length = ys.length) (hz : ys.length ≤ 1000) (hn : mm + 3 ≤ n)
    (h1 : Has c σ (.ref m) (.raw (mapObj TI f))) (h2 : Has c σ (.ref TI) (.raw (tupObj [.ref it] 0))) (h3 : Has c σ (.ref l) (.lst ps)) (hs : fr.stk = none)
    (k : ∀ w, Φ w [] (σ.push w (.lst ys))) : JP c n fr [(it, lstIt l)] σ (call (.type "list") [.ref m]) Φ Ψ := fun A rm F s H Q E q e => by
  obtain ⟨_, z, fm⟩ := h1 _ _ _ H
  cases z
  obtain ⟨_, z, fT⟩ := h2 _ _ _ H
  cases z
  obtain ⟨_, vs, kk, z, fl, hr⟩ := h3 _ _ _ H
  cases z
  obtain ⟨pi, po⟩ := H.unwp.2 _ (List.mem_singleton.mpr rfl)
  have oit : F it = none := pi.off
  have nS := none_size s.heap
  have oS : F s.heap.objs.size = none := H.sub.off nS
  have neF : ∀ {a : Addr} {o : Obj}, F a = some o → a ≠ it ∧ s.heap.objs.size ≠ a := fun w => ⟨fun z => (by rw [z, oit] at w; cases w), fun z => (by rw [← z, oS] at w; cases w)⟩
  have sne : s.heap.objs.size ≠ it := fun z => by rw [z] at nS; rw [show s.heap.get? it = some (lstIt l) from po] at nS; cases nS
  refine call_list_map (H.sub _ _ fm) nS fun h₁ c₁ k1 k2 k3 => ?_
  have r2 : Room (mm + 2) A.in1 := (rm.1.mono (show mm + 3 ≤ n from hn)).in1
  refine ext_map c hf hlen hz (m := m) (TI := TI) (it := it) (l := l) (S := s.heap.objs.size) (vs := vs) (kk := kk) (neF fm).1 (neF fl).1 sne (neF fm).2 (neF fT).2 (neF fl).2 r2 ps.length 0 F { s with heap := h₁ } #[] c₁ (by omega) (by omega) H.baseF (H.sub.kp k1) fm fT fl hr ⟨_, k1 _ _ po, rfl, rfl⟩ oit k3 oS Reps.nil fun F' h' tk acc' cc' g1 g2 g3 g4 g5 g6 g8 => ⟨rfl, ?_⟩
  have e1 : Le F' (put F' s.heap.objs.size (lstObj acc'.toList cc')) := Le.put g6
  have new : ∀ b x, (put F' s.heap.objs.size (lstObj acc'.toList cc')) b = some x → F b = some x ∨ s.heap.get? b = none := fun b x w => by
    unfold put at w
    split at w
    · rename_i hb; rw [hb]; exact .inr nS
    · rename_i hb
      rcases g4 b x w with w | w
      · exact .inl w
      · exact .inr (k2 b hb w)
  have sb : Sub (put F' s.heap.objs.size (lstObj acc'.toList cc')) h' := fun b x w => by
    unfold put at w
    split at w
    · rename_i hb; cases w; rw [hb, g5]
    · exact g3 b x w
  have H1 : Holds c (fr.wp []) (put F' s.heap.objs.size (lstObj acc'.toList cc')) σ h' := H.stepPins hs (fun b o hb z => by
      have hb1 : b ≠ it := fun z => hb (by simp [addrs, z])
      have hb2 : b ≠ s.heap.objs.size := fun z' => by rw [z', nS] at z; cases z
      exact g1 b o (by simp [hb1, hb2]) (k1 b o z)) (g2.trans e1) sb new fun z hz => nomatch hz
  exact q _ _ _ _ _ tk (k _) (H1.push ⟨_, _, cc', rfl, put_self _ _ _, g8.mono e1⟩)
end
end Mine
end

-- J37
section
open PySem PySem.W PyProof.Rows PySem.Calls
set_option maxRecDepth 100000
set_option maxHeartbeats 1000000
namespace Mine
section
variable {c : Cx} {n : Nat} {fr : Fc} {σ : AS} {env : Env}
theorem J_Break {pos : Pos} {Φ : Flow → AS → Prop} (h : Φ .brk σ) : J c n fr σ (exec (.Break pos) env) Φ := J_pure h
theorem Has.via {v w : Value} {p : PV} (h : Has c σ v (.val w)) (k : Has c σ w p) : Has c σ v p := fun fr F hp H => by
  obtain rfl : v = w := h fr F hp H
  exact k fr F hp H
/-- a tuple that a name bears, its first thing known by itself -/
theorem J_openVar {α : Type} {t : Sem α} {Φ : α → AS → Prop} {x : Str} {p : PV} {ps : List PV} (hx : σ.ρ.lookup x = some (.tup (p :: ps))) (k : ∀ v, J c n fr ⟨(x, .tup (.val v :: ps)) :: σ.ρ, σ.own, (v, p) :: σ.κ⟩ t Φ) : J c n fr σ t Φ := fun A r F s H Q q => by
  obtain ⟨m, cm, L⟩ := H.loc
  obtain ⟨w, rw', z⟩ := L.val x _ hx
  obtain ⟨a, vs, nn, rfl, ha, hr⟩ := rw'
  obtain ⟨v, rest, rfl, r1, r2⟩ := hr
  refine k v A r F s ?_ Q q
  refine ⟨H.base, H.kind, H.outer, H.le, H.sub, H.keep, H.new, ⟨m, cm, ⟨L.ns, L.offL, L.fresh, L.cell, L.apart, fun y p' e => ?_, L.own, L.pin, L.pinD⟩⟩, fun q hq => ?_⟩
  · simp only [List.lookup_cons] at e
    split at e
    · rename_i hy
      obtain rfl : y = x := by simpa using hy
      cases e
      exact ⟨.ref a, ⟨a, v :: rest, nn, rfl, ha, v, rest, rfl, rfl, r2⟩, z⟩
    · exact L.val y p' e
  · rcases List.mem_cons.mp hq with rfl | hq
    · exact r1
    · exact H.tmp q hq
/-- what is known of a formula laid open -/
structure Opened (K : List (Value × PV)) (v : Value) (as : List Fm) (a : Addr) (vs : List Value) : Prop where
  node : ∃ k d nn h1 h2 t1 t2 t3 txt, (v, PV.raw (instObj (kC k) d)) ∈ K ∧ (Value.ref d, PV.raw (dictOf [⟨h1, .str "args" t1, .ref a⟩, ⟨h2, .str "text" t2, .str txt t3⟩] nn)) ∈ K
  tup : (Value.ref a, PV.tup (vs.map .val)) ∈ K
  len : vs.length = as.length
  el : ∀ (i : Nat) (f : Fm), as[i]? = some f → ∃ w, vs[i]? = some w ∧ (w, PV.fm f) ∈ K
  ne : ∀ (i j : Nat) (f g : Fm) (v w : Value), as[i]? = some f → as[j]? = some g → vs[i]? = some v → vs[j]? = some w → f ≠ g → (v == w) = false
  refl : ∀ w ∈ vs, (w == w) = true
theorem Opened.mono {K K' : List (Value × PV)} {v : Value} {as : List Fm} {a : Addr} {vs : List Value} (O : Opened K v as a vs) (h : ∀ q ∈ K, q ∈ K') : Opened K' v as a vs :=
  ⟨let ⟨k, d, nn, h1, h2, t1, t2, t3, txt, m1, m2⟩ := O.node; ⟨k, d, nn, h1, h2, t1, t2, t3, txt, h _ m1, h _ m2⟩, h _ O.tup, O.len, fun i f e => let ⟨w, e1, e2⟩ := O.el i f e; ⟨w, e1, h _ e2⟩, O.ne, O.refl⟩
theorem reps_vals {F : PM} : ∀ (vs : List Value), Reps F (vs.map .val) vs
  | [] => rfl
  | v :: vs => ⟨v, vs, rfl, rfl, reps_vals vs⟩
theorem repFs_get {F : PM} : ∀ {as : List Fm} {vs : List Value} {i : Nat} {f : Fm}, RepFs F as vs → as[i]? = some f → ∃ v, vs[i]? = some v ∧ RepF F f v
  | [], _, i, f, _, e => by simp at e
  | g :: as, _, 0, f, ⟨v, vs', rfl, r, rs⟩, e => by cases e; exact ⟨v, rfl, r⟩
  | g :: as, _, i + 1, f, ⟨v, vs', rfl, r, rs⟩, e => by
    obtain ⟨w, e1, e2⟩ := repFs_get (i := i) rs (by simpa using e)
    exact ⟨w, by simpa using e1, e2⟩
theorem repFs_refs {F : PM} : ∀ {as : List Fm} {vs : List Value}, RepFs F as vs → ∀ w ∈ vs, ∃ x, w = .ref x
  | [], _, e, w, hw => by rw [show _ = [] from e] at hw; cases hw
  | g :: as, _, ⟨v, vs', rfl, r, rs⟩, w, hw => by
    rcases List.mem_cons.mp hw with rfl | hw
    · obtain ⟨x, es, e, _⟩ := RepF.inst r; exact ⟨x, e⟩
    · exact repFs_refs rs w hw
theorem J_openNode {α : Type} {t : Sem α} {Φ : α → AS → Prop} {v : Value} {k : Kd} {as : List Fm} (hv : Has c σ v (.fm (.node k as))) (kk : ∀ K a vs, Opened K v as a vs → J c n fr ⟨σ.ρ, σ.own, K ++ σ.κ⟩ t Φ) : J c n fr σ t Φ := fun A r F s H Q q => by
  obtain ⟨x, es, rfl, ⟨d, nn, i1, i2⟩, a, vs, mm, h1, h2, t1, t2, t3, rfl, ha, hr⟩ := RepF.inst (show RepF F (.node k as) v from hv _ _ _ H)
  have hl := hr.reps.length
  rw [List.length_map] at hl
  have HH := (((H.pushAll hr.reps).push (v := .ref a) (p := .tup (vs.map .val)) ⟨a, vs, mm, rfl, ha, reps_vals vs⟩).push (v := .ref d) (p := .raw _) ⟨d, rfl, i2⟩).push (v := .ref x) (p := .raw _) ⟨x, rfl, i1⟩
  refine kk ((.ref x, .raw (instObj (clsOf (.node k as)) d)) :: (.ref d, .raw (dictOf [⟨h1, .str "args" t1, .ref a⟩, ⟨h2, .str "text" t2, .str (text (.node k as)) t3⟩] nn)) :: (.ref a, .tup (vs.map .val)) :: (vs.zip (as.map .fm))) a vs ⟨⟨k, d, nn, h1, h2, t1, t2, t3, _, List.Mem.head _, List.Mem.tail _ (.head _)⟩, List.Mem.tail _ (.tail _ (.head _)), hl, fun i f e => ?_, fun i j f g v w e1 e2 e3 e4 hne => ?_, fun w hw => ?_⟩ A r F s (by simpa using HH) Q q
  · obtain ⟨w, e1, _⟩ := repFs_get hr e
    refine ⟨w, e1, ?_⟩
    refine List.mem_cons_of_mem _ (List.mem_cons_of_mem _ (List.mem_cons_of_mem _ ?_))
    refine List.mem_iff_getElem?.mpr ⟨i, ?_⟩
    rw [List.getElem?_zip_eq_some]
    exact ⟨e1, by rw [List.getElem?_map, e]; rfl⟩
  · obtain ⟨v', e1', r1⟩ := repFs_get hr e1
    obtain ⟨w', e2', r2⟩ := repFs_get hr e2
    rw [e3] at e1'; cases e1'
    rw [e4] at e2'; cases e2'
    obtain ⟨y, _, rfl, _⟩ := RepF.inst r1
    obtain ⟨z, _, rfl, _⟩ := RepF.inst r2
    have : y ≠ z := fun e => hne (by subst e; exact rep_eq r1 r2)
    simpa using this
  · obtain ⟨x, rfl⟩ := repFs_refs hr w hw
    simp
theorem J_argsOf {o v : Value} {as : List Fm} {a : Addr} {vs : List Value} {ex : Bool} {Φ : Value → AS → Prop} (ho : Has c σ o (.val v)) (O : Opened σ.κ v as a vs) (k : Φ (.ref a) σ) : J c n fr σ (getAttr o "args" ex) Φ := fun A r F s H Q q => by
  obtain ⟨kd, d, nn, h1, h2, t1, t2, t3, txt, m1, m2⟩ := O.node
  obtain rfl : o = v := ho _ _ _ H
  obtain ⟨x, rfl, i1⟩ := H.tmp _ m1
  obtain ⟨d', e, i2⟩ := H.tmp _ m2
  cases e
  have I : PySem.W.InstAt s.heap x (instObj (kC kd) d) (kC kd) (some (dictOf [⟨h1, .str "args" t1, .ref a⟩, ⟨h2, .str "text" t2, .str txt t3⟩] nn)) := ⟨H.sub _ _ i1, rfl, rfl, H.sub _ _ i2⟩
  exact get_value H.inK I (plainGet_all c.w (.node kd [])).1 (by cases kd <;> kernel_rfl) rfl (q _ σ F s.heap _ k H)
theorem J_isVal {a b v w : Value} {f g : Fm} {Φ : Bool → AS → Prop} (ha : Has c σ a (.val v)) (hb : Has c σ b (.val w)) (hv : Has c σ v (.fm f)) (hw : Has c σ w (.fm g)) (k : Φ (v == w) σ) : J c n fr σ (isSame a b) Φ := fun A r F s H Q q => by
  obtain rfl : a = v := ha _ _ _ H
  obtain rfl : b = w := hb _ _ _ H
  exact J_isFm hv hw (fun _ _ => k) A r F s H Q q
theorem Has.closeL {w : Value} {ws : List Value} {ps : List PV} (h : Has c σ w (.lst (ws.map .val))) (k : HasAll c σ ws ps) : Has c σ w (.lst ps) := fun fr F hp H => by
  obtain ⟨a, vs, nn, rfl, ha, hr⟩ := h fr F hp H
  obtain rfl := reps_val hr
  exact ⟨a, _, nn, rfl, ha, k.reps H⟩
end
end Mine
end

-- C26
section
open PySem PySem.W PyProof.Rows PySem.Calls
set_option maxRecDepth 100000
set_option maxHeartbeats 1000000
namespace Mine
theorem firstOf_some {k : Kd} : ∀ {as p : List Fm} {g : Fm} {q : List Fm}, firstOf k as = some (p, g, q) → as = p ++ g :: q ∧ kindIs k (.f g) = true ∧ ∀ f ∈ p, kindIs k (.f f) = false
  | [], _, _, _, h => by cases h
  | f :: r, p, g, q, h => by
    unfold firstOf at h
    split at h
    · rename_i hk; cases h; exact ⟨rfl, hk, fun f hf => nomatch hf⟩
    · rename_i hk
      obtain ⟨⟨p', g', q'⟩, h1, h2⟩ := Option.bind_eq_some_iff.mp h
      cases h2
      obtain ⟨e1, e2, e3⟩ := firstOf_some h1
      refine ⟨by rw [e1]; rfl, e2, fun f' hf => ?_⟩
      rcases List.mem_cons.mp hf with rfl | hf
      · simpa using hk
      · exact e3 f' hf
theorem firstOf_none {k : Kd} : ∀ {as : List Fm}, firstOf k as = none → ∀ f ∈ as, kindIs k (.f f) = false
  | [], _, f, hf => by cases hf
  | g :: r, h, f, hf => by
    unfold firstOf at h
    split at h
    · cases h
    · rename_i hk
      have h1 : firstOf k r = none := by
        cases z : firstOf k r with
        | none => rfl
        | some x => obtain ⟨a, b, d⟩ := x; rw [z] at h; cases h
      rcases List.mem_cons.mp hf with rfl | hf
      · simpa using hk
      · exact firstOf_none h1 f hf
theorem mapO_get {g : Ex → Option Ex} : ∀ {l l' : List Ex}, mapO g l = some l' → l.length = l'.length ∧ ∀ (j : Nat) (x : Ex), l[j]? = some x → ∃ y, l'[j]? = some y ∧ g x = some y
  | [], l', h => by cases h; exact ⟨rfl, fun j x e => by simp at e⟩
  | x :: r, l', h => by
    obtain ⟨y, h1, h⟩ := Option.bind_eq_some_iff.mp h
    obtain ⟨l2, h2, h⟩ := Option.bind_eq_some_iff.mp h
    cases h
    obtain ⟨e1, e2⟩ := mapO_get h2
    refine ⟨by simp [e1], fun j z e => ?_⟩
    cases j with
    | zero => cases e; exact ⟨y, rfl, h1⟩
    | succ j => obtain ⟨w, e3, e4⟩ := e2 j z (by simpa using e); exact ⟨w, by simpa using e3, e4⟩
abbrev tupE (k1 k2 : Kd) (e : Ex) : PV := .tup [e.pv, .str (label k1), .str (label k2)]
def gDist (k1 k2 : Kd) (rest : Ex) : PV → Option PV
  | .fm f => (latE k2 [.f f, rest]).map (tupE k1 k2)
  | _ => none
def gTup (k1 k2 : Kd) : PV → Option PV
  | .fm f => some (tupE k1 k2 (.f f))
  | _ => none
theorem gDist_all {k1 k2 : Kd} {rest : Ex} : ∀ {cs : List Fm} {l : List Ex}, mapO (fun c => latE k2 [c, rest]) (cs.map .f) = some l → (cs.map PV.fm).filterMap (gDist k1 k2 rest) = l.map (tupE k1 k2)
  | [], l, h => by cases h; rfl
  | x :: r, l, h => by
    obtain ⟨y, h1, h⟩ := Option.bind_eq_some_iff.mp h
    obtain ⟨l2, h2, h⟩ := Option.bind_eq_some_iff.mp h
    cases h
    have := gDist_all (k1 := k1) h2
    simp only [List.map_cons, List.filterMap_cons, gDist]
    rw [show latE k2 [.f x, rest] = some y from h1]
    simp only [Option.map_some]
    rw [this]
theorem gTup_all {k1 k2 : Kd} : ∀ (as : List Fm), (as.map PV.fm).filterMap (gTup k1 k2) = (as.map Ex.f).map (tupE k1 k2)
  | [] => rfl
  | x :: r => by simp only [List.map_cons, List.filterMap_cons, gTup]; rw [gTup_all r]
def gIs (w : Value) : PV → Option PV
  | .val v => if v == w then none else some (.val v)
  | _ => none
theorem gIs_all {w : Value} : ∀ (l : List Value), (∀ u ∈ l, (u == w) = false) → (l.map PV.val).filterMap (gIs w) = l.map PV.val
  | [], _ => rfl
  | u :: l, h => by
    simp only [List.map_cons, List.filterMap_cons, gIs]
    rw [h u (.head _)]
    simp only [Bool.false_eq_true, if_false]
    rw [gIs_all l fun u hu => h u (.tail _ hu)]
theorem Opened.zip {K : List (Value × PV)} {v : Value} {as : List Fm} {a : Addr} {vs : List Value} (O : Opened K v as a vs) {z : Value × Fm} (hz : z ∈ vs.zip as) : (z.1, PV.fm z.2) ∈ K := by
  obtain ⟨i, hi⟩ := List.mem_iff_getElem?.mp hz
  obtain ⟨e1, e2⟩ := List.getElem?_zip_eq_some.mp hi
  obtain ⟨w, h1, h2⟩ := O.el i _ e2
  rw [e1] at h1; cases h1
  exact h2
theorem Opened.diff {K : List (Value × PV)} {v : Value} {as : List Fm} {a : Addr} {vs : List Value} (O : Opened K v as a vs) {z z' : Value × Fm} (hz : z ∈ vs.zip as) (hz' : z' ∈ vs.zip as) (h : z.2 ≠ z'.2) : (z.1 == z'.1) = false := by
  obtain ⟨i, hi⟩ := List.mem_iff_getElem?.mp hz
  obtain ⟨e1, e2⟩ := List.getElem?_zip_eq_some.mp hi
  obtain ⟨j, hj⟩ := List.mem_iff_getElem?.mp hz'
  obtain ⟨e3, e4⟩ := List.getElem?_zip_eq_some.mp hj
  exact O.ne i j _ _ _ _ e2 e4 e1 e3 h
theorem hasAll_zip {c : Cx} {σ : AS} : ∀ {ws : List Value} {fs : List Fm}, ws.length = fs.length → (∀ z ∈ ws.zip fs, (z.1, PV.fm z.2) ∈ σ.κ) → HasAll c σ ws (fs.map .fm)
  | [], [], _, _ => .nil
  | w :: ws, f :: fs, h, k => .cons (Has.mem (k (w, f) (by simp))) (hasAll_zip (by simpa using h) fun z hz => k z (by simp [hz]))
/-- split where the first of that kind stands -/
theorem Opened.split {K : List (Value × PV)} {v : Value} {p q : List Fm} {g : Fm} {a : Addr} {vs : List Value} (O : Opened K v (p ++ g :: q) a vs) (hp : ∀ f ∈ p, f ≠ g) (hq : ∀ f ∈ q, f ≠ g) :
    ∃ vp w vq, vs = vp ++ w :: vq ∧ vp.length = p.length ∧ (w, PV.fm g) ∈ K ∧ (vp ++ vq).length = (p ++ q).length ∧ (∀ z ∈ (vp ++ vq).zip (p ++ q), (z.1, PV.fm z.2) ∈ K) ∧ (vs.map PV.val).filterMap (gIs w) = (vp ++ vq).map PV.val := by
  have hl := O.len
  obtain ⟨w, hw, hwK⟩ := O.el p.length g (by simp)
  have e0 : vs = vs.take p.length ++ w :: vs.drop (p.length + 1) := by
    have hlt : p.length < vs.length := by rw [hl]; simp
    have := List.getElem?_eq_some_iff.mp hw
    obtain ⟨h1, h2⟩ := this
    rw [← h2, ← List.drop_eq_getElem_cons hlt, List.take_append_drop]
  have l1 : (vs.take p.length).length = p.length := by rw [List.length_take, hl]; simp
  have l2 : (vs.drop (p.length + 1)).length = q.length := by rw [List.length_drop, hl]; simp; omega
  generalize hvp : vs.take p.length = vp at e0 l1
  generalize hvq : vs.drop (p.length + 1) = vq at e0 l2
  have zz : vs.zip (p ++ g :: q) = vp.zip p ++ (w, g) :: vq.zip q := by rw [e0, List.zip_append l1]; rfl
  have z2 : (vp ++ vq).zip (p ++ q) = vp.zip p ++ vq.zip q := List.zip_append l1
  have sub : ∀ z ∈ (vp ++ vq).zip (p ++ q), z ∈ vs.zip (p ++ g :: q) := fun z hz => by
    rw [z2] at hz
    rw [zz]
    rcases List.mem_append.mp hz with hz | hz
    · exact List.mem_append_left _ hz
    · exact List.mem_append_right _ (.tail _ hz)
  have hw' : (w, g) ∈ vs.zip (p ++ g :: q) := by rw [zz]; exact List.mem_append_right _ (.head _)
  have l3 : (vp ++ vq).length = (p ++ q).length := by simp [l1, l2]
  have dif : ∀ u ∈ vp ++ vq, (u == w) = false := fun u hu => by
    obtain ⟨i, hi⟩ := List.mem_iff_getElem?.mp hu
    have hlt : i < (p ++ q).length := by rw [← l3]; exact (List.getElem?_eq_some_iff.mp hi).1
    have hz : (u, (p ++ q)[i]) ∈ (vp ++ vq).zip (p ++ q) := List.mem_iff_getElem?.mpr ⟨i, List.getElem?_zip_eq_some.mpr ⟨hi, List.getElem?_eq_getElem hlt⟩⟩
    refine O.diff (sub _ hz) hw' ?_
    show (p ++ q)[i] ≠ g
    rcases List.mem_append.mp (List.getElem_mem hlt) with m | m
    · exact hp _ m
    · exact hq _ m
  refine ⟨vp, w, vq, e0, l1, hwK, l3, fun z hz => O.zip (sub z hz), ?_⟩
  have hr : (w == w) = true := O.refl w (by rw [e0]; simp)
  rw [e0, List.map_append, List.filterMap_append, List.map_cons, List.filterMap_cons]
  simp only [gIs, hr, if_true]
  rw [gIs_all vp fun u hu => dif u (List.mem_append_left _ hu), gIs_all vq fun u hu => dif u (List.mem_append_right _ hu), List.map_append]
end Mine
end

-- C27
section
open PySem PySem.W PyProof.Rows PySem.Calls
set_option maxRecDepth 100000
set_option maxHeartbeats 1000000
namespace Mine
theorem dist_len {k : Kd} {args : List Ex} {r : Ex} (h : latE k args = some r) : args.length ≤ 1000 := by
  unfold latE at h
  split at h
  · rename_i z; exact z.1
  · cases h
def DistOk (c : Cx) (m : Nat) (k1 k2 : Kd) (n : Nat) : Prop := ∀ e r, dist n k1 k2 e = some r → CT c m (.ref 547) [tupE k1 k2 e] [] r.pv
/-- the loop that looks for the first part of kind k1 -/
def DistI (K : List (Value × PV)) (v0 : Value) (k1 k2 : Kd) (σ : AS) : Prop := σ.own = none ∧ σ.ρ.lookup ("info" : Str) = some (.tup [.val v0, .str (label k1), .str (label k2)]) ∧ ∀ q ∈ K, q ∈ σ.κ
theorem ct_dist1 (c : Cx) {k1 k2 : Kd} (hk1 : latK k1) (hk2 : latK k2) (hne : k1 ≠ k2) {m n : Nat} (hm : 36 ≤ m) (ih : DistOk c m k1 k2 n) (as : List Fm) (r : Ex)
    (h : (mapO (dist n k1 k2) (as.map .f)).bind (fun l => latE k1 l) = some r) : CT c (m + 5) (.ref 547) [tupE k1 k2 (.f (.node k1 as))] [] r.pv := by
  obtain ⟨l, hl, h⟩ := Option.bind_eq_some_iff.mp h
  refine CT_def (n := m + 4) (f := 547) (by rfl) rfl rfl (by rfl) (bind1 (fun a => by rfl)) (by decide) (kindsN (by rfl)) ?_
  intro s₀ F₀ L
  have hll := dist_len h
  obtain ⟨e1, e2⟩ := mapO_get hl
  refine J_execs_cons <| J_if <| J_isTrueCmp <| J_CallName <| J_G (v := .ref 535) (by kernel_rfl) (by rfl) <| J_callBase (by kernel_rfl) <| J_evalArgs <| J_spliced <| J_Subscript <| J_name (p := tupE k1 k2 (.f (.node k1 as))) (by rfl) fun v1 => J_int fun t1 => J_tailT (k := 0) (j := 0) (p := .fm (.node k1 as)) (Has.mem (.head _)) Has.int (by rfl) (by rfl) fun v2 => J_spliced_nil <| J_ct (ct_kind c (.f (.node k1 as))) (by omega) (.cons (Has.mem (.head _)) .nil) fun v3 => J_Subscript <| J_name (p := tupE k1 k2 (.f (.node k1 as))) (by rfl) fun v4 => J_int fun t2 => J_tailT (k := 2) (j := 2) (p := .str (label k2)) (Has.mem (.head _)) Has.int (by rfl) (by rfl) fun v5 => J_eqStr (Has.mem (.tail _ (.tail _ (.head _)))) (Has.mem (.head _)) <| J_truthyB ?_
  rw [kindS_eq, show kindIs k2 (.f (.node k1 as)) = false from decide_eq_false hne]
  refine J_execs_cons <| J_if <| J_isTrueCmp <| J_CallName <| J_G (v := .ref 535) (by kernel_rfl) (by rfl) <| J_callBase (by kernel_rfl) <| J_evalArgs <| J_spliced <| J_Subscript <| J_name (p := tupE k1 k2 (.f (.node k1 as))) (by rfl) fun v6 => J_int fun t3 => J_tailT (k := 0) (j := 0) (p := .fm (.node k1 as)) (Has.mem (.head _)) Has.int (by rfl) (by rfl) fun v7 => J_spliced_nil <| J_ct (ct_kind c (.f (.node k1 as))) (by omega) (.cons (Has.mem (.head _)) .nil) fun v8 => J_Subscript <| J_name (p := tupE k1 k2 (.f (.node k1 as))) (by rfl) fun v9 => J_int fun t4 => J_tailT (k := 1) (j := 1) (p := .str (label k1)) (Has.mem (.head _)) Has.int (by rfl) (by rfl) fun v10 => J_eqStr (Has.mem (.tail _ (.tail _ (.head _)))) (Has.mem (.head _)) <| J_truthyB ?_
  rw [kindS_eq, show kindIs k1 (.f (.node k1 as)) = true from decide_eq_true rfl]
  refine J_execs_cons <| J_return <| J_CallName <| J_G (v := .ref 542) (by kernel_rfl) (by rfl) <| J_callBase (by kernel_rfl) <| J_evalArgs <| J_spliced <| J_Subscript <| J_name (p := tupE k1 k2 (.f (.node k1 as))) (by rfl) fun v11 => J_int fun t5 => J_tailT (k := 1) (j := 1) (p := .str (label k1)) (Has.mem (.head _)) Has.int (by rfl) (by rfl) fun v12 => J_spliced <| J_ofJP rfl <| JP_CallName <| J_Bt (v := .type "list") (by kernel_rfl) (by rfl) (by decide) (by rfl) <| JP_callImm <| JP_evalArgs1 <| JP_CallName <| J_Bt (v := .type "map") (by kernel_rfl) (by rfl) (by decide) (by rfl) <| JP_callImm <| JP_lift <| J_evalArgs <| J_spliced <| J_G (v := .ref 547) (by kernel_rfl) (by rfl) <| J_spliced <| J_ListComp (ρ₂ := [(("info" : Str), tupE k1 k2 (.f (.node k1 as)))]) (g := gTup k1 k2) (J_Attribute <| J_Subscript <| J_name (p := tupE k1 k2 (.f (.node k1 as))) (by rfl) fun v13 => J_int fun t6 => J_tailT (k := 0) (j := 0) (p := .fm (.node k1 as)) (Has.mem (.head _)) Has.int (by rfl) (by rfl) fun v14 => J_args (Has.mem (.head _)) fun v15 => ⟨as.map .fm, iterK_tup (Has.mem (.head _)), ?el, ?sees, ?size, fun v16 => ?_⟩) (by rfl)
  case el =>
    intro p hp s₁ F₃ C pin₃ v
    obtain ⟨f, hf, rfl⟩ := List.mem_map.mp hp
    refine J_assignName (J_store (p := .fm f) (Has.mem (.head _)) (by rfl) (by rfl) (J_ok0 ⟨tupE k1 k2 (.f f), rfl, ?_⟩))
    refine J_Tuple <| J_spliced <| J_name (p := .fm f) (by rfl) fun v1 => J_spliced <| J_Subscript <| J_name (p := tupE k1 k2 (.f (.node k1 as))) (by rfl) fun v2 => J_int fun t1 => J_tailT (k := 1) (j := 1) (p := .str (label k1)) (Has.mem (.head _)) Has.int (by rfl) (by rfl) fun v3 => J_spliced <| J_Subscript <| J_name (p := tupE k1 k2 (.f (.node k1 as))) (by rfl) fun v4 => J_int fun t2 => J_tailT (k := 2) (j := 2) (p := .str (label k2)) (Has.mem (.head _)) Has.int (by rfl) (by rfl) fun v5 => J_spliced_nil <| J_newTuple (ps := [.fm f, .str (label k1), .str (label k2)]) (.cons (Has.mem (by simp)) (.cons (Has.mem (by simp)) (.cons (Has.mem (by simp)) .nil))) (show 3 ≤ 16777216 by decide) fun v6 => Has.mem (.head _)
  case sees =>
    intro q hq
    obtain rfl := List.mem_singleton.mp hq
    exact ⟨by rfl, fun C => .inl (by rfl), (show (some NameKind.cell : Option NameKind) ≠ some .local by decide), by rfl⟩
  case size =>
    rw [List.length_map]
    have : as.length = l.length := by simpa using e1
    omega
  rw [gTup_all]
  refine J_spliced_nil <| JP_map (Has.mem (.head _)) rfl fun mm TI it lo => JP_listOfMap (mm := m) (ys := l.map Ex.pv) (ps := (as.map Ex.f).map (tupE k1 k2)) (fun j p hp => ?_) (by simpa using e1) (by simpa using hll) (by omega) (Has.mem (.head _)) (Has.mem (.tail _ (.head _))) (Has.mem (.tail _ (.tail _ (.head _)))) rfl fun w => ⟨rfl, ?_⟩
  · rw [List.getElem?_map] at hp
    obtain ⟨x, hx, rfl⟩ := Option.map_eq_some_iff.mp hp
    obtain ⟨y, hy, hd⟩ := e2 j x hx
    exact ⟨y.pv, by rw [List.getElem?_map, hy]; rfl, ih x y hd⟩
  · exact J_spliced_nil <| J_ct (ct_built c hk1 (label k1) rfl l r h hll) (by omega) (.cons (Has.mem (by simp)) (.cons (Has.mem (.head _)) .nil)) fun v => Has.mem (.head _)
end Mine
end

-- C28
section
open PySem PySem.W PyProof.Rows PySem.Calls
set_option maxRecDepth 100000
set_option maxHeartbeats 1000000
namespace Mine
theorem ct_dist0 (c : Cx) {k1 k2 : Kd} (e : Ex) (h1 : kindIs k1 e = false) (h2 : kindIs k2 e = false) : CT c 10 (.ref 547) [tupE k1 k2 e] [] e.pv := by
  refine CT_def (n := 9) (f := 547) (by rfl) rfl rfl (by rfl) (bind1 (fun a => by rfl)) (by decide) (kindsN (by rfl)) ?_
  intro s₀ F₀ L
  refine J_execs_cons <| J_if <| J_isTrueCmp <| J_CallName <| J_G (v := .ref 535) (by kernel_rfl) (by rfl) <| J_callBase (by kernel_rfl) <| J_evalArgs <| J_spliced <| J_Subscript <| J_name (p := tupE k1 k2 e) (by rfl) fun v1 => J_int fun t1 => J_tailT (k := 0) (j := 0) (p := e.pv) (Has.mem (.head _)) Has.int (by rfl) (by rfl) fun v2 => J_spliced_nil <| J_ct (ct_kind c e) (by omega) (.cons (Has.mem (.head _)) .nil) fun v3 => J_Subscript <| J_name (p := tupE k1 k2 e) (by rfl) fun v4 => J_int fun t2 => J_tailT (k := 2) (j := 2) (p := .str (label k2)) (Has.mem (.head _)) Has.int (by rfl) (by rfl) fun v5 => J_eqStr (Has.mem (.tail _ (.tail _ (.head _)))) (Has.mem (.head _)) <| J_truthyB ?_
  rw [kindS_eq, h2]
  refine J_execs_cons <| J_if <| J_isTrueCmp <| J_CallName <| J_G (v := .ref 535) (by kernel_rfl) (by rfl) <| J_callBase (by kernel_rfl) <| J_evalArgs <| J_spliced <| J_Subscript <| J_name (p := tupE k1 k2 e) (by rfl) fun v6 => J_int fun t3 => J_tailT (k := 0) (j := 0) (p := e.pv) (Has.mem (.head _)) Has.int (by rfl) (by rfl) fun v7 => J_spliced_nil <| J_ct (ct_kind c e) (by omega) (.cons (Has.mem (.head _)) .nil) fun v8 => J_Subscript <| J_name (p := tupE k1 k2 e) (by rfl) fun v9 => J_int fun t4 => J_tailT (k := 1) (j := 1) (p := .str (label k1)) (Has.mem (.head _)) Has.int (by rfl) (by rfl) fun v10 => J_eqStr (Has.mem (.tail _ (.tail _ (.head _)))) (Has.mem (.head _)) <| J_truthyB ?_
  rw [kindS_eq, h1]
  exact J_execs_cons <| J_return <| J_Subscript <| J_name (p := tupE k1 k2 e) (by rfl) fun v11 => J_int fun t5 => J_tailT (k := 0) (j := 0) (p := e.pv) (Has.mem (.head _)) Has.int (by rfl) (by rfl) fun v12 => Has.mem (.head _)
theorem ct_dist2 (c : Cx) {k1 k2 : Kd} (hk1 : latK k1) (hk2 : latK k2) {m n : Nat} (hm : 36 ≤ m) (ih : DistOk c m k1 k2 n) (as : List Fm) (r : Ex)
    (h : (match firstOf k1 as with
      | none => some (.f (.node k2 as))
      | some (p, .node kc cs, q) => if q.any fun x => Fm.beq x (.node kc cs) then none else (latE k2 ((p ++ q).map .f)).bind fun rest => (mapO (fun c => latE k2 [c, rest]) (cs.map .f)).bind fun l => (mapO (dist n k1 k2) l).bind fun l => latE k1 l
      | some (_, .sym _, _) => none) = some r) : CT c (m + 5) (.ref 547) [tupE k1 k2 (.f (.node k2 as))] [] r.pv := by
  refine CT_def (n := m + 4) (f := 547) (by rfl) rfl rfl (by rfl) (bind1 (fun a => by rfl)) (by decide) (kindsN (by rfl)) ?_
  intro s₀ F₀ L
  refine J_openVar (x := "info") (p := .fm (.node k2 as)) (ps := [.str (label k1), .str (label k2)]) (by rfl) fun v0 => J_openNode (v := v0) (k := k2) (as := as) (Has.mem (.head _)) fun K a vs O => ?_
  have h0 : ∀ (σ : AS) (v : Value), (∀ q ∈ K ++ [(v0, PV.fm (.node k2 as))], q ∈ σ.κ) → Has c σ v (.val v0) → Has c σ v (.fm (.node k2 as)) := fun σ v hK hv => hv.via (Has.mem (hK _ (by simp)))
  refine J_execs_cons <| J_if <| J_isTrueCmp <| J_CallName <| J_G (v := .ref 535) (by kernel_rfl) (by rfl) <| J_callBase (by kernel_rfl) <| J_evalArgs <| J_spliced <| J_Subscript <| J_name (p := .tup [.val v0, .str (label k1), .str (label k2)]) (by rfl) fun v1 => J_int fun t1 => J_tailT (k := 0) (j := 0) (p := .val v0) (Has.mem (.head _)) Has.int (by rfl) (by rfl) fun v2 => J_spliced_nil <| J_ct (ct_kind c (.f (.node k2 as))) (by omega) (.cons (h0 _ _ (fun q hq => by simp at hq ⊢; rcases hq with hq | hq <;> simp [hq]) (Has.mem (.head _))) .nil) fun v3 => J_Subscript <| J_name (p := .tup [.val v0, .str (label k1), .str (label k2)]) (by rfl) fun v4 => J_int fun t2 => J_tailT (k := 2) (j := 2) (p := .str (label k2)) (Has.mem (.head _)) Has.int (by rfl) (by rfl) fun v5 => J_eqStr (Has.mem (.tail _ (.tail _ (.head _)))) (Has.mem (.head _)) <| J_truthyB ?_
  rw [kindS_eq, show kindIs k2 (.f (.node k2 as)) = true from decide_eq_true rfl]
  refine J_execs_cons (J_mono (Φ := fun fl σ => match firstOf k1 as with
      | none => ∃ v, fl = .ret v ∧ Has c σ v (.fm (.node k2 as))
      | some (p, g, q) => fl = .next ∧ DistI (K ++ [(v0, PV.fm (.node k2 as))]) v0 k1 k2 σ ∧ ∃ w, vs[p.length]? = some w ∧ σ.ρ.lookup ("conj" : Str) = some (.val w)) ?_ fun fl σ z => ?_)
  · refine J_for <| J_Attribute <| J_Subscript <| J_name (p := .tup [.val v0, .str (label k1), .str (label k2)]) (by rfl) fun v6 => J_int fun t3 => J_tailT (k := 0) (j := 0) (p := .val v0) (Has.mem (.head _)) Has.int (by rfl) (by rfl) fun v7 => J_argsOf (Has.mem (.head _)) (O.mono fun q hq => by simp [hq]) ⟨vs.map .val, iterOf_tup (Has.mem (by simp [O.tup])), ?_⟩
    have hlen := O.len
    refine ForJ_ind (fun rem σ => ∃ i, rem = (vs.drop i).map .val ∧ DistI (K ++ [(v0, PV.fm (.node k2 as))]) v0 k1 k2 σ ∧ match firstOf k1 as with
      | none => True
      | some (p, g, q) => i ≤ p.length) ?_ ?_ _ _ ⟨0, rfl, ⟨rfl, by rfl, fun q hq => by simp at hq ⊢; rcases hq with hq | hq <;> simp [hq]⟩, by split <;> simp⟩
    · rintro σ ⟨i, e1, ⟨hown, hinfo, hK⟩, hi⟩
      have hlast : vs.length ≤ i := by
        have := congrArg List.length e1
        simp at this; omega
      cases hf : firstOf k1 as with
      | none => exact J_execs_cons <| J_return <| J_Subscript <| J_name hinfo fun v8 => J_int fun t4 => J_tailT (k := 0) (j := 0) (p := .val v0) (Has.mem (.head _)) Has.int (by rfl) (by rfl) fun v9 => ⟨v9, rfl, h0 _ _ (fun q hq => by simp [hK q hq]) (Has.mem (.head _))⟩
      | some x =>
        obtain ⟨p, g, q⟩ := x
        rw [hf] at hi
        have := (firstOf_some hf).1
        rw [this] at hlen
        simp at hlen
        have : i ≤ p.length := hi
        omega
    · rintro p ps σ ⟨i, e1, ⟨hown, hinfo, hK⟩, hi⟩ v F₁ pin
      have hlt : i < vs.length := by
        have := congrArg List.length e1
        simp at this; omega
      rw [List.drop_eq_getElem_cons hlt] at e1
      cases e1
      have hlt' : i < as.length := by omega
      have hf : as[i]? = some as[i] := List.getElem?_eq_getElem hlt'
      obtain ⟨u, hu, huK⟩ := O.el i _ hf
      have hu' : vs[i] = u := by rw [List.getElem?_eq_getElem hlt] at hu; cases hu; rfl
      rw [hu']
      generalize as[i] = f at hf huK
      refine J_assignName <| J_store (p := .val u) (Has.mem (.head _)) (by rfl) (by rw [hown]; rfl) <| J_execs_cons <| J_if <| J_isTrueCmp <| J_CallName <| J_G (v := .ref 535) (by kernel_rfl) (by rfl) <| J_callBase (by kernel_rfl) <| J_evalArgs <| J_spliced <| J_name (p := .val u) (by rfl) fun w1 => J_spliced_nil <| J_ct (ct_kind c (.f f)) (by omega) (.cons ((Has.mem (.head _) : Has c _ _ (.val u)).via (Has.mem (List.mem_cons_of_mem _ (List.mem_cons_of_mem _ (hK _ (List.mem_append_left _ huK)))))) .nil) fun w2 => J_Subscript <| J_name hinfo fun w3 => J_int fun t4 => J_tailT (k := 1) (j := 1) (p := .str (label k1)) (Has.mem (.head _)) Has.int (by rfl) (by rfl) fun w4 => J_eqStr (Has.mem (.tail _ (.tail _ (.head _)))) (Has.mem (.head _)) <| J_truthyB ?_
      rw [kindS_eq]
      cases hk : kindIs k1 (.f f) with
      | false =>
        refine J_execs_nil <| J_execs_nil ⟨i + 1, rfl, ⟨hown, hinfo, fun q hq => by simp [hK q hq]⟩, ?_⟩
        cases hfo : firstOf k1 as with
        | none => trivial
        | some x =>
          obtain ⟨p, g, q⟩ := x
          rw [hfo] at hi
          obtain ⟨e1, e2, e3⟩ := firstOf_some hfo
          have hi' : i ≤ p.length := hi
          have : i ≠ p.length := fun z => by
            rw [e1, z] at hf
            simp at hf
            rw [hf, hk] at e2; cases e2
          show i + 1 ≤ p.length
          omega
      | true =>
        refine J_execs_cons <| J_Assign <| J_name (p := .val u) (by rfl) fun w5 => J_storeCell (p := .val u) (Has.mem (.head _)) (by rfl) (by rfl) (by rfl) <| J_execs_cons <| J_Break ?_
        cases hfo : firstOf k1 as with
        | none =>
          have := firstOf_none hfo f (List.mem_of_getElem? hf)
          rw [hk] at this; cases this
        | some x =>
          obtain ⟨p, g, q⟩ := x
          rw [hfo] at hi
          obtain ⟨e1, e2, e3⟩ := firstOf_some hfo
          have hi' : i ≤ p.length := hi
          have : i = p.length := by
            by_cases hlt2 : i < p.length
            · have : as[i]? = p[i]? := by rw [e1, List.getElem?_append_left hlt2]
              rw [this] at hf
              have := e3 f (List.mem_of_getElem? hf)
              rw [hk] at this; cases this
            · omega
          subst this
          exact ⟨rfl, ⟨hown, hinfo, fun q hq => by simp [hK q hq]⟩, u, hu, by rfl⟩
  · cases hfo : firstOf k1 as with
    | none =>
      rw [hfo] at z h
      obtain ⟨v, rfl, hv⟩ := z
      cases h
      exact hv
    | some x =>
      obtain ⟨p, g, q⟩ := x
      rw [hfo] at z h
      obtain ⟨rfl, ⟨hown, hinfo, hK⟩, w, hw, hconj⟩ := z
      obtain ⟨e1, e2, e3⟩ := firstOf_some hfo
      cases g with
      | sym i => cases h
      | node kc cs =>
        obtain rfl : kc = k1 := of_decide_eq_true e2
        dsimp only at h
        split at h
        · cases h
        · rename_i hany
          obtain ⟨rest, hrest, h⟩ := Option.bind_eq_some_iff.mp h
          obtain ⟨l, hl, h⟩ := Option.bind_eq_some_iff.mp h
          obtain ⟨l', hl', h⟩ := Option.bind_eq_some_iff.mp h
          have hplen := dist_len hrest
          have hllen := dist_len h
          obtain ⟨g1, g2⟩ := mapO_get hl'
          obtain ⟨g3, g4⟩ := mapO_get hl
          rw [e1] at O
          obtain ⟨vp, w', vq, f1, f2, f3, f4, f5, f6⟩ := O.split (fun f hf e => by
            have := e3 f hf
            rw [e, e2] at this; cases this) (fun f hf e => by
            apply hany
            rw [List.any_eq_true]
            exact ⟨f, hf, by rw [e]; exact beq_iff.mpr rfl⟩)
          obtain rfl : w' = w := by
            rw [f1] at hw
            simp [← f2] at hw
            exact hw
          have hz : vs.length ≤ 1000000 := by
            have := O.len
            simp at this hplen
            omega
          refine J_execs_cons <| J_Assign <| J_CallName <| J_G (v := .ref 542) (by kernel_rfl) (by rfl) <| J_callBase (by kernel_rfl) <| J_evalArgs <| J_spliced <| J_Subscript <| J_name hinfo fun v1 => J_int fun t1 => J_tailT (k := 2) (j := 2) (p := .str (label k2)) (Has.mem (.head _)) Has.int (by rfl) (by rfl) fun v2 => J_spliced <| J_ListComp (ρ₂ := [(("conj" : Str), .val w')]) (g := gIs w') (J_Attribute <| J_Subscript <| J_name hinfo fun v3 => J_int fun t2 => J_tailT (k := 0) (j := 0) (p := .val v0) (Has.mem (.head _)) Has.int (by rfl) (by rfl) fun v4 => J_argsOf (Has.mem (.head _)) (O.mono fun q hq => by simp [hK q (List.mem_append_left _ hq)]) ⟨vs.map .val, iterK_tup (Has.mem (by simp [hK _ (List.mem_append_left _ O.tup)])), ?el, ?sees, by rw [List.length_map]; exact hz, fun v5 => ?_⟩) (by rfl)
          case el =>
            intro p' hp s₁ F₃ C pin₃ v
            obtain ⟨u, hu, rfl⟩ := List.mem_map.mp hp
            obtain ⟨i, hi⟩ := List.mem_iff_getElem?.mp hu
            have hlt : i < (p ++ Fm.node kc cs :: q).length := by rw [← O.len]; exact (List.getElem?_eq_some_iff.mp hi).1
            obtain ⟨u', hu', huK⟩ := O.el i _ (List.getElem?_eq_getElem hlt)
            rw [hi] at hu'; cases hu'
            generalize (p ++ Fm.node kc cs :: q)[i] = f at huK
            refine J_assignName (J_store (p := .val u) (Has.mem (.head _)) (by rfl) (by rfl) <| J_ok1 <| J_isTrueCmp <| J_name (p := .val u) (by rfl) fun v1 => J_name (p := .val w') (by rfl) fun v2 => J_isB (neg := true) <| J_isVal (f := f) (g := .node kc cs) (Has.mem (.tail _ (.head _))) (Has.mem (.head _)) (Has.mem (by simp [hK _ (List.mem_append_left _ huK)])) (Has.mem (by simp [hK _ (List.mem_append_left _ f3)])) <| J_truthyB ?_)
            cases hb : u == w' with
            | true => exact (by simp [gIs, hb])
            | false => exact ⟨.val u, by simp [gIs, hb], J_name (p := .val u) (by rfl) fun v3 => Has.mem (.head _)⟩
          case sees =>
            intro q hq
            obtain rfl := List.mem_singleton.mp hq
            exact ⟨hconj, fun C => .inl (by rfl), (show (some NameKind.cell : Option NameKind) ≠ some .local by decide), by rfl⟩
          rw [f6]
          refine J_spliced_nil <| J_ct (ct_built c hk2 (label k2) rfl ((p ++ q).map .f) rest hrest hplen) (by omega) (.cons (Has.mem (by simp)) (.cons (by rw [fms_map]; exact (Has.mem (.head _) : Has c _ v5 _).closeL (hasAll_zip f4 fun z hz => by simp [hK _ (List.mem_append_left _ (f5 z hz))])) .nil)) fun v6 => J_storeCell (p := rest.pv) (Has.mem (.head _)) (by rfl) (by rfl) (by rfl) ?_
          have hcs : cs.length ≤ 1000 := by simp at g3; omega
          refine J_execs_cons <| J_return <| J_CallName <| J_G (v := .ref 542) (by kernel_rfl) (by rfl) <| J_callBase (by kernel_rfl) <| J_evalArgs <| J_spliced <| J_Subscript <| J_name hinfo fun v11 => J_int fun t5 => J_tailT (k := 1) (j := 1) (p := .str (label kc)) (Has.mem (.head _)) Has.int (by rfl) (by rfl) fun v12 => J_spliced <| J_ofJP rfl <| JP_CallName <| J_Bt (v := .type "list") (by kernel_rfl) (by rfl) (by decide) (by rfl) <| JP_callImm <| JP_evalArgs1 <| JP_CallName <| J_Bt (v := .type "map") (by kernel_rfl) (by rfl) (by decide) (by rfl) <| JP_callImm <| JP_lift <| J_evalArgs <| J_spliced <| J_G (v := .ref 547) (by kernel_rfl) (by rfl) <| J_spliced <| J_ListComp (ρ₂ := [(("info" : Str), .tup [.val v0, .str (label kc), .str (label k2)]), (("rest" : Str), rest.pv)]) (g := gDist kc k2 rest) (J_Attribute <| J_name (p := .val w') hconj fun v13 => J_args (k := kc) (as := cs) ((Has.mem (.head _) : Has c _ v13 (.val w')).via (Has.mem (by simp [hK _ (List.mem_append_left _ f3)]))) fun v15 => ⟨cs.map .fm, iterK_tup (Has.mem (.head _)), ?el2, ?sees2, ?size, fun v16 => ?_⟩) (by rfl)
          case el2 =>
            intro p' hp s₁ F₃ C pin₃ v
            obtain ⟨f, hf, rfl⟩ := List.mem_map.mp hp
            obtain ⟨i, hi⟩ := List.mem_iff_getElem?.mp hf
            obtain ⟨y, hy, hlat⟩ := g4 i (.f f) (by rw [List.getElem?_map, hi]; rfl)
            refine J_assignName (J_store (p := .fm f) (Has.mem (.head _)) (by rfl) (by rfl) (J_ok0 ⟨tupE kc k2 y, by simp [gDist, hlat], ?_⟩))
            refine J_Tuple <| J_spliced <| J_CallName <| J_G (v := .ref 542) (by kernel_rfl) (by rfl) <| J_callBase (by kernel_rfl) <| J_evalArgs <| J_spliced <| J_Subscript <| J_name (p := .tup [.val v0, .str (label kc), .str (label k2)]) (by rfl) fun v1 => J_int fun t1 => J_tailT (k := 2) (j := 2) (p := .str (label k2)) (Has.mem (.head _)) Has.int (by rfl) (by rfl) fun v2 => J_spliced <| J_List <| J_spliced <| J_name (p := .fm f) (by rfl) fun v3 => J_spliced <| J_name (p := rest.pv) (by rfl) fun v4 => J_spliced_nil <| J_newList (ps := [.fm f, rest.pv]) (.cons (Has.mem (by simp)) (.cons (Has.mem (.head _)) .nil)) (show 2 ≤ 16777216 by decide) fun v5 => J_spliced_nil <| J_ct (ct_built c hk2 (label k2) rfl [.f f, rest] y hlat (by decide : 2 ≤ 1000)) (by omega) (.cons (Has.mem (by simp)) (.cons (Has.mem (.head _)) .nil)) fun v6 => J_spliced <| J_Subscript <| J_name (p := .tup [.val v0, .str (label kc), .str (label k2)]) (by rfl) fun v7 => J_int fun t2 => J_tailT (k := 1) (j := 1) (p := .str (label kc)) (Has.mem (.head _)) Has.int (by rfl) (by rfl) fun v8 => J_spliced <| J_Subscript <| J_name (p := .tup [.val v0, .str (label kc), .str (label k2)]) (by rfl) fun v9 => J_int fun t3 => J_tailT (k := 2) (j := 2) (p := .str (label k2)) (Has.mem (.head _)) Has.int (by rfl) (by rfl) fun v10 => J_spliced_nil <| J_newTuple (ps := [y.pv, .str (label kc), .str (label k2)]) (.cons (Has.mem (by simp)) (.cons (Has.mem (by simp)) (.cons (Has.mem (by simp)) .nil))) (show 3 ≤ 16777216 by decide) fun v11 => Has.mem (.head _)
          case sees2 =>
            intro q hq
            rcases List.mem_cons.mp hq with rfl | hq
            · exact ⟨hinfo, fun C => .inl (by rfl), (show (some NameKind.cell : Option NameKind) ≠ some .local by decide), by rfl⟩
            · obtain rfl := List.mem_singleton.mp hq
              exact ⟨by rfl, fun C => .inl (by rfl), (show (some NameKind.cell : Option NameKind) ≠ some .local by decide), by rfl⟩
          case size =>
            rw [List.length_map]
            omega
          rw [gDist_all hl]
          refine J_spliced_nil <| JP_map (Has.mem (.head _)) rfl fun mm TI it lo => JP_listOfMap (mm := m) (ys := l'.map Ex.pv) (ps := l.map (tupE kc k2)) (fun j p hp => ?_) (by simpa using g1) (by simpa using hllen) (by omega) (Has.mem (.head _)) (Has.mem (.tail _ (.head _))) (Has.mem (.tail _ (.tail _ (.head _)))) rfl fun w => ⟨rfl, ?_⟩
          · rw [List.getElem?_map] at hp
            obtain ⟨x, hx, rfl⟩ := Option.map_eq_some_iff.mp hp
            obtain ⟨y, hy, hd⟩ := g2 j x hx
            exact ⟨y.pv, by rw [List.getElem?_map, hy]; rfl, ih x y hd⟩
          · exact J_spliced_nil <| J_ct (ct_built c hk1 (label kc) rfl l' r h hllen) (by omega) (.cons (Has.mem (by simp)) (.cons (Has.mem (.head _)) .nil)) fun v => Has.mem (.head _)
end Mine
end

-- C29
section
open PySem PySem.W PyProof.Rows PySem.Calls
set_option maxRecDepth 100000
set_option maxHeartbeats 1000000
namespace Mine
theorem ct_dist (c : Cx) {k1 k2 : Kd} (hk1 : latK k1) (hk2 : latK k2) (hne : k1 ≠ k2) : ∀ n : Nat, DistOk c (40 + 5 * n) k1 k2 n
  | 0 => fun e r h => by cases h
  | n + 1 => fun e r h => by
    have ih := ct_dist c hk1 hk2 hne n
    cases e with
    | b u => cases h; exact (ct_dist0 c (.b u) rfl rfl).mono (by omega)
    | f f =>
      cases f with
      | sym i => cases h; exact (ct_dist0 c (.f (.sym i)) rfl rfl).mono (by omega)
      | node k as =>
        unfold dist at h
        by_cases hk : k = k2
        · subst hk
          rw [if_pos rfl] at h
          exact ct_dist2 c hk1 hk2 (by omega) ih as r h
        · rw [if_neg hk] at h
          by_cases hk' : k = k1
          · subst hk'
            rw [if_pos rfl] at h
            exact ct_dist1 c hk1 hk2 hne (by omega) ih as r h
          · rw [if_neg hk'] at h
            cases h
            exact (ct_dist0 c (.f (.node k as)) (decide_eq_false hk') (decide_eq_false hk)).mono (by omega)
theorem ct_distAnd (c : Cx) (e r : Ex) (h : dist 8 .and .or e = some r) : CT c 82 (.ref 521) [e.pv] [] r.pv := by
  refine CT_def (n := 81) (f := 521) (by rfl) rfl rfl (by rfl) (bind1 (fun a => by rfl)) (by decide) (kindsN (by rfl)) ?_
  intro s₀ F₀ L
  exact J_execs_cons <| J_return <| J_CallName <| J_G (v := .ref 547) (by kernel_rfl) (by rfl) <| J_callBase (by kernel_rfl) <| J_evalArgs <| J_spliced <| J_Tuple <| J_spliced <| J_name (p := e.pv) (by rfl) fun v1 => J_spliced <| J_str fun t1 => J_spliced <| J_str fun t2 => J_spliced_nil <| J_newTuple (ps := [e.pv, .str (label .and), .str (label .or)]) (.cons (Has.mem (.head _)) (.cons Has.str (.cons Has.str .nil))) (show 3 ≤ 16777216 by decide) fun v2 => J_spliced_nil <| J_ct (ct_dist c (.inl rfl) (.inr rfl) (by decide) 8 e r h) (by omega) (.cons (Has.mem (.head _)) .nil) fun v3 => Has.mem (.head _)
theorem ct_distOr (c : Cx) (e r : Ex) (h : dist 8 .or .and e = some r) : CT c 82 (.ref 528) [e.pv] [] r.pv := by
  refine CT_def (n := 81) (f := 528) (by rfl) rfl rfl (by rfl) (bind1 (fun a => by rfl)) (by decide) (kindsN (by rfl)) ?_
  intro s₀ F₀ L
  exact J_execs_cons <| J_return <| J_CallName <| J_G (v := .ref 547) (by kernel_rfl) (by rfl) <| J_callBase (by kernel_rfl) <| J_evalArgs <| J_spliced <| J_Tuple <| J_spliced <| J_name (p := e.pv) (by rfl) fun v1 => J_spliced <| J_str fun t1 => J_spliced <| J_str fun t2 => J_spliced_nil <| J_newTuple (ps := [e.pv, .str (label .or), .str (label .and)]) (.cons (Has.mem (.head _)) (.cons Has.str (.cons Has.str .nil))) (show 3 ≤ 16777216 by decide) fun v2 => J_spliced_nil <| J_ct (ct_dist c (.inr rfl) (.inl rfl) (by decide) 8 e r h) (by omega) (.cons (Has.mem (.head _)) .nil) fun v3 => Has.mem (.head _)
end Mine
end

-- C30
section
open PySem PySem.W PyProof.Rows PySem.Calls
set_option maxRecDepth 100000
set_option maxHeartbeats 1000000
namespace Mine
theorem bind2k {c : Cx} {n : Nat} {fd : FuncData} {p q : PV} {x y z : Str} {T : Addr} {o : Obj} {items : Array Value} {m : Nat} {k : Value → Value → Option (Array Value) → Sem (List (Str × Value))} (hf : fd.defaults = .ref T) (ht : (KK c.w).lookup T = some o) (hd : o.data = .seq items m)
    (h₁ : ∀ a b, bindArgs fd ⟨[a], [(z, b)]⟩ = seqItems? fd.defaults >>= k a b) (h₂ : ∀ a b, k a b (some items) = pure [(x, a), (y, b)]) : BindSpec c n fd [p] [(z, q)] [x, y] [p, q] := fun vs kvs A r F s hB hS hP Q qq => by
  obtain ⟨a, rfl, ra⟩ := hP.1.one
  obtain ⟨k1, k2⟩ := hP.2
  match kvs, k1, k2 with
  | [(z', b)], k1, k2 =>
    obtain rfl : z' = z := by simpa using k1
    obtain ⟨b', e, rb⟩ := (show Reps F [q] [b] from k2).one
    cases e
    refine BindsTo.of_defaults hf ((hB.inK hS) _ _ ht) hd (h₁ a b) (h₂ a b) c.M A _ _ ?_
    exact qq _ F s.heap s.toks (Kp.refl _) (Ext.refl hS) ⟨rfl, Reps.cons ra (Reps.cons rb Reps.nil)⟩
  | [], k1, k2 => cases k1
  | _ :: _ :: _, k1, k2 => simp at k1
theorem ct_toNnf (c : Cx) (e : Ex) (simp : Bool) (r : Ex) (h : nnfTop simp e = some r) {ps : List PV} {kws : List (Str × PV)} (hs : (ps = [e.pv, .bool simp] ∧ kws = []) ∨ (ps = [e.pv] ∧ kws = [] ∧ simp = true) ∨ (ps = [e.pv] ∧ kws = [(("simplify" : Str), PV.bool simp)])) : CTw c 82 (.ref 555) ps kws r.pv := by
  refine CTw_def (n := 81) (f := 555) (pvs := [e.pv, .bool simp]) (by rfl) rfl rfl (by rfl) (names := ["expr", "simplify"]) ?bnd (by decide) (kindsN (by rfl)) ?_
  case bnd =>
    rcases hs with ⟨rfl, rfl⟩ | ⟨rfl, rfl, rfl⟩ | ⟨rfl, rfl⟩
    · exact bind2e (by rfl) (by rfl) (by rfl) (fun a b => by rfl) (fun a b => by rfl)
    · exact bind1e (dv := .bool true) (by rfl) (by rfl) (by rfl) (fun a => by rfl) (fun a => by rfl) (fun F => rfl)
    · exact bind2k (by rfl) (by rfl) (by rfl) (fun a b => by rfl) (fun a b => by rfl)
  intro s₀ F₀ L stk
  obtain ⟨y, hy, h⟩ := Option.bind_eq_some_iff.mp h
  refine J_execs_cons <| J_if <| J_isTrue <| J_CallName <| J_G (v := .ref 579) (by kernel_rfl) (by rfl) <| J_callBase (by kernel_rfl) <| J_evalArgs <| J_spliced <| J_name (p := e.pv) (by rfl) fun v1 => J_spliced <| J_name (p := .bool simp) (by rfl) fun v2 => J_spliced_nil <| J_ct (ct_isNnf2 c e simp y hy) (by omega) (.cons (Has.mem (.tail _ (.head _))) (.cons (Has.mem (.head _)) .nil)) fun v3 => J_known (w := .bool y) (Has.bv (Has.mem (.head _))) <| J_truthyB ?_
  cases y with
  | true =>
    cases h
    exact J_execs_cons <| J_return <| J_name (p := e.pv) (by rfl) fun v4 => Has.mem (.head _)
  | false =>
    obtain ⟨lit, hlit, hy⟩ := Option.bind_eq_some_iff.mp hy
    cases lit with
    | true => cases hy
    | false =>
      obtain ⟨f, rfl⟩ := litF_false hlit
      obtain ⟨fn, hfn, hct⟩ := nnf_ok c simp 8 f r hlit h
      exact J_execs_nil <| J_execs_cons <| J_return <| J_CallAttr <| J_name (p := .fm f) (by rfl) fun v5 => J_calleeFew fun pl => J_methF (Has.mem (.head _)) hfn.find hfn.typ (shadow_nnf f) <| J_callBase hfn.keep <| J_evalArgs <| J_spliced <| J_name (p := .bool simp) (by rfl) fun v6 => J_spliced_nil <| J_ctW hct (by omega) (.cons (Has.mem (.tail _ (.head _))) (.cons (Has.mem (.head _)) .nil)) fun v7 => Has.mem (.head _)
theorem ct_elim (c : Cx) (e r : Ex) (h : nnfTop false e = some r) : CTw c 83 (.ref 607) [e.pv] [] r.pv := by
  refine CTw_def (n := 82) (f := 607) (by rfl) rfl rfl (by rfl) (bind1 (fun a => by rfl)) (by decide) (kindsN (by rfl)) ?_
  intro s₀ F₀ L stk
  exact J_execs_cons <| J_return <| J_CallName <| J_G (v := .ref 555) (by kernel_rfl) (by rfl) <| J_callBase (by kernel_rfl) <| J_evalKw <| J_spliced <| J_name (p := e.pv) (by rfl) fun v1 => J_spliced_nil <| J_evalAll <| J_bool <| J_evalAll_nil <| J_ctkW (ct_toNnf c e false r h (.inr (.inr ⟨rfl, rfl⟩))) (by omega) (.cons (Has.mem (.head _)) .nil) ⟨rfl, (show HasAll c _ [Value.bool false] [PV.bool false] from .cons Has.bool .nil)⟩ fun v2 => Has.mem (.head _)
theorem ct_toCnf (c : Cx) (e r : Ex) (h : normal .and .or e = some r) : CTw c 84 (.ref 563) [e.pv] [] r.pv := by
  refine CTw_def (n := 83) (f := 563) (by rfl) rfl rfl (by rfl) (bind1ee (dv := .bool false) (dv' := .bool false) (q := .bool false) (q' := .bool false) (by rfl) (by rfl) (by rfl) (fun a => by rfl) (fun a => by rfl) (fun F => rfl) (fun F => rfl)) (by decide) (kindsN (by rfl)) ?_
  intro s₀ F₀ L stk
  unfold normal at h
  refine J_execs_cons <| J_Assign <| J_CallName <| J_G (v := .ref 32) (by kernel_rfl) (by rfl) <| J_callBase (by kernel_rfl) <| J_evalArgs <| J_spliced <| J_name (p := e.pv) (by rfl) fun v1 => J_spliced_nil <| J_ct (ct_sympify c e.pv) (by omega) (.cons (Has.mem (.head _)) .nil) fun v2 => J_store (p := e.pv) (Has.mem (.head _)) (by rfl) (by rfl) ?_
  refine J_execs_cons <| J_if <| J_not <| J_isTrue <| J_CallName <| J_Bt (v := .builtin "isinstance") (by kernel_rfl) (by rfl) (by decide) (by rfl) <| J_callImm <| J_evalArgs <| J_spliced <| J_name (p := e.pv) (by rfl) fun v3 => J_spliced <| J_G (v := .ref 219) (by kernel_rfl) (by rfl) <| J_spliced_nil <| J_isiE (Has.mem (.head _)) (isi_fun c.w e) <| J_truthyB ?_
  cases hfun : isFun e with
  | false =>
    rw [hfun, if_neg (by simp)] at h
    cases h
    exact J_execs_cons <| J_return <| J_name (p := e.pv) (by rfl) fun v4 => Has.mem (.head _)
  | true =>
    rw [hfun, if_pos rfl] at h
    obtain ⟨y, hy, h⟩ := Option.bind_eq_some_iff.mp h
    refine J_execs_nil <| J_execs_cons <| J_if <| J_isTrue <| J_CallName <| J_G (v := .ref 586) (by kernel_rfl) (by rfl) <| J_callBase (by kernel_rfl) <| J_evalArgs <| J_spliced <| J_name (p := e.pv) (by rfl) fun v4 => J_spliced_nil <| J_ct (ct_isCnf c e y hy) (by omega) (.cons (Has.mem (.head _)) .nil) fun v5 => J_known (w := .bool y) (Has.bv (Has.mem (.head _))) <| J_truthyB ?_
    cases y with
    | true =>
      cases h
      exact J_execs_cons <| J_return <| J_name (p := e.pv) (by rfl) fun v4 => Has.mem (.head _)
    | false =>
      obtain ⟨e2, he2, h⟩ := Option.bind_eq_some_iff.mp h
      exact J_execs_nil <| J_execs_cons <| J_Assign <| J_CallName <| J_G (v := .ref 607) (by kernel_rfl) (by rfl) <| J_callBase (by kernel_rfl) <| J_evalArgs <| J_spliced <| J_name (p := e.pv) (by rfl) fun v6 => J_spliced_nil <| J_ctW (ct_elim c e e2 he2) (by omega) (.cons (Has.mem (.head _)) .nil) fun v7 => J_store (p := e2.pv) (Has.mem (.head _)) (by rfl) (by rfl) <| J_execs_cons <| J_Assign <| J_CallName <| J_G (v := .ref 521) (by kernel_rfl) (by rfl) <| J_callBase (by kernel_rfl) <| J_evalArgs <| J_spliced <| J_name (p := e2.pv) (by rfl) fun v8 => J_spliced_nil <| J_ct (ct_distAnd c e2 r h) (by omega) (.cons (Has.mem (.head _)) .nil) fun v9 => J_store (p := r.pv) (Has.mem (.head _)) (by rfl) (by rfl) <| J_execs_cons <| J_return <| J_name (p := r.pv) (by rfl) fun v10 => Has.mem (.head _)
theorem ct_toDnf (c : Cx) (e r : Ex) (h : normal .or .and e = some r) : CTw c 84 (.ref 571) [e.pv] [] r.pv := by
  refine CTw_def (n := 83) (f := 571) (by rfl) rfl rfl (by rfl) (bind1ee (dv := .bool false) (dv' := .bool false) (q := .bool false) (q' := .bool false) (by rfl) (by rfl) (by rfl) (fun a => by rfl) (fun a => by rfl) (fun F => rfl) (fun F => rfl)) (by decide) (kindsN (by rfl)) ?_
  intro s₀ F₀ L stk
  unfold normal at h
  refine J_execs_cons <| J_Assign <| J_CallName <| J_G (v := .ref 32) (by kernel_rfl) (by rfl) <| J_callBase (by kernel_rfl) <| J_evalArgs <| J_spliced <| J_name (p := e.pv) (by rfl) fun v1 => J_spliced_nil <| J_ct (ct_sympify c e.pv) (by omega) (.cons (Has.mem (.head _)) .nil) fun v2 => J_store (p := e.pv) (Has.mem (.head _)) (by rfl) (by rfl) ?_
  refine J_execs_cons <| J_if <| J_not <| J_isTrue <| J_CallName <| J_Bt (v := .builtin "isinstance") (by kernel_rfl) (by rfl) (by decide) (by rfl) <| J_callImm <| J_evalArgs <| J_spliced <| J_name (p := e.pv) (by rfl) fun v3 => J_spliced <| J_G (v := .ref 219) (by kernel_rfl) (by rfl) <| J_spliced_nil <| J_isiE (Has.mem (.head _)) (isi_fun c.w e) <| J_truthyB ?_
  cases hfun : isFun e with
  | false =>
    rw [hfun, if_neg (by simp)] at h
    cases h
    exact J_execs_cons <| J_return <| J_name (p := e.pv) (by rfl) fun v4 => Has.mem (.head _)
  | true =>
    rw [hfun, if_pos rfl] at h
    obtain ⟨y, hy, h⟩ := Option.bind_eq_some_iff.mp h
    refine J_execs_nil <| J_execs_cons <| J_if <| J_isTrue <| J_CallName <| J_G (v := .ref 593) (by kernel_rfl) (by rfl) <| J_callBase (by kernel_rfl) <| J_evalArgs <| J_spliced <| J_name (p := e.pv) (by rfl) fun v4 => J_spliced_nil <| J_ct (ct_isDnf c e y hy) (by omega) (.cons (Has.mem (.head _)) .nil) fun v5 => J_known (w := .bool y) (Has.bv (Has.mem (.head _))) <| J_truthyB ?_
    cases y with
    | true =>
      cases h
      exact J_execs_cons <| J_return <| J_name (p := e.pv) (by rfl) fun v4 => Has.mem (.head _)
    | false =>
      obtain ⟨e2, he2, h⟩ := Option.bind_eq_some_iff.mp h
      exact J_execs_nil <| J_execs_cons <| J_Assign <| J_CallName <| J_G (v := .ref 607) (by kernel_rfl) (by rfl) <| J_callBase (by kernel_rfl) <| J_evalArgs <| J_spliced <| J_name (p := e.pv) (by rfl) fun v6 => J_spliced_nil <| J_ctW (ct_elim c e e2 he2) (by omega) (.cons (Has.mem (.head _)) .nil) fun v7 => J_store (p := e2.pv) (Has.mem (.head _)) (by rfl) (by rfl) <| J_execs_cons <| J_return <| J_CallName <| J_G (v := .ref 528) (by kernel_rfl) (by rfl) <| J_callBase (by kernel_rfl) <| J_evalArgs <| J_spliced <| J_name (p := e2.pv) (by rfl) fun v8 => J_spliced_nil <| J_ct (ct_distOr c e2 r h) (by omega) (.cons (Has.mem (.head _)) .nil) fun v9 => Has.mem (.head _)
end Mine
end

-- C31
section
open PySem PySem.W PyProof.Rows PySem.Calls
set_option maxRecDepth 100000
set_option maxHeartbeats 1000000
namespace Mine
theorem CTp_defD {c : Cx} {n : Nat} {f : Addr} {oc : Value} {od : Option Addr} {sl : Array (Option Value)} {fd : FuncData} {body : List Stmt} {ps : List PV} {names : List Str} {pvs : List PV} {κ : List (Value × PV)} {ms : List (Addr × Obj)} {Post : Value → PM → List (Addr × Obj) → Prop}
    (ho : (KK c.w).lookup f = some ⟨oc, od, .func fd, sl⟩) (hb : fd.body = .stmts body) (hcl : fd.closure = []) (hcd : codeIn (KK c.w) fd.code fd.qualname = true)
    (hbind : ∀ vs kvs, Steps c n (bindArgs fd ⟨vs, kvs⟩) (fun F _ => Reps F ps vs ∧ KReps F [] kvs) (fun F _ b => b.map (·.1) = names ∧ Reps F pvs (b.map (·.2))))
    (hnd : names.Nodup) (hkind : ∀ L, ∀ x ∈ names, fd.scope.names.lookup x = some .local ∨ (fd.scope.names.lookup x = some .cell ∧ ((cellsFrom (L + 1) fd.scope.names []).lookup x).isSome = true))
    (hJ : ∀ s₀ F₀ L, JP c n ⟨s₀, F₀, callEnvC fd L f, (callEnvC fd L f).cells, [], none⟩ ms ⟨names.zip pvs, none, κ⟩ (execs body (callEnvC fd L f)) (fun fl ms' σ' => (∀ a ∈ addrs ms, a ∈ addrs ms') ∧ ∀ F h fr, Holds c (Fc.wp fr ms') F σ' h → Post (retOf fl) F ms') fun _ => False)
    (hco : fd.scope.isCoroutine = false := by rfl) (hgen : fd.scope.isGenerator = false := by rfl) (hk : fd.scope.kind = .function := by rfl) :
    CTp c (n + 1) (.ref f) ps κ ms Post := fun vs A r F s hB hS hP hκ hms Q q =>
  call_JP ho hb hcl hcd hbind hnd hkind hJ (fun _ _ _ z => z.1) r hB hS hP hκ hms (fun z => z.elim fun _ z => z.elim) (fun z => z.elim fun _ z => z.elim) (fun fl ms' σ' F' h' tk fr z H e le sb hn hp => q _ F' h' tk ms' e le sb hn hp (z.2 F' h' fr H)) (R := EndC Q)
    (fun z => z.elim fun _ z => z.elim) hco hgen hk
section
variable {c : Cx} {n : Nat} {fr : Fc} {σ : AS}
theorem free_wp {F : PM} {a : Addr} {ms : List (Addr × Obj)} (Z : Free fr F σ a) : Free (fr.wp ms) F σ a := ⟨Z.off, Z.loc, Z.new, Z.cell, Z.own⟩
theorem JP_ofB {α : Type} {t : Sem α} {d : Addr} {es : List DictEntry} {k : Nat} {Φ : α → List (Addr × Obj) → AS → Prop} {Ψ : List (Addr × Obj) → Prop} (hs : fr.stk = none) (h : B c n (fr.wp []) d σ es t fun a σ' es' => ∀ k', Φ a [(d, dictOf es' k')] σ') :
    JP c n fr [(d, dictOf es k)] σ t Φ Ψ := fun A r F s H Q E q e => by
  obtain ⟨H0, Z⟩ := H.unwp
  obtain ⟨Zd, gd⟩ := Z _ (.head _)
  refine wpAny_mono (h A r F s k H0 (free_wp Zd) ⟨hs, fun z hz => nomatch hz⟩ gd Q fun a σ' es' k' F' h' tk z H' Z' hd' => ?_) (fun _ _ x => x) fun _ _ x => x.elim
  refine q a _ σ' F' h' tk (z k') (Holds.rewp H' hs fun z hz => ?_)
  obtain rfl := List.mem_singleton.mp hz
  exact ⟨⟨Z'.off, Z'.loc, Z'.new, Z'.cell, Z'.own⟩, hd'⟩
theorem B_Assign2 {d : Addr} {es : List DictEntry} {t₁ t₂ value : Expr} {pos : Pos} {env : Env} {Φ : Flow → AS → List DictEntry → Prop} (h : B c n fr d σ es (eval value env) fun v σ' es' => B c n fr d σ' es' (assign t₁ env v) fun _ σ₁ es₁ => B c n fr d σ₁ es₁ (assign t₂ env v) fun _ σ'' es'' => Φ .next σ'' es'')
    (hs : swapsWithSole [t₁, t₂] value pos.line env = pure false := by rfl) (hw : swappedStores [t₁, t₂] value env = pure none := by rfl) (he : (assignEach [t₁, t₂] env).map (·.2) = [assign t₁ env, assign t₂ env] := by rfl) : B c n fr d σ es (exec (.Assign [t₁, t₂] value pos) env) Φ := by
  rw [arm_exec_Assign, hs, hw, he]
  refine B_bind (B_standAt (B_bind (B_pure ?_)))
  simp only [Bool.false_eq_true, if_false]
  refine B_bind (B_mono h fun v σ' es' z => B_bind (B_pure ?_))
  refine B_bind ?_
  show B c n fr d σ' es' (holding [v] (assign t₁ env v) >>= fun _ => assignAll v [assign t₂ env]) _
  exact B_bind (B_holding (B_mono z fun u σ₁ es₁ z' => B_mono z' fun u σ'' es'' z'' => B_pure z''))
end
theorem symF (w : World) : findIn (KK w) (.ref symC) "__setattr__" = some (some (.builtin "object.__setattr__")) ∧ plainOver (KK w) symC = true ∧ hasDictIn (KK w) symC = true ∧ takerIn (KK w) symC "name" = some none ∧ takerIn (KK w) symC "text" = some none :=
  ⟨by kernel_rfl, by kernel_rfl, by kernel_rfl, by kernel_rfl, by kernel_rfl⟩
def SymPost (d : Addr) (i : Fin 3) (v : Value) (F : PM) (ms' : List (Addr × Obj)) : Prop := v = .none ∧ ∃ h1 h2 t1 t2 t3 t4 k, ms' = [(d, dictOf [⟨h1, .str "name" t1, .str (nm i) t3⟩, ⟨h2, .str "text" t2, .str (nm i) t4⟩] k)]
theorem ct_symInit (c : Cx) (x d : Addr) (i : Fin 3) : CTp c 6 (.ref 107) [.val (.ref x), .str (nm i)] [(.ref x, .raw (instObj symC d))] [(d, dictOf [] 0)] (SymPost d i) := by
  refine CTp_defD (n := 5) (f := 107) (by rfl) rfl rfl (by rfl) (bind2 (fun a b => by rfl)) (by decide) (kindsN (by rfl)) ?_
  intro s₀ F₀ L
  obtain ⟨f1, f2, f3, f4, f5⟩ := symF c.w
  refine JP_execs_cons <| JP_ofB rfl <| B_Assign2 <| B_lift fun F₁ pin => J_name (p := .str (nm i)) (by rfl) fun v1 => ?_
  refine B_assignAttr (B_lift fun F₁ pin => J_name (p := .val (.ref x)) (by rfl) fun v2 => ?_)
  refine B_known (t := fun v => setAttr v _ _) (Has.mem (.head _)) (B_setAttr (C := symC) (Has.mem (by simp)) f1 f2 f4 f3 rfl (fun t => Nat.le_trans (putL_len _ _ _ _ _) (by decide)) fun t1 => ?_)
  refine B_assignAttr (B_lift fun F₁ pin => J_name (p := .val (.ref x)) (by rfl) fun v3 => ?_)
  refine B_known (t := fun v => setAttr v _ _) (Has.mem (.head _)) (B_setAttr (C := symC) (Has.mem (by simp)) f1 f2 f5 f3 rfl (fun t => Nat.le_trans (putL_len _ _ _ _ _) (Nat.le_trans (Nat.succ_le_succ (putL_len _ _ _ _ _)) (by decide))) fun t2 => ?_)
  intro k'
  refine JP_execs_nil ⟨fun a ha => by simpa [addrs] using ha, fun F h fr H => ?_⟩
  obtain ⟨t, ht⟩ := H.tmp (v1, .str (nm i)) (by simp)
  obtain rfl := ht
  exact ⟨rfl, _, _, _, _, _, _, k', rfl⟩
end Mine
end

-- C32
section
open PySem PySem.W PyProof.Rows PySem.Calls
set_option maxRecDepth 100000
set_option maxHeartbeats 1000000
namespace Mine
theorem J_eqStrB {c : Cx} {n : Nat} {fr : Fc} {σ : AS} {v w : Value} {x y : Str} {Φ : Value → AS → Prop} (b : Bool) (hv : Has c σ v (.str x)) (hw : Has c σ w (.str y)) (hb : (x.cps.toList == y.cps.toList) = b) (k : Φ (.bool b) σ) : J c n fr σ (compareOp .Eq v w) Φ :=
  J_eqStr hv hw (hb ▸ k)
def OpIs (o : Str) (f : Bool → Bool → Bool) : Prop := (o = "and" ∧ f = fun a b => a && b) ∨ (o = "or" ∧ f = fun a b => a || b) ∨ (o = "xor" ∧ f = fun a b => a != b) ∨ (o = "implies" ∧ f = fun a b => !a || b) ∨ (o = "same" ∧ f = fun a b => a == b)
def opF : Nat → Bool → Bool → Bool
  | 4 => fun a b => a && b | 5 => fun a b => a || b | 6 => fun a b => a != b | 7 => fun a b => !a || b | _ => fun a b => a == b
theorem opIs (k : Nat) : OpIs (opS k) (opF k) := by
  unfold OpIs opS opF
  split <;> simp
theorem value_bin (row : Fin 3 → Bool) (k : Nat) (a b : Tr) : value row (.bin k a b) = opF k (value row a) (value row b) := by
  unfold opF
  show (match k with | 4 => _ | 5 => _ | 6 => _ | 7 => _ | _ => _) = _
  split <;> rfl
theorem row_at (row : Fin 3 → Bool) (i : Fin 3) : ([.bool (row 0), .bool (row 1), .bool (row 2)] : List PV)[((i.val : Int)).toNat]? = some (.bool (row i)) := by
  match i with
  | 0 => rfl
  | 1 => rfl
  | 2 => rfl
theorem ct_value (c : Cx) (row : Fin 3 → Bool) : ∀ t : Tr, CT c (10 + dV t) (.ref 635) [treePV t, rowPV row] [] (.bool (value row t))
  | .var i => by
    refine (CT_def (n := 9) (f := 635) (by rfl) rfl rfl (by rfl) (bind2 (fun a b => by rfl)) (by decide) (kindsN (by rfl)) ?_)
    intro s₀ F₀ L
    refine J_execs_cons <| J_if <| J_isTrueCmp <| J_Subscript <| J_name (p := .tup [.str "var", .int (i.val : Int)]) (by rfl) fun v1 => J_int fun t1 => J_tailT (k := 0) (j := 0) (p := .str "var") (Has.mem (.head _)) Has.int (by rfl) (by rfl) fun v2 => J_str fun t2 => J_eqStrB true (Has.mem (.head _)) Has.str (by decide +kernel) <| J_truthyB ?_
    refine J_execs_cons <| J_return <| J_Subscript <| J_name (p := rowPV row) (by rfl) fun v3 => J_Subscript <| J_name (p := .tup [.str "var", .int (i.val : Int)]) (by rfl) fun v4 => J_int fun t3 => J_tailT (k := 1) (j := 1) (p := .int (i.val : Int)) (Has.mem (.head _)) Has.int (by rfl) (by rfl) fun v5 => J_tailL (k := (i.val : Int)) (p := .bool (row i)) (Has.mem (by simp)) (Has.mem (.head _)) (row_at row i) (hb := by have := i.isLt; omega) fun v6 => Has.mem (.head _)
  | .not t => by
    have ih := ct_value c row t
    refine (CT_def (n := 10 + dV t) (f := 635) (by rfl) rfl rfl (by rfl) (bind2 (fun a b => by rfl)) (by decide) (kindsN (by rfl)) ?_)
    intro s₀ F₀ L
    refine J_execs_cons <| J_if <| J_isTrueCmp <| J_Subscript <| J_name (p := .tup [.str "not", treePV t]) (by rfl) fun v1 => J_int fun t1 => J_tailT (k := 0) (j := 0) (p := .str "not") (Has.mem (.head _)) Has.int (by rfl) (by rfl) fun v2 => J_str fun t2 => J_eqStrB false (Has.mem (.head _)) Has.str (by decide +kernel) <| J_truthyB ?_
    refine J_execs_nil <| J_execs_cons <| J_Assign <| J_CallName <| J_G (v := .ref 635) (by kernel_rfl) (by rfl) <| J_callBase (by kernel_rfl) <| J_evalArgs <| J_spliced <| J_Subscript <| J_name (p := .tup [.str "not", treePV t]) (by rfl) fun v3 => J_int fun t3 => J_tailT (k := 1) (j := 1) (p := treePV t) (Has.mem (.head _)) Has.int (by rfl) (by rfl) fun v4 => J_spliced <| J_name (p := rowPV row) (by rfl) fun v5 => J_spliced_nil <| J_ct ih (by omega) (.cons (Has.mem (.tail _ (.head _))) (.cons (Has.mem (.head _)) .nil)) fun v6 => J_store (p := .bool (value row t)) (Has.mem (.head _)) (by rfl) (by rfl) ?_
    refine J_execs_cons <| J_if <| J_isTrueCmp <| J_Subscript <| J_name (p := .tup [.str "not", treePV t]) (by rfl) fun v7 => J_int fun t4 => J_tailT (k := 0) (j := 0) (p := .str "not") (Has.mem (.head _)) Has.int (by rfl) (by rfl) fun v8 => J_str fun t5 => J_eqStrB true (Has.mem (.head _)) Has.str (by decide +kernel) <| J_truthyB ?_
    exact J_execs_cons <| J_return <| J_unaryNot <| J_name (p := .bool (value row t)) (by rfl) fun v9 => J_known (w := .bool (value row t)) (Has.bv (Has.mem (.head _))) <| J_truthyB Has.bool
  | .bin k a b => by
    have iha := ct_value c row a
    have ihb := ct_value c row b
    rw [value_bin]
    refine (CT_def (n := 10 + (dV a + dV b)) (f := 635) (by rfl) rfl rfl (by rfl) (bind2 (fun a b => by rfl)) (by decide) (kindsN (by rfl)) ?_)
    intro s₀ F₀ L
    have ho := opIs k
    show J _ _ _ ⟨[("tree", .tup [.str (opS k), treePV a, treePV b]), ("row", rowPV row)], none, []⟩ _ _
    generalize opS k = o at ho
    generalize opF k = f at ho
    have hvar : (o.cps.toList == (("var" : Str)).cps.toList) = false := by rcases ho with ⟨rfl, _⟩ | ⟨rfl, _⟩ | ⟨rfl, _⟩ | ⟨rfl, _⟩ | ⟨rfl, _⟩ <;> decide +kernel
    have hnot : (o.cps.toList == (("not" : Str)).cps.toList) = false := by rcases ho with ⟨rfl, _⟩ | ⟨rfl, _⟩ | ⟨rfl, _⟩ | ⟨rfl, _⟩ | ⟨rfl, _⟩ <;> decide +kernel
    refine J_execs_cons <| J_if <| J_isTrueCmp <| J_Subscript <| J_name (p := .tup [.str o, treePV a, treePV b]) (by rfl) fun v1 => J_int fun t1 => J_tailT (k := 0) (j := 0) (p := .str o) (Has.mem (.head _)) Has.int (by rfl) (by rfl) fun v2 => J_str fun t2 => J_eqStrB false (Has.mem (.head _)) Has.str hvar <| J_truthyB ?_
    refine J_execs_nil <| J_execs_cons <| J_Assign <| J_CallName <| J_G (v := .ref 635) (by kernel_rfl) (by rfl) <| J_callBase (by kernel_rfl) <| J_evalArgs <| J_spliced <| J_Subscript <| J_name (p := .tup [.str o, treePV a, treePV b]) (by rfl) fun v3 => J_int fun t3 => J_tailT (k := 1) (j := 1) (p := treePV a) (Has.mem (.head _)) Has.int (by rfl) (by rfl) fun v4 => J_spliced <| J_name (p := rowPV row) (by rfl) fun v5 => J_spliced_nil <| J_ct iha (by omega) (.cons (Has.mem (.tail _ (.head _))) (.cons (Has.mem (.head _)) .nil)) fun v6 => J_store (p := .bool (value row a)) (Has.mem (.head _)) (by rfl) (by rfl) ?_
    refine J_execs_cons <| J_if <| J_isTrueCmp <| J_Subscript <| J_name (p := .tup [.str o, treePV a, treePV b]) (by rfl) fun v7 => J_int fun t4 => J_tailT (k := 0) (j := 0) (p := .str o) (Has.mem (.head _)) Has.int (by rfl) (by rfl) fun v8 => J_str fun t5 => J_eqStrB false (Has.mem (.head _)) Has.str hnot <| J_truthyB ?_
    refine J_execs_nil <| J_execs_cons <| J_Assign <| J_CallName <| J_G (v := .ref 635) (by kernel_rfl) (by rfl) <| J_callBase (by kernel_rfl) <| J_evalArgs <| J_spliced <| J_Subscript <| J_name (p := .tup [.str o, treePV a, treePV b]) (by rfl) fun v9 => J_int fun t6 => J_tailT (k := 2) (j := 2) (p := treePV b) (Has.mem (.head _)) Has.int (by rfl) (by rfl) fun v10 => J_spliced <| J_name (p := rowPV row) (by rfl) fun v11 => J_spliced_nil <| J_ct ihb (by omega) (.cons (Has.mem (.tail _ (.head _))) (.cons (Has.mem (.head _)) .nil)) fun v12 => J_store (p := .bool (value row b)) (Has.mem (.head _)) (by rfl) (by rfl) ?_
    generalize value row a = x
    generalize value row b = y
    rcases ho with ⟨rfl, rfl⟩ | ⟨rfl, rfl⟩ | ⟨rfl, rfl⟩ | ⟨rfl, rfl⟩ | ⟨rfl, rfl⟩
    · refine J_execs_cons <| J_if <| J_isTrueCmp <| J_Subscript <| J_name (p := .tup [.str "and", treePV a, treePV b]) (by rfl) fun u1 => J_int fun s1 => J_tailT (k := 0) (j := 0) (p := .str "and") (Has.mem (.head _)) Has.int (by rfl) (by rfl) fun u2 => J_str fun s2 => J_eqStrB true (Has.mem (.head _)) Has.str (by decide +kernel) <| J_truthyB ?_
      refine J_execs_cons <| J_return <| J_BoolOp <| J_boolOpAnd <| J_name (p := .bool x) (by rfl) fun w1 => J_known (w := .bool x) (Has.bv (Has.mem (.head _))) <| J_truthyB ?_
      cases x with
      | true => exact J_boolOp1 <| J_name (p := .bool y) (by rfl) fun w2 => Has.mem (.head _)
      | false => exact Has.mem (.head _)
    · refine J_execs_cons <| J_if <| J_isTrueCmp <| J_Subscript <| J_name (p := .tup [.str "or", treePV a, treePV b]) (by rfl) fun u1 => J_int fun s1 => J_tailT (k := 0) (j := 0) (p := .str "or") (Has.mem (.head _)) Has.int (by rfl) (by rfl) fun u2 => J_str fun s2 => J_eqStrB false (Has.mem (.head _)) Has.str (by decide +kernel) <| J_truthyB ?_
      refine J_execs_nil <| J_execs_cons <| J_if <| J_isTrueCmp <| J_Subscript <| J_name (p := .tup [.str "or", treePV a, treePV b]) (by rfl) fun u1 => J_int fun s1 => J_tailT (k := 0) (j := 0) (p := .str "or") (Has.mem (.head _)) Has.int (by rfl) (by rfl) fun u2 => J_str fun s2 => J_eqStrB true (Has.mem (.head _)) Has.str (by decide +kernel) <| J_truthyB ?_
      refine J_execs_cons <| J_return <| J_BoolOp <| J_boolOpOr <| J_name (p := .bool x) (by rfl) fun w1 => J_known (w := .bool x) (Has.bv (Has.mem (.head _))) <| J_truthyB ?_
      cases x with
      | true => exact Has.mem (.head _)
      | false => exact J_boolOp1 <| J_name (p := .bool y) (by rfl) fun w2 => Has.mem (.head _)
    · refine J_execs_cons <| J_if <| J_isTrueCmp <| J_Subscript <| J_name (p := .tup [.str "xor", treePV a, treePV b]) (by rfl) fun u1 => J_int fun s1 => J_tailT (k := 0) (j := 0) (p := .str "xor") (Has.mem (.head _)) Has.int (by rfl) (by rfl) fun u2 => J_str fun s2 => J_eqStrB false (Has.mem (.head _)) Has.str (by decide +kernel) <| J_truthyB ?_
      refine J_execs_nil <| J_execs_cons <| J_if <| J_isTrueCmp <| J_Subscript <| J_name (p := .tup [.str "xor", treePV a, treePV b]) (by rfl) fun u1 => J_int fun s1 => J_tailT (k := 0) (j := 0) (p := .str "xor") (Has.mem (.head _)) Has.int (by rfl) (by rfl) fun u2 => J_str fun s2 => J_eqStrB false (Has.mem (.head _)) Has.str (by decide +kernel) <| J_truthyB ?_
      refine J_execs_nil <| J_execs_cons <| J_if <| J_isTrueCmp <| J_Subscript <| J_name (p := .tup [.str "xor", treePV a, treePV b]) (by rfl) fun u1 => J_int fun s1 => J_tailT (k := 0) (j := 0) (p := .str "xor") (Has.mem (.head _)) Has.int (by rfl) (by rfl) fun u2 => J_str fun s2 => J_eqStrB true (Has.mem (.head _)) Has.str (by decide +kernel) <| J_truthyB ?_
      exact J_execs_cons <| J_return <| J_Compare <| J_name (p := .bool x) (by rfl) fun w1 => J_name (p := .bool y) (by rfl) fun w2 => J_known (t := fun z => compareOp _ z _) (w := .bool x) (Has.bv (Has.mem (.tail _ (.head _)))) <| J_known (t := fun z => compareOp _ _ z) (w := .bool y) (Has.bv (Has.mem (.head _))) <| J_neBool Has.bool
    · refine J_execs_cons <| J_if <| J_isTrueCmp <| J_Subscript <| J_name (p := .tup [.str "implies", treePV a, treePV b]) (by rfl) fun u1 => J_int fun s1 => J_tailT (k := 0) (j := 0) (p := .str "implies") (Has.mem (.head _)) Has.int (by rfl) (by rfl) fun u2 => J_str fun s2 => J_eqStrB false (Has.mem (.head _)) Has.str (by decide +kernel) <| J_truthyB ?_
      refine J_execs_nil <| J_execs_cons <| J_if <| J_isTrueCmp <| J_Subscript <| J_name (p := .tup [.str "implies", treePV a, treePV b]) (by rfl) fun u1 => J_int fun s1 => J_tailT (k := 0) (j := 0) (p := .str "implies") (Has.mem (.head _)) Has.int (by rfl) (by rfl) fun u2 => J_str fun s2 => J_eqStrB false (Has.mem (.head _)) Has.str (by decide +kernel) <| J_truthyB ?_
      refine J_execs_nil <| J_execs_cons <| J_if <| J_isTrueCmp <| J_Subscript <| J_name (p := .tup [.str "implies", treePV a, treePV b]) (by rfl) fun u1 => J_int fun s1 => J_tailT (k := 0) (j := 0) (p := .str "implies") (Has.mem (.head _)) Has.int (by rfl) (by rfl) fun u2 => J_str fun s2 => J_eqStrB false (Has.mem (.head _)) Has.str (by decide +kernel) <| J_truthyB ?_
      refine J_execs_nil <| J_execs_cons <| J_return <| J_ifexp <| J_isTrueCmp <| J_Subscript <| J_name (p := .tup [.str "implies", treePV a, treePV b]) (by rfl) fun u1 => J_int fun s1 => J_tailT (k := 0) (j := 0) (p := .str "implies") (Has.mem (.head _)) Has.int (by rfl) (by rfl) fun u2 => J_str fun s2 => J_eqStrB true (Has.mem (.head _)) Has.str (by decide +kernel) <| J_truthyB ?_
      refine J_BoolOp <| J_boolOpOr <| J_unaryNot <| J_name (p := .bool x) (by rfl) fun w1 => J_known (w := .bool x) (Has.bv (Has.mem (.head _))) <| J_truthyB <| J_truthyB ?_
      cases x with
      | true => exact J_boolOp1 <| J_name (p := .bool y) (by rfl) fun w2 => Has.mem (.head _)
      | false => exact Has.bool
    · refine J_execs_cons <| J_if <| J_isTrueCmp <| J_Subscript <| J_name (p := .tup [.str "same", treePV a, treePV b]) (by rfl) fun u1 => J_int fun s1 => J_tailT (k := 0) (j := 0) (p := .str "same") (Has.mem (.head _)) Has.int (by rfl) (by rfl) fun u2 => J_str fun s2 => J_eqStrB false (Has.mem (.head _)) Has.str (by decide +kernel) <| J_truthyB ?_
      refine J_execs_nil <| J_execs_cons <| J_if <| J_isTrueCmp <| J_Subscript <| J_name (p := .tup [.str "same", treePV a, treePV b]) (by rfl) fun u1 => J_int fun s1 => J_tailT (k := 0) (j := 0) (p := .str "same") (Has.mem (.head _)) Has.int (by rfl) (by rfl) fun u2 => J_str fun s2 => J_eqStrB false (Has.mem (.head _)) Has.str (by decide +kernel) <| J_truthyB ?_
      refine J_execs_nil <| J_execs_cons <| J_if <| J_isTrueCmp <| J_Subscript <| J_name (p := .tup [.str "same", treePV a, treePV b]) (by rfl) fun u1 => J_int fun s1 => J_tailT (k := 0) (j := 0) (p := .str "same") (Has.mem (.head _)) Has.int (by rfl) (by rfl) fun u2 => J_str fun s2 => J_eqStrB false (Has.mem (.head _)) Has.str (by decide +kernel) <| J_truthyB ?_
      refine J_execs_nil <| J_execs_cons <| J_return <| J_ifexp <| J_isTrueCmp <| J_Subscript <| J_name (p := .tup [.str "same", treePV a, treePV b]) (by rfl) fun u1 => J_int fun s1 => J_tailT (k := 0) (j := 0) (p := .str "same") (Has.mem (.head _)) Has.int (by rfl) (by rfl) fun u2 => J_str fun s2 => J_eqStrB false (Has.mem (.head _)) Has.str (by decide +kernel) <| J_truthyB ?_
      exact J_Compare <| J_name (p := .bool x) (by rfl) fun w1 => J_name (p := .bool y) (by rfl) fun w2 => J_eqE (x := .b x) (y := .b y) (by omega) (Has.mem (.tail _ (.head _))) (Has.mem (.head _)) Has.bool
end Mine
end

-- C33
section
open PySem PySem.W PyProof.Rows PySem.Calls
set_option maxRecDepth 100000
set_option maxHeartbeats 1000000
namespace Mine
theorem ct_symbol (c : Cx) (i : Fin 3) : CT c 8 (.ref symC) [.str (nm i)] [] (.fm (.sym i)) := by
  intro vs kvs A r F s hB hS hP hK Q hQ
  obtain ⟨v, rfl, t, rfl⟩ := hP.one
  obtain rfl := hK.nilEq
  obtain ⟨hp, g, d, tk, os⟩ := s
  have X : (KK c.w).In hp := hB.inK hS
  have e1 : (hp.push emptyDict).objs.size = hp.objs.size + 1 := Heap.size_push ..
  have hd0 : hp.get? hp.objs.size = none := none_size hp
  have hx0 : hp.get? (hp.objs.size + 1) = none := Heap.get?_none_of_le (Nat.le_succ _)
  have k1 : Kp hp ((hp.push emptyDict).push (instObj symC hp.objs.size)) := (Kp.push _ _).trans (Kp.push _ _)
  have gd : ((hp.push emptyDict).push (instObj symC hp.objs.size)).get? hp.objs.size = some emptyDict := Heap.get?_push_of_some _ (Heap.get?_push_size _ rfl)
  have gx : ((hp.push emptyDict).push (instObj symC hp.objs.size)).get? (hp.objs.size + 1) = some (instObj symC hp.objs.size) := by rw [← e1]; exact Heap.get?_push_size _ rfl
  have le1 : Le F (put F (hp.objs.size + 1) (instObj symC hp.objs.size)) := Le.put (hS.off hx0)
  have S1 : Sub (put F (hp.objs.size + 1) (instObj symC hp.objs.size)) ((hp.push emptyDict).push (instObj symC hp.objs.size)) := fun a o z => by
    unfold put at z; split at z
    · rename_i e; subst e; cases z; exact gx
    · exact k1 _ _ (hS _ _ z)
  have od1 : (put F (hp.objs.size + 1) (instObj symC hp.objs.size)) hp.objs.size = none := by
    rw [put_ne (Nat.succ_ne_self _).symm]; exact hS.off hd0
  have r2 : Room 6 (A.under (.builtin "type.__call__" ⟨.ref symC :: [.str (nm i) t], []⟩)) := by
    have w1 : (Code.builtin "type.__call__" ⟨.ref symC :: [.str (nm i) t], []⟩).weight = 1 := by rfl
    have w2 : (Code.builtin "type.__call__" ⟨.ref symC :: [.str (nm i) t], []⟩).cUnits = 1 := by rfl
    refine ⟨?_, ?_, r.2.2⟩
    · show A.depth + (Code.builtin "type.__call__" ⟨.ref symC :: [.str (nm i) t], []⟩).weight + 2 * 6 < 1000
      rw [w1]; have := r.1; omega
    · show A.units + (Code.builtin "type.__call__" ⟨.ref symC :: [.str (nm i) t], []⟩).cUnits + 30 * 6 < 9900
      rw [w2]; have := r.2.1; omega
  refine make_core (makes_of X (by kernel_rfl)) (looks_findIn X (show findIn (KK c.w) (.ref symC) "__init__" = some (some (.ref 107)) by kernel_rfl)) (fun self => bind_fn X self (by kernel_rfl)) (.inl rfl) ?_
  refine codeAny_mono (ct_symInit c (hp.objs.size + 1) hp.objs.size i [.ref (hp.objs.size + 1), .str (nm i) t] _ r2 (put F (hp.objs.size + 1) (instObj symC hp.objs.size)) ⟨(hp.push emptyDict).push (instObj symC hp.objs.size), g, d, tk, os⟩ (hB.mono le1) S1 (Reps.cons rfl (Reps.cons ⟨t, rfl⟩ Reps.nil))
    (fun z hz => by obtain rfl := List.mem_singleton.mp hz; exact ⟨_, rfl, put_self _ _ _⟩) (fun z hz => by obtain rfl := List.mem_singleton.mp hz; exact ⟨gd, od1⟩)
    (fun v' s' => v' = .none ∧ Q (.ref (hp.objs.size + 1)) s') fun v' F' h' tk' ms' ex le sb hnew hpin hpost => ?_) (fun r' s' z => ?_)
  · obtain ⟨rfl, h1, h2, t1, t2, t3, t4, k, rfl⟩ := hpost
    refine ⟨rfl, ?_⟩
    obtain ⟨p1, p2, _⟩ := hpin _ (.head _)
    have le2 : Le F' (put F' hp.objs.size (dictOf [⟨h1, .str "name" t1, .str (nm i) t3⟩, ⟨h2, .str "text" t2, .str (nm i) t4⟩] k)) := Le.put p2
    refine hQ _ (put F' hp.objs.size (dictOf [⟨h1, .str "name" t1, .str (nm i) t3⟩, ⟨h2, .str "text" t2, .str (nm i) t4⟩] k)) h' tk' (fun b o z => ?_) ⟨(le1.trans le).trans le2, fun a o z => ?_, fun a o z => ?_⟩ ⟨hp.objs.size + 1, h1, h2, t1, t2, t3, t4, rfl, hp.objs.size, k, le2 _ _ (le _ _ (put_self _ _ _)), put_self _ _ _⟩
    · exact ex b o (fun m => by
        have : b = hp.objs.size := by simpa [addrs] using m
        rw [this, hd0] at z; cases z) (k1 b o z)
    · unfold put at z; split at z
      · rename_i e; subst e; cases z; exact p1
      · exact sb a o z
    · unfold put at z; split at z
      · rename_i e; subst e; exact .inr hd0
      · rcases hnew a o z with y | y
        · unfold put at y; split at y
          · rename_i e; rw [e]; exact .inr hx0
          · exact .inl y
        · exact .inr (k1.none y)
  · rcases r' with e | (v' | _ | _ | _) <;> first | exact z | exact z.elim
end Mine
end

-- C34
section
open PySem PySem.W PyProof.Rows PySem.Calls
set_option maxRecDepth 100000
set_option maxHeartbeats 1000000
namespace Mine
theorem J_eqIntB {c : Cx} {n : Nat} {fr : Fc} {σ : AS} {v w : Value} {x y : Int} {Φ : Value → AS → Prop} (b : Bool) (hv : Has c σ v (.int x)) (hw : Has c σ w (.int y)) (hb : (x == y) = b) (k : Φ (.bool b) σ) : J c n fr σ (compareOp .Eq v w) Φ :=
  J_eqInt hv hw (hb ▸ k)
theorem fin3_val (n : Int) : (n.fdiv 9).fmod 3 = ((fin3 n).val : Int) := by
  unfold fin3
  have h1 : (n.fdiv 9).fmod 3 = (n.fdiv 9) % 3 := Int.fmod_eq_emod_of_nonneg _ (by decide)
  rw [h1]
  have h2 := Int.emod_nonneg (n.fdiv 9) (by decide : (3 : Int) ≠ 0)
  have h3 := Int.emod_lt_of_pos (n.fdiv 9) (by decide : (0 : Int) < 3)
  simp only [Fin.ofNat]
  omega
theorem fmod9 (n : Int) : n.fmod 9 = n % 9 := Int.fmod_eq_emod_of_nonneg _ (by decide)
theorem parse_nil : ∀ d : Nat, parse d [] = (.var 0, [])
  | 0 => rfl
  | _ + 1 => rfl
theorem parse_leaf {d : Nat} {n : Int} {rest : List Int} (h : n.fmod 9 < 3 ∨ d = 0) : parse d (n :: rest) = (.var (fin3 n), rest) := by
  cases d with
  | zero => rfl
  | succ d =>
    rcases h with h | h
    · show (if n.fmod 9 < 3 then _ else _) = _
      rw [if_pos h]
    · cases h
abbrev sub9 (d : Nat) (n : Int) : Nat := if n.fmod 9 < 6 then d else 0
theorem parse_one {d : Nat} {n : Int} {rest : List Int} (h : n.fmod 9 = 3) : parse (d + 1) (n :: rest) = (.not (parse (sub9 d n) rest).1, (parse (sub9 d n) rest).2) := by
  show (if n.fmod 9 < 3 then _ else _) = _
  rw [if_neg (by omega)]
  show (if n.fmod 9 = 3 then _ else _) = _
  rw [if_pos h]
  unfold sub9
  rw [if_pos (show n.fmod 9 < 6 by omega), if_pos (show n.fmod 9 < 6 by omega)]
theorem parse_two {d : Nat} {n : Int} {rest : List Int} (h : 3 < n.fmod 9) : parse (d + 1) (n :: rest) = (.bin (n.fmod 9).toNat (parse (sub9 d n) rest).1 (parse (sub9 d n) (parse (sub9 d n) rest).2).1, (parse (sub9 d n) (parse (sub9 d n) rest).2).2) := by
  show (if n.fmod 9 < 3 then _ else _) = _
  rw [if_neg (by omega)]
  show (if n.fmod 9 = 3 then _ else _) = _
  rw [if_neg (by omega)]
  unfold sub9
  by_cases h6 : n.fmod 9 < 6
  · simp only [if_pos h6]
  · simp only [if_neg h6]; rfl
theorem parse_len : ∀ (d : Nat) (ns : List Int), (parse d ns).2.length ≤ ns.length
  | 0, [] => Nat.le_refl _
  | 0, _ :: _ => Nat.le_succ _
  | d + 1, [] => Nat.le_refl _
  | d + 1, n :: rest => by
    by_cases h3 : n.fmod 9 < 3
    · rw [parse_leaf (.inl h3)]; exact Nat.le_succ _
    · have hs : ∀ ns, (parse (sub9 d n) ns).2.length ≤ ns.length := fun ns => by
        unfold sub9; split
        · exact parse_len d ns
        · exact parse_len 0 ns
      by_cases h4 : n.fmod 9 = 3
      · rw [parse_one h4]; exact Nat.le_trans (hs _) (Nat.le_succ _)
      · rw [parse_two (by omega)]; exact Nat.le_trans (hs _) (Nat.le_trans (hs _) (Nat.le_succ _))
theorem abc_at (i : Fin 3) : ∃ d, (seqIndex? (i.val : Int) (("abc" : Str)).length).bind ((("abc" : Str)).cps[·]?) = some d ∧ (⟨#[d]⟩ : Str) = nm i := by
  match i with
  | 0 => exact ⟨97, by decide +kernel, by decide +kernel⟩
  | 1 => exact ⟨98, by decide +kernel, by decide +kernel⟩
  | 2 => exact ⟨99, by decide +kernel, by decide +kernel⟩
def FormulaOk (c : Cx) (m d : Nat) : Prop := ∀ ns e, mk (parse d ns).1 = some e → ns.length ≤ 1000 → CT c m (.ref 628) [.lst (ns.map .int), .int (d : Int)] [] (.tup [e.pv, treePV (parse d ns).1, .lst ((parse d ns).2.map .int)])
theorem parse0_sym {ns : List Int} {x : Ex} (h : mk (parse 0 ns).1 = some x) : ∃ i, x = .f (.sym i) := by
  cases ns with
  | nil => cases h; exact ⟨_, rfl⟩
  | cons n r => cases h; exact ⟨_, rfl⟩
theorem sub9_cast (d : Nat) (n : Int) : (if n.fmod 9 < 6 then (((d + 1 : Nat) : Int) - 1) else 0) = ((sub9 d n : Nat) : Int) := by
  unfold sub9
  split <;> simp
structure FrJ (rest : List Int) (d : Nat) (n : Int) (x : Ex) (a : Tr) (σ : AS) : Prop where
  own : σ.own = none
  deep : σ.ρ.lookup ("deep" : Str) = some (.int (d : Int))
  kind : σ.ρ.lookup ("kind" : Str) = some (.int (n.fmod 9))
  rest : σ.ρ.lookup ("rest" : Str) = some (.lst (rest.map .int))
  one : σ.ρ.lookup ("one" : Str) = some x.pv
  tree : σ.ρ.lookup ("tree" : Str) = some (treePV a)
structure FrK (rest : List Int) (n : Int) (x y : Ex) (a b : Tr) (σ : AS) : Prop where
  own : σ.own = none
  kind : σ.ρ.lookup ("kind" : Str) = some (.int (n.fmod 9))
  rest : σ.ρ.lookup ("rest" : Str) = some (.lst (rest.map .int))
  one : σ.ρ.lookup ("one" : Str) = some x.pv
  tree : σ.ρ.lookup ("tree" : Str) = some (treePV a)
  other : σ.ρ.lookup ("other" : Str) = some y.pv
  fellow : σ.ρ.lookup ("fellow" : Str) = some (treePV b)
structure FrI (ns rest : List Int) (d : Nat) (n : Int) (σ : AS) : Prop where
  own : σ.own = none
  nums : σ.ρ.lookup ("numbers" : Str) = some (.lst (ns.map .int))
  deep : σ.ρ.lookup ("deep" : Str) = some (.int (d : Int))
  kind : σ.ρ.lookup ("kind" : Str) = some (.int (n.fmod 9))
  rest : σ.ρ.lookup ("rest" : Str) = some (.lst (rest.map .int))
theorem ct_formula1 (c : Cx) (d m : Nat) (hm : 32 ≤ m) (hs : ∀ d', d = d' + 1 → FormulaOk c m d' ∧ FormulaOk c m 0) : FormulaOk c (m + 1) d := by
  intro ns e hmk hl
  refine (CT_def (n := m) (f := 628) (by rfl) rfl rfl (by rfl) (bind2 (fun a b => by rfl)) (by decide) (kindsN (by rfl)) ?_)
  intro s₀ F₀ L
  refine J_execs_cons <| J_if <| J_isTrueCmp <| J_name (p := .lst (ns.map .int)) (by rfl) fun v1 => J_List <| J_spliced_nil <| J_newList (ps := []) .nil (Nat.zero_le _) fun v2 => J_eqL0 (Has.mem (.tail _ (.head _))) (Has.mem (.head _)) <| J_truthyB ?_
  cases ns with
  | nil =>
    rw [parse_nil] at hmk ⊢
    cases hmk
    exact J_execs_cons <| J_return <| J_Tuple <| J_spliced <| J_CallName <| J_G (v := .ref 124) (by kernel_rfl) (by rfl) <| J_callBase (by kernel_rfl) <| J_evalArgs <| J_spliced <| J_str fun t1 => J_spliced_nil <| J_ct (ct_symbol c 0) (by omega) (.cons Has.str .nil) fun v3 => J_spliced <| J_Tuple <| J_spliced <| J_str fun t2 => J_spliced <| J_int fun t3 => J_spliced_nil <| J_newTuple (ps := [.str "var", .int 0]) (.cons Has.str (.cons Has.int .nil)) (show 2 ≤ 16777216 by decide) fun v4 => J_spliced <| J_List <| J_spliced_nil <| J_newList (ps := []) .nil (Nat.zero_le _) fun v5 => J_spliced_nil <| J_newTuple (ps := [.fm (.sym 0), .tup [.str "var", .int 0], .lst []]) (.cons (Has.mem (by simp)) (.cons (Has.mem (by simp)) (.cons (Has.mem (.head _)) .nil))) (show 3 ≤ 16777216 by decide) fun v6 => Has.mem (.head _)
  | cons n rest =>
    have hz : ((n :: rest).map PV.int).length ≤ sizeLine := by rw [List.length_map, sizeLine_is]; omega
    refine J_execs_nil <| J_execs_cons <| J_mono (Φ := fun fl σ => fl = .next ∧ FrI (n :: rest) rest d n σ) ?_ fun fl σ z => ?_
    · refine J_AssignSwap <| J_Tuple <| J_spliced <| J_BinOp <| J_Subscript <| J_name (p := .lst ((n :: rest).map .int)) (by rfl) fun v3 => J_int fun t1 => J_tailL (k := 0) (p := .int n) (Has.mem (.head _)) Has.int (by rfl) fun v4 => J_int fun t2 => J_modInt (Has.mem (.head _)) Has.int (by decide) fun t3 => J_spliced <| J_Subscript <| J_name (p := .lst ((n :: rest).map .int)) (by rfl) fun v5 => J_Slice <| J_partSome <| J_int fun t4 => J_partNone fun v6 => J_fromL (st := none) (k := 1) (xs := (n :: rest).map .int) (Has.mem (.tail _ (.head _))) (Has.mem (.head _)) hz fun v7 => J_spliced_nil <| J_newTuple (ps := [.int (n.fmod 9), .lst (rest.map .int)]) (.cons Has.int (.cons (Has.mem (.head _)) .nil)) (show 2 ≤ 16777216 by decide) fun v8 => ⟨Has.mem (.head _), rfl, fun vs hvs => ?_⟩
      match vs, hvs with
      | [u1, u2], _ =>
        exact J_inOrder <| J_bindName <| J_store (p := .lst (rest.map .int)) (Has.mem (by simp)) (by rfl) (by rfl) <| J_inOrder <| J_bindName <| J_store (p := .int (n.fmod 9)) (Has.mem (by simp)) (by rfl) (by rfl) <| J_inOrder_nil ⟨rfl, by rfl, by rfl, by rfl, by rfl, by rfl⟩
    · obtain ⟨rfl, hI⟩ := z
      refine J_execs_cons <| J_if <| J_mono (Φ := fun b σ => b = decide (n.fmod 9 < 3 ∨ d = 0) ∧ FrI (n :: rest) rest d n σ) ?_ fun b σ z => ?_
      · obtain ⟨i1, i2, i3, i4, i5⟩ := hI
        refine J_isTrueAnd <| J_allOr <| J_isTrueCmp <| J_name i4 fun v1 => J_int fun t1 => J_ltInt (Has.mem (.head _)) Has.int <| J_truthyB ?_
        by_cases h3 : n.fmod 9 < 3
        · rw [decide_eq_true h3]
          exact ⟨(decide_eq_true (.inl h3)).symm, i1, i2, i3, i4, i5⟩
        · rw [decide_eq_false h3]
          refine J_allOr <| J_isTrueCmp <| J_name i3 fun v2 => J_int fun t2 => J_eqInt (Has.mem (.head _)) Has.int <| J_truthyB ?_
          by_cases h0 : d = 0
          · rw [show ((d : Int) == 0) = true from by simp [h0]]
            exact ⟨(decide_eq_true (.inr h0)).symm, i1, i2, i3, i4, i5⟩
          · rw [show ((d : Int) == 0) = false from by simp [h0]]
            exact J_allOr_nil ⟨(decide_eq_false (by rintro (h | h); exact h3 h; exact h0 h)).symm, i1, i2, i3, i4, i5⟩
      · obtain ⟨rfl, hI⟩ := z
        by_cases hleaf : n.fmod 9 < 3 ∨ d = 0
        · rw [decide_eq_true hleaf]
          rw [parse_leaf hleaf] at hmk ⊢
          cases hmk
          obtain ⟨cp, hcp, hnm⟩ := abc_at (fin3 n)
          have he := fin3_val n
          refine J_execs_cons <| J_return <| J_Tuple <| J_spliced <| J_CallName <| J_G (v := .ref 124) (by kernel_rfl) (by rfl) <| J_callBase (by kernel_rfl) <| J_evalArgs <| J_spliced <| J_Subscript <| J_str fun t0 => J_BinOp <| J_BinOp <| J_Subscript <| J_name hI.nums fun a0 => J_int fun a1 => J_tailL (k := 0) (p := .int n) (Has.mem (.head _)) Has.int (by rfl) fun a2 => J_int fun a3 => J_divInt (Has.mem (.head _)) Has.int (by decide) (by rfl) fun a4 => J_int fun a5 => J_modInt Has.int Has.int (by decide) fun a6 => J_tailS (x := "abc") (k := ((fin3 n).val : Int)) (d := cp) Has.str (by rw [he]; exact Has.int) hcp (hb := by have := (fin3 n).isLt; omega) fun t7 => J_spliced_nil <| J_ct (ct_symbol c (fin3 n)) (by omega) (.cons (by rw [hnm]; exact Has.str) .nil) fun v1 => J_spliced <| J_Tuple <| J_spliced <| J_str fun t8 => J_spliced <| J_BinOp <| J_BinOp <| J_Subscript <| J_name hI.nums fun b0 => J_int fun b1 => J_tailL (k := 0) (p := .int n) (Has.mem (.head _)) Has.int (by rfl) fun b2 => J_int fun b3 => J_divInt (Has.mem (.head _)) Has.int (by decide) (by rfl) fun b4 => J_int fun b5 => J_modInt Has.int Has.int (by decide) fun b6 => J_spliced_nil <| J_newTuple (ps := [.str "var", .int ((fin3 n).val : Int)]) (.cons Has.str (.cons (by rw [he]; exact Has.int) .nil)) (show 2 ≤ 16777216 by decide) fun v2 => J_spliced <| J_name hI.rest fun v3 => J_spliced_nil <| J_newTuple (ps := [.fm (.sym (fin3 n)), .tup [.str "var", .int ((fin3 n).val : Int)], .lst (rest.map .int)]) (.cons (Has.mem (by simp)) (.cons (Has.mem (by simp)) (.cons (Has.mem (.head _)) .nil))) (show 3 ≤ 16777216 by decide) fun v4 => Has.mem (.head _)
        · rw [decide_eq_false hleaf]
          obtain ⟨d', rfl⟩ : ∃ d', d = d' + 1 := ⟨d - 1, by omega⟩
          have h3 : ¬ n.fmod 9 < 3 := fun h => hleaf (.inl h)
          obtain ⟨ok1, ok0⟩ := hs d' rfl
          have hsub : FormulaOk c m (sub9 d' n) := by
            unfold sub9; split
            · exact ok1
            · exact ok0
          have hrl : rest.length ≤ 1000 := by simp at hl; omega
          have hx : ∃ x, mk (parse (sub9 d' n) rest).1 = some x := by
            by_cases h4 : n.fmod 9 = 3
            · rw [parse_one h4] at hmk
              obtain ⟨x, hx, _⟩ := Option.bind_eq_some_iff.mp hmk
              exact ⟨x, hx⟩
            · rw [parse_two (by omega)] at hmk
              obtain ⟨x, hx, _⟩ := Option.bind_eq_some_iff.mp hmk
              exact ⟨x, hx⟩
          obtain ⟨x, hx⟩ := hx
          refine J_execs_nil <| J_execs_cons <| J_mono (Φ := fun fl σ => fl = .next ∧ FrJ (parse (sub9 d' n) rest).2 (d' + 1) n x (parse (sub9 d' n) rest).1 σ) ?_ fun fl σ z => ?_
          · refine J_AssignTuple <| J_CallName <| J_G (v := .ref 628) (by kernel_rfl) (by rfl) <| J_callBase (by kernel_rfl) <| J_evalArgs <| J_spliced <| J_name hI.rest fun v1 => J_spliced <| J_mono (Φ := fun w σ' => Has c σ' w (.int ((sub9 d' n : Nat) : Int)) ∧ Has c σ' v1 (.lst (rest.map .int)) ∧ FrI (n :: rest) rest (d' + 1) n σ') ?ife1 fun w σ' z => ?_
            case ife1 =>
              obtain ⟨i1, i2, i3, i4, i5⟩ := hI
              refine J_ifexp <| J_isTrueCmp <| J_name i4 fun v2 => J_int fun t1 => J_ltInt (Has.mem (.head _)) Has.int <| J_truthyB ?_
              have hc := sub9_cast d' n
              by_cases h6 : n.fmod 9 < 6
              · rw [decide_eq_true h6]
                rw [if_pos h6] at hc
                exact J_BinOp <| J_name i3 fun v3 => J_int fun t2 => J_subInt (Has.mem (.head _)) Has.int fun t3 => ⟨by rw [hc]; exact Has.int, Has.mem (by simp), ⟨i1, i2, i3, i4, i5⟩⟩
              · rw [decide_eq_false h6]
                rw [if_neg h6] at hc
                exact J_int fun t2 => ⟨by rw [← hc]; exact Has.int, Has.mem (by simp), ⟨i1, i2, i3, i4, i5⟩⟩
            obtain ⟨z1, z2, hI⟩ := z
            refine J_spliced_nil <| J_ct (hsub rest x hx hrl) (by omega) (.cons z2 (.cons z1 .nil)) fun v2 => J_unpack (xs := [x.pv, treePV (parse (sub9 d' n) rest).1, .lst ((parse (sub9 d' n) rest).2.map .int)]) (Has.mem (.head _)) (by rfl) (by rfl) fun vs hvs => ?_
            match vs, hvs with
            | [u1, u2, u3], _ =>
              exact J_inOrder <| J_assignName <| J_store (p := x.pv) (Has.mem (by simp)) (by rfl) (by rw [hI.own]; rfl) <| J_inOrder <| J_assignName <| J_store (p := treePV (parse (sub9 d' n) rest).1) (Has.mem (by simp)) (by rfl) (by rw [hI.own]; rfl) <| J_inOrder <| J_assignName <| J_store (p := .lst ((parse (sub9 d' n) rest).2.map .int)) (Has.mem (by simp)) (by rfl) (by rw [hI.own]; rfl) <| J_inOrder_nil ⟨rfl, hI.own, hI.deep, hI.kind, by rfl, by rfl, by rfl⟩
          · obtain ⟨rfl, hI⟩ := z
            by_cases h4 : n.fmod 9 = 3
            · rw [parse_one h4] at hmk ⊢
              obtain ⟨x', hx', hne⟩ := Option.bind_eq_some_iff.mp hmk
              rw [hx] at hx'; cases hx'
              refine J_execs_cons <| J_if <| J_isTrueCmp <| J_name hI.kind fun w1 => J_int fun t1 => J_eqIntB true (Has.mem (.head _)) Has.int (by rw [h4]; decide) <| J_truthyB ?_
              exact J_execs_cons <| J_return <| J_Tuple <| J_spliced <| J_CallName <| J_G (v := .ref 385) (by kernel_rfl) (by rfl) <| J_callBase (by kernel_rfl) <| J_evalArgs <| J_spliced <| J_name hI.one fun a1 => J_spliced_nil <| J_ct (ct_Not c hne) (by omega) (.cons (Has.mem (.head _)) .nil) fun a3 => J_spliced <| J_Tuple <| J_spliced <| J_str fun t => J_spliced <| J_name hI.tree fun a4 => J_spliced_nil <| J_newTuple (ps := [.str "not", treePV (parse (sub9 d' n) rest).1]) (.cons Has.str (.cons (Has.mem (.head _)) .nil)) (show 2 ≤ 16777216 by decide) fun a6 => J_spliced <| J_name hI.rest fun a7 => J_spliced_nil <| J_newTuple (ps := [e.pv, .tup [.str "not", treePV (parse (sub9 d' n) rest).1], .lst ((parse (sub9 d' n) rest).2.map .int)]) (.cons (Has.mem (by simp)) (.cons (Has.mem (by simp)) (.cons (Has.mem (.head _)) .nil))) (show 3 ≤ 16777216 by decide) fun a8 => Has.mem (.head _)
            · have h5 : 3 < n.fmod 9 := by omega
              have h9 : n.fmod 9 < 9 := by rw [fmod9]; omega
              rw [parse_two h5] at hmk ⊢
              obtain ⟨x', hx', hmk⟩ := Option.bind_eq_some_iff.mp hmk
              rw [hx] at hx'; cases hx'
              obtain ⟨y, hy, hmk⟩ := Option.bind_eq_some_iff.mp hmk
              have hrl2 : (parse (sub9 d' n) rest).2.length ≤ 1000 := Nat.le_trans (parse_len _ _) hrl
              refine J_execs_cons <| J_if <| J_isTrueCmp <| J_name hI.kind fun w1 => J_int fun t1 => J_eqIntB false (Has.mem (.head _)) Has.int (by simpa using h4) <| J_truthyB ?_
              refine J_execs_nil <| J_execs_cons <| J_mono (Φ := fun fl σ => fl = .next ∧ FrK (parse (sub9 d' n) (parse (sub9 d' n) rest).2).2 n x y (parse (sub9 d' n) rest).1 (parse (sub9 d' n) (parse (sub9 d' n) rest).2).1 σ) ?_ fun fl σ z => ?_
              · refine J_AssignTuple <| J_CallName <| J_G (v := .ref 628) (by kernel_rfl) (by rfl) <| J_callBase (by kernel_rfl) <| J_evalArgs <| J_spliced <| J_name hI.rest fun v1 => J_spliced <| J_mono (Φ := fun w σ' => Has c σ' w (.int ((sub9 d' n : Nat) : Int)) ∧ Has c σ' v1 (.lst ((parse (sub9 d' n) rest).2.map .int)) ∧ FrJ (parse (sub9 d' n) rest).2 (d' + 1) n x (parse (sub9 d' n) rest).1 σ') ?ife2 fun w σ' z => ?_
                case ife2 =>
                  obtain ⟨i1, i2, i3, i4, i5, i6⟩ := hI
                  refine J_ifexp <| J_isTrueCmp <| J_name i3 fun v2 => J_int fun t1 => J_ltInt (Has.mem (.head _)) Has.int <| J_truthyB ?_
                  have hc := sub9_cast d' n
                  by_cases h6 : n.fmod 9 < 6
                  · rw [decide_eq_true h6]
                    rw [if_pos h6] at hc
                    exact J_BinOp <| J_name i2 fun v3 => J_int fun t2 => J_subInt (Has.mem (.head _)) Has.int fun t3 => ⟨by rw [hc]; exact Has.int, Has.mem (by simp), ⟨i1, i2, i3, i4, i5, i6⟩⟩
                  · rw [decide_eq_false h6]
                    rw [if_neg h6] at hc
                    exact J_int fun t2 => ⟨by rw [← hc]; exact Has.int, Has.mem (by simp), ⟨i1, i2, i3, i4, i5, i6⟩⟩
                obtain ⟨z1, z2, hI⟩ := z
                refine J_spliced_nil <| J_ct (hsub _ y hy hrl2) (by omega) (.cons z2 (.cons z1 .nil)) fun v2 => J_unpack (xs := [y.pv, treePV (parse (sub9 d' n) (parse (sub9 d' n) rest).2).1, .lst ((parse (sub9 d' n) (parse (sub9 d' n) rest).2).2.map .int)]) (Has.mem (.head _)) (by rfl) (by rfl) fun vs hvs => ?_
                match vs, hvs with
                | [u1, u2, u3], _ =>
                  exact J_inOrder <| J_assignName <| J_store (p := y.pv) (Has.mem (by simp)) (by rfl) (by rw [hI.own]; rfl) <| J_inOrder <| J_assignName <| J_store (p := treePV (parse (sub9 d' n) (parse (sub9 d' n) rest).2).1) (Has.mem (by simp)) (by rfl) (by rw [hI.own]; rfl) <| J_inOrder <| J_assignName <| J_store (p := .lst ((parse (sub9 d' n) (parse (sub9 d' n) rest).2).2.map .int)) (Has.mem (by simp)) (by rfl) (by rw [hI.own]; rfl) <| J_inOrder_nil ⟨rfl, hI.own, hI.kind, by rfl, hI.one, hI.tree, by rfl, by rfl⟩
              · obtain ⟨rfl, hK⟩ := z
                have hk : n.fmod 9 = 4 ∨ n.fmod 9 = 5 ∨ n.fmod 9 = 6 ∨ n.fmod 9 = 7 ∨ n.fmod 9 = 8 := by omega
                rcases hk with hk | hk | hk | hk | hk
                · rw [hk] at hmk ⊢
                  refine J_execs_cons <| J_if <| J_isTrueCmp <| J_name hK.kind fun w1 => J_int fun t1 => J_eqIntB true (Has.mem (.head _)) Has.int (by rw [hk]; decide) <| J_truthyB ?_
                  exact J_execs_cons <| J_return <| J_Tuple <| J_spliced <| J_CallName <| J_G (v := .ref (kC .and)) (by kernel_rfl) (by rfl) <| J_callBase (by kernel_rfl) <| J_evalArgs <| J_spliced <| J_name hK.one fun a1 => J_spliced <| J_name hK.other fun a2 => J_spliced_nil <| J_ct (ct_lat c (.inl rfl) [x, y] e hmk (by decide : 2 ≤ 1000)) (by omega) (.cons (Has.mem (.tail _ (.head _))) (.cons (Has.mem (.head _)) .nil)) fun a3 => J_spliced <| J_Tuple <| J_spliced <| J_str fun t => J_spliced <| J_name hK.tree fun a4 => J_spliced <| J_name hK.fellow fun a5 => J_spliced_nil <| J_newTuple (ps := [.str "and", treePV (parse (sub9 d' n) rest).1, treePV (parse (sub9 d' n) (parse (sub9 d' n) rest).2).1]) (.cons Has.str (.cons (Has.mem (by simp)) (.cons (Has.mem (.head _)) .nil))) (show 3 ≤ 16777216 by decide) fun a6 => J_spliced <| J_name hK.rest fun a7 => J_spliced_nil <| J_newTuple (ps := [e.pv, .tup [.str "and", treePV (parse (sub9 d' n) rest).1, treePV (parse (sub9 d' n) (parse (sub9 d' n) rest).2).1], .lst ((parse (sub9 d' n) (parse (sub9 d' n) rest).2).2.map .int)]) (.cons (Has.mem (by simp)) (.cons (Has.mem (by simp)) (.cons (Has.mem (.head _)) .nil))) (show 3 ≤ 16777216 by decide) fun a8 => Has.mem (.head _)
                · rw [hk] at hmk ⊢
                  refine J_execs_cons <| J_if <| J_isTrueCmp <| J_name hK.kind fun w1 => J_int fun t1 => J_eqIntB false (Has.mem (.head _)) Has.int (by rw [hk]; decide) <| J_truthyB ?_
                  refine J_execs_nil <| J_execs_cons <| J_if <| J_isTrueCmp <| J_name hK.kind fun w1 => J_int fun t1 => J_eqIntB true (Has.mem (.head _)) Has.int (by rw [hk]; decide) <| J_truthyB ?_
                  exact J_execs_cons <| J_return <| J_Tuple <| J_spliced <| J_CallName <| J_G (v := .ref (kC .or)) (by kernel_rfl) (by rfl) <| J_callBase (by kernel_rfl) <| J_evalArgs <| J_spliced <| J_name hK.one fun a1 => J_spliced <| J_name hK.other fun a2 => J_spliced_nil <| J_ct (ct_lat c (.inr rfl) [x, y] e hmk (by decide : 2 ≤ 1000)) (by omega) (.cons (Has.mem (.tail _ (.head _))) (.cons (Has.mem (.head _)) .nil)) fun a3 => J_spliced <| J_Tuple <| J_spliced <| J_str fun t => J_spliced <| J_name hK.tree fun a4 => J_spliced <| J_name hK.fellow fun a5 => J_spliced_nil <| J_newTuple (ps := [.str "or", treePV (parse (sub9 d' n) rest).1, treePV (parse (sub9 d' n) (parse (sub9 d' n) rest).2).1]) (.cons Has.str (.cons (Has.mem (by simp)) (.cons (Has.mem (.head _)) .nil))) (show 3 ≤ 16777216 by decide) fun a6 => J_spliced <| J_name hK.rest fun a7 => J_spliced_nil <| J_newTuple (ps := [e.pv, .tup [.str "or", treePV (parse (sub9 d' n) rest).1, treePV (parse (sub9 d' n) (parse (sub9 d' n) rest).2).1], .lst ((parse (sub9 d' n) (parse (sub9 d' n) rest).2).2.map .int)]) (.cons (Has.mem (by simp)) (.cons (Has.mem (by simp)) (.cons (Has.mem (.head _)) .nil))) (show 3 ≤ 16777216 by decide) fun a8 => Has.mem (.head _)
                · rw [hk] at hmk ⊢
                  have hs0 : sub9 d' n = 0 := if_neg (by omega)
                  obtain ⟨i, rfl⟩ := parse0_sym (hs0 ▸ hx)
                  obtain ⟨j, rfl⟩ := parse0_sym (ns := (parse (sub9 d' n) rest).2) (by rw [← hy, hs0])
                  refine J_execs_cons <| J_if <| J_isTrueCmp <| J_name hK.kind fun w1 => J_int fun t1 => J_eqIntB false (Has.mem (.head _)) Has.int (by rw [hk]; decide) <| J_truthyB ?_
                  refine J_execs_nil <| J_execs_cons <| J_if <| J_isTrueCmp <| J_name hK.kind fun w1 => J_int fun t1 => J_eqIntB false (Has.mem (.head _)) Has.int (by rw [hk]; decide) <| J_truthyB ?_
                  refine J_execs_nil <| J_execs_cons <| J_if <| J_isTrueCmp <| J_name hK.kind fun w1 => J_int fun t1 => J_eqIntB true (Has.mem (.head _)) Has.int (by rw [hk]; decide) <| J_truthyB ?_
                  exact J_execs_cons <| J_return <| J_Tuple <| J_spliced <| J_CallName <| J_G (v := .ref 409) (by kernel_rfl) (by rfl) <| J_callBase (by kernel_rfl) <| J_evalArgs <| J_spliced <| J_name hK.one fun a1 => J_spliced <| J_name hK.other fun a2 => J_spliced_nil <| J_ct (ct_Xor c i j e hmk) (by omega) (.cons (Has.mem (.tail _ (.head _))) (.cons (Has.mem (.head _)) .nil)) fun a3 => J_spliced <| J_Tuple <| J_spliced <| J_str fun t => J_spliced <| J_name hK.tree fun a4 => J_spliced <| J_name hK.fellow fun a5 => J_spliced_nil <| J_newTuple (ps := [.str "xor", treePV (parse (sub9 d' n) rest).1, treePV (parse (sub9 d' n) (parse (sub9 d' n) rest).2).1]) (.cons Has.str (.cons (Has.mem (by simp)) (.cons (Has.mem (.head _)) .nil))) (show 3 ≤ 16777216 by decide) fun a6 => J_spliced <| J_name hK.rest fun a7 => J_spliced_nil <| J_newTuple (ps := [e.pv, .tup [.str "xor", treePV (parse (sub9 d' n) rest).1, treePV (parse (sub9 d' n) (parse (sub9 d' n) rest).2).1], .lst ((parse (sub9 d' n) (parse (sub9 d' n) rest).2).2.map .int)]) (.cons (Has.mem (by simp)) (.cons (Has.mem (by simp)) (.cons (Has.mem (.head _)) .nil))) (show 3 ≤ 16777216 by decide) fun a8 => Has.mem (.head _)
                · rw [hk] at hmk ⊢
                  have hs0 : sub9 d' n = 0 := if_neg (by omega)
                  obtain ⟨i, rfl⟩ := parse0_sym (hs0 ▸ hx)
                  obtain ⟨j, rfl⟩ := parse0_sym (ns := (parse (sub9 d' n) rest).2) (by rw [← hy, hs0])
                  refine J_execs_cons <| J_if <| J_isTrueCmp <| J_name hK.kind fun w1 => J_int fun t1 => J_eqIntB false (Has.mem (.head _)) Has.int (by rw [hk]; decide) <| J_truthyB ?_
                  refine J_execs_nil <| J_execs_cons <| J_if <| J_isTrueCmp <| J_name hK.kind fun w1 => J_int fun t1 => J_eqIntB false (Has.mem (.head _)) Has.int (by rw [hk]; decide) <| J_truthyB ?_
                  refine J_execs_nil <| J_execs_cons <| J_if <| J_isTrueCmp <| J_name hK.kind fun w1 => J_int fun t1 => J_eqIntB false (Has.mem (.head _)) Has.int (by rw [hk]; decide) <| J_truthyB ?_
                  refine J_execs_nil <| J_execs_cons <| J_if <| J_isTrueCmp <| J_name hK.kind fun w1 => J_int fun t1 => J_eqIntB true (Has.mem (.head _)) Has.int (by rw [hk]; decide) <| J_truthyB ?_
                  exact J_execs_cons <| J_return <| J_Tuple <| J_spliced <| J_CallName <| J_G (v := .ref 448) (by kernel_rfl) (by rfl) <| J_callBase (by kernel_rfl) <| J_evalArgs <| J_spliced <| J_name hK.one fun a1 => J_spliced <| J_name hK.other fun a2 => J_spliced_nil <| J_ct (ct_Imp c hmk) (by omega) (.cons (Has.mem (.tail _ (.head _))) (.cons (Has.mem (.head _)) .nil)) fun a3 => J_spliced <| J_Tuple <| J_spliced <| J_str fun t => J_spliced <| J_name hK.tree fun a4 => J_spliced <| J_name hK.fellow fun a5 => J_spliced_nil <| J_newTuple (ps := [.str "implies", treePV (parse (sub9 d' n) rest).1, treePV (parse (sub9 d' n) (parse (sub9 d' n) rest).2).1]) (.cons Has.str (.cons (Has.mem (by simp)) (.cons (Has.mem (.head _)) .nil))) (show 3 ≤ 16777216 by decide) fun a6 => J_spliced <| J_name hK.rest fun a7 => J_spliced_nil <| J_newTuple (ps := [e.pv, .tup [.str "implies", treePV (parse (sub9 d' n) rest).1, treePV (parse (sub9 d' n) (parse (sub9 d' n) rest).2).1], .lst ((parse (sub9 d' n) (parse (sub9 d' n) rest).2).2.map .int)]) (.cons (Has.mem (by simp)) (.cons (Has.mem (by simp)) (.cons (Has.mem (.head _)) .nil))) (show 3 ≤ 16777216 by decide) fun a8 => Has.mem (.head _)
                · rw [hk] at hmk ⊢
                  have hs0 : sub9 d' n = 0 := if_neg (by omega)
                  obtain ⟨i, rfl⟩ := parse0_sym (hs0 ▸ hx)
                  obtain ⟨j, rfl⟩ := parse0_sym (ns := (parse (sub9 d' n) rest).2) (by rw [← hy, hs0])
                  refine J_execs_cons <| J_if <| J_isTrueCmp <| J_name hK.kind fun w1 => J_int fun t1 => J_eqIntB false (Has.mem (.head _)) Has.int (by rw [hk]; decide) <| J_truthyB ?_
                  refine J_execs_nil <| J_execs_cons <| J_if <| J_isTrueCmp <| J_name hK.kind fun w1 => J_int fun t1 => J_eqIntB false (Has.mem (.head _)) Has.int (by rw [hk]; decide) <| J_truthyB ?_
                  refine J_execs_nil <| J_execs_cons <| J_if <| J_isTrueCmp <| J_name hK.kind fun w1 => J_int fun t1 => J_eqIntB false (Has.mem (.head _)) Has.int (by rw [hk]; decide) <| J_truthyB ?_
                  refine J_execs_nil <| J_execs_cons <| J_if <| J_isTrueCmp <| J_name hK.kind fun w1 => J_int fun t1 => J_eqIntB false (Has.mem (.head _)) Has.int (by rw [hk]; decide) <| J_truthyB ?_
                  exact J_execs_nil <| J_execs_cons <| J_return <| J_Tuple <| J_spliced <| J_CallName <| J_G (v := .ref 481) (by kernel_rfl) (by rfl) <| J_callBase (by kernel_rfl) <| J_evalArgs <| J_spliced <| J_name hK.one fun a1 => J_spliced <| J_name hK.other fun a2 => J_spliced_nil <| J_ct (ct_Eqv c i j e hmk) (by omega) (.cons (Has.mem (.tail _ (.head _))) (.cons (Has.mem (.head _)) .nil)) fun a3 => J_spliced <| J_Tuple <| J_spliced <| J_str fun t => J_spliced <| J_name hK.tree fun a4 => J_spliced <| J_name hK.fellow fun a5 => J_spliced_nil <| J_newTuple (ps := [.str "same", treePV (parse (sub9 d' n) rest).1, treePV (parse (sub9 d' n) (parse (sub9 d' n) rest).2).1]) (.cons Has.str (.cons (Has.mem (by simp)) (.cons (Has.mem (.head _)) .nil))) (show 3 ≤ 16777216 by decide) fun a6 => J_spliced <| J_name hK.rest fun a7 => J_spliced_nil <| J_newTuple (ps := [e.pv, .tup [.str "same", treePV (parse (sub9 d' n) rest).1, treePV (parse (sub9 d' n) (parse (sub9 d' n) rest).2).1], .lst ((parse (sub9 d' n) (parse (sub9 d' n) rest).2).2.map .int)]) (.cons (Has.mem (by simp)) (.cons (Has.mem (by simp)) (.cons (Has.mem (.head _)) .nil))) (show 3 ≤ 16777216 by decide) fun a8 => Has.mem (.head _)
theorem FormulaOk.mono {c : Cx} {m m' d : Nat} (h : FormulaOk c m d) (hm : m ≤ m') : FormulaOk c m' d := fun ns e h1 h2 => (h ns e h1 h2).mono hm
theorem ct_formula (c : Cx) : FormulaOk c 35 2 := by
  have f0 := ct_formula1 c 0 32 (by decide) (fun d' h => by cases h)
  have f1 := ct_formula1 c 1 33 (by decide) (fun d' h => by cases h; exact ⟨f0, f0⟩)
  exact ct_formula1 c 2 34 (by decide) (fun d' h => by cases h; exact ⟨f1, f0.mono (by decide)⟩)
end Mine
end

-- C35
section
open PySem PySem.W PyProof.Rows PySem.Calls
set_option maxRecDepth 100000
set_option maxHeartbeats 1000000
namespace Mine
theorem isi_sym (w : World) (f : Fm) : kitOne (KK w) (tyOf (.f f)) (.ref 124) = some (isSym f) := by
  cases f with
  | sym i => kernel_rfl
  | node k as => cases k <;> kernel_rfl
theorem tolds_map (row : Fin 3 → Bool) : ∀ as : List Fm, tolds row as = as.map (told row)
  | [] => rfl
  | a :: as => by unfold tolds; rw [tolds_map row as]; rfl
theorem cnt_count : ∀ l : List Bool, cnt l = l.count true
  | [] => rfl
  | b :: l => by
    unfold cnt
    rw [cnt_count l, List.count_cons]
    cases b <;> simp <;> omega
theorem inE_true : ∀ l : List Bool, inE (.b true) (l.map .b) = l.any id
  | [] => rfl
  | b :: l => by
    have := inE_true l
    unfold inE at this ⊢
    rw [List.map_cons, List.any_cons, this, List.any_cons]
    cases b <;> rfl
theorem inE_false : ∀ l : List Bool, (!inE (.b false) (l.map .b)) = l.all id
  | [] => rfl
  | b :: l => by
    have := inE_false l
    unfold inE at this ⊢
    rw [List.map_cons, List.any_cons, List.all_cons, Bool.not_or, this]
    cases b <;> rfl
theorem bools_pv (l : List Bool) : (l.map Ex.b).map Ex.pv = l.map PV.bool := by rw [List.map_map]; rfl
def gTold (row : Fin 3 → Bool) : PV → Option PV
  | .fm f => some (.bool (told row f))
  | _ => none
theorem gTold_all (row : Fin 3 → Bool) : ∀ as : List Fm, (as.map PV.fm).filterMap (gTold row) = (as.map (told row)).map .bool
  | [] => rfl
  | a :: as => by simp only [List.map_cons, List.filterMap_cons, gTold]; rw [gTold_all row as]
theorem ct_toldB (c : Cx) (row : Fin 3 → Bool) (b : Bool) : CT c 10 (.ref 640) [.bool b, rowPV row] [] (.bool b) := by
  refine CT_def (n := 9) (f := 640) (by rfl) rfl rfl (by rfl) (bind2 (fun a b => by rfl)) (by decide) (kindsN (by rfl)) ?_
  intro s₀ F₀ L
  refine J_execs_cons <| J_if <| J_isTrue <| J_CallName <| J_Bt (v := .builtin "isinstance") (by kernel_rfl) (by rfl) (by decide) (by rfl) <| J_callImm <| J_evalArgs <| J_spliced <| J_name (p := (Ex.b b).pv) (by rfl) fun v1 => J_spliced <| J_Bt (v := .type "bool") (by kernel_rfl) (by rfl) (by decide) (by rfl) <| J_spliced_nil <| J_isiE (e := .b b) (Has.mem (.head _)) (isi_boolT c.w (.b b)) <| J_truthyB ?_
  exact J_execs_cons <| J_return <| J_name (p := .bool b) (by rfl) fun v2 => Has.mem (.head _)
theorem ct_told (c : Cx) (row : Fin 3 → Bool) : ∀ (n : Nat) (f : Fm), wfD n f = true → CT c (12 + n) (.ref 640) [.fm f, rowPV row] [] (.bool (told row f))
  | 0, f, h => by cases h
  | n + 1, .sym i, _ => by
    refine CT_def (n := 12 + n) (f := 640) (by rfl) rfl rfl (by rfl) (bind2 (fun a b => by rfl)) (by decide) (kindsN (by rfl)) ?_
    intro s₀ F₀ L
    refine J_execs_cons <| J_if <| J_isTrue <| J_CallName <| J_Bt (v := .builtin "isinstance") (by kernel_rfl) (by rfl) (by decide) (by rfl) <| J_callImm <| J_evalArgs <| J_spliced <| J_name (p := (Ex.f (.sym i)).pv) (by rfl) fun v1 => J_spliced <| J_Bt (v := .type "bool") (by kernel_rfl) (by rfl) (by decide) (by rfl) <| J_spliced_nil <| J_isiE (e := .f (.sym i)) (Has.mem (.head _)) (isi_boolT c.w (.f (.sym i))) <| J_truthyB ?_
    refine J_execs_nil <| J_execs_cons <| J_if <| J_isTrue <| J_CallName <| J_Bt (v := .builtin "isinstance") (by kernel_rfl) (by rfl) (by decide) (by rfl) <| J_callImm <| J_evalArgs <| J_spliced <| J_name (p := (Ex.f (.sym i)).pv) (by rfl) fun v2 => J_spliced <| J_G (v := .ref 124) (by kernel_rfl) (by rfl) <| J_spliced_nil <| J_isiE (e := .f (.sym i)) (Has.mem (.head _)) (isi_sym c.w (.sym i)) <| J_truthyB ?_
    have ho : ∃ rest, Builtin.Str.occurrences "abc" (nm i) 0 (("abc" : Str)).length 1 = i.val :: rest := by
      match i with
      | 0 => exact ⟨[], by decide +kernel⟩
      | 1 => exact ⟨[], by decide +kernel⟩
      | 2 => exact ⟨[], by decide +kernel⟩
    obtain ⟨rest, ho⟩ := ho
    refine J_execs_cons <| J_return <| J_Subscript <| J_name (p := rowPV row) (by rfl) fun v3 => J_CallAttr <| J_str fun t1 => J_calleeFew fun pl => J_methStr (x := "abc") Has.str PySem.F.slot_str_index PySem.F.type_str_index <| J_callImm <| J_evalArgs <| J_spliced <| J_Attribute <| J_name (p := .fm (.sym i)) (by rfl) fun v4 => J_nameAttr (Has.mem (.head _)) fun v5 => J_spliced_nil <| J_strIndex (x := "abc") (y := nm i) Has.str (Has.mem (.head _)) ho fun t2 => J_tailL (k := (i.val : Int)) (p := .bool (row i)) (Has.mem (by simp)) Has.int (row_at row i) (hb := by have := i.isLt; omega) fun v6 => Has.mem (.head _)
  | n + 1, .node k as, h => by
    unfold wfD at h
    rw [Bool.and_eq_true, Bool.and_eq_true] at h
    obtain ⟨⟨h1, h2⟩, h3⟩ := h
    have hlen : as.length ≤ 1000 := of_decide_eq_true h1
    have ih : ∀ f ∈ as, CT c (12 + n) (.ref 640) [.fm f, rowPV row] [] (.bool (told row f)) := fun f hf => ct_told c row n f (List.all_eq_true.mp h2 f hf)
    refine CT_def (n := 12 + n) (f := 640) (by rfl) rfl rfl (by rfl) (bind2 (fun a b => by rfl)) (by decide) (kindsN (by rfl)) ?_
    intro s₀ F₀ L
    refine J_execs_cons <| J_if <| J_isTrue <| J_CallName <| J_Bt (v := .builtin "isinstance") (by kernel_rfl) (by rfl) (by decide) (by rfl) <| J_callImm <| J_evalArgs <| J_spliced <| J_name (p := (Ex.f (.node k as)).pv) (by rfl) fun v1 => J_spliced <| J_Bt (v := .type "bool") (by kernel_rfl) (by rfl) (by decide) (by rfl) <| J_spliced_nil <| J_isiE (e := .f (.node k as)) (Has.mem (.head _)) (isi_boolT c.w (.f (.node k as))) <| J_truthyB ?_
    refine J_execs_nil <| J_execs_cons <| J_if <| J_isTrue <| J_CallName <| J_Bt (v := .builtin "isinstance") (by kernel_rfl) (by rfl) (by decide) (by rfl) <| J_callImm <| J_evalArgs <| J_spliced <| J_name (p := (Ex.f (.node k as)).pv) (by rfl) fun v2 => J_spliced <| J_G (v := .ref 124) (by kernel_rfl) (by rfl) <| J_spliced_nil <| J_isiE (e := .f (.node k as)) (Has.mem (.head _)) (isi_sym c.w (.node k as)) <| J_truthyB ?_
    refine J_execs_nil <| J_execs_cons <| J_mono (Φ := fun fl σ => fl = .next ∧ σ.ρ.lookup ("expr" : Str) = some (.fm (.node k as)) ∧ σ.ρ.lookup ("parts" : Str) = some (.lst ((as.map (told row)).map .bool))) ?_ fun fl σ z => ?_
    · refine J_AssignComp (ρ₂ := [(("row" : Str), rowPV row)]) (g := gTold row) (J_Attribute <| J_name (p := .fm (.node k as)) (by rfl) fun v3 => J_args (Has.mem (.head _)) fun v4 => ⟨as.map .fm, iterK_tup (Has.mem (.head _)), ?el, ?sees, by rw [List.length_map]; omega, (by rfl), fun v5 => ⟨rfl, by rfl, ?_⟩⟩) (by rfl) (by rfl) (by rfl)
      case el =>
        intro p hp s₁ F₃ C pin₃ v
        obtain ⟨f, hf, rfl⟩ := List.mem_map.mp hp
        exact J_assignName (J_store (p := .fm f) (Has.mem (.head _)) (by rfl) (by rfl) (J_ok0 ⟨.bool (told row f), rfl, J_CallName <| J_G (v := .ref 640) (by kernel_rfl) (by rfl) <| J_callBase (by kernel_rfl) <| J_evalArgs <| J_spliced <| J_name (p := .fm f) (by rfl) fun v6 => J_spliced <| J_name (p := rowPV row) (by rfl) fun v7 => J_spliced_nil <| J_ct (ih f hf) (by omega) (.cons (Has.mem (.tail _ (.head _))) (.cons (Has.mem (.head _)) .nil)) fun v8 => Has.mem (.head _)⟩))
      case sees =>
        intro q hq
        obtain rfl := List.mem_singleton.mp hq
        exact ⟨by rfl, fun C => .inl (by rfl), (show (some NameKind.cell : Option NameKind) ≠ some .local by decide), by rfl⟩
      rw [gTold_all]
      rfl
    · obtain ⟨rfl, he, hp⟩ := z
      have hz : ((as.map (told row)).map PV.bool).length ≤ sizeLine := by rw [List.length_map, List.length_map, sizeLine_is]; omega
      unfold told
      rw [tolds_map]
      generalize hbs : as.map (told row) = bs at hp hz ⊢
      have hbl : bs.length = as.length := by rw [← hbs, List.length_map]
      cases k with
      | and =>
        refine J_execs_cons <| J_if <| J_isTrue <| J_CallName <| J_Bt (v := .builtin "isinstance") (by kernel_rfl) (by rfl) (by decide) (by rfl) <| J_callImm <| J_evalArgs <| J_spliced <| J_name (p := (Ex.f (.node .and as)).pv) he fun u1 => J_spliced <| J_G (v := .ref (kC .not)) (by kernel_rfl) (by rfl) <| J_spliced_nil <| J_isiE (e := .f (.node .and as)) (Has.mem (.head _)) (isi_kd c.w .not (.f (.node .and as))) <| J_truthyB ?_
        rw [show kindIs .not (.f (.node .and as)) = false from rfl]
        refine J_execs_nil <| J_execs_cons <| J_if <| J_isTrue <| J_CallName <| J_Bt (v := .builtin "isinstance") (by kernel_rfl) (by rfl) (by decide) (by rfl) <| J_callImm <| J_evalArgs <| J_spliced <| J_name (p := (Ex.f (.node .and as)).pv) he fun u1 => J_spliced <| J_G (v := .ref (kC .and)) (by kernel_rfl) (by rfl) <| J_spliced_nil <| J_isiE (e := .f (.node .and as)) (Has.mem (.head _)) (isi_kd c.w .and (.f (.node .and as))) <| J_truthyB ?_
        rw [show kindIs .and (.f (.node .and as)) = true from rfl]
        refine J_execs_cons <| J_return <| J_Compare <| J_bool <| J_name hp fun u2 => J_inC (neg := true) <| J_inLst (x := .b false) (ys := bs.map .b) (by omega) Has.bool (by rw [bools_pv]; exact Has.mem (.head _)) ?_
        show Has c _ _ (.bool (bs.all id))
        rw [← inE_false, Bool.true_bne]
        exact Has.bool
      | or =>
        refine J_execs_cons <| J_if <| J_isTrue <| J_CallName <| J_Bt (v := .builtin "isinstance") (by kernel_rfl) (by rfl) (by decide) (by rfl) <| J_callImm <| J_evalArgs <| J_spliced <| J_name (p := (Ex.f (.node .or as)).pv) he fun u1 => J_spliced <| J_G (v := .ref (kC .not)) (by kernel_rfl) (by rfl) <| J_spliced_nil <| J_isiE (e := .f (.node .or as)) (Has.mem (.head _)) (isi_kd c.w .not (.f (.node .or as))) <| J_truthyB ?_
        rw [show kindIs .not (.f (.node .or as)) = false from rfl]
        refine J_execs_nil <| J_execs_cons <| J_if <| J_isTrue <| J_CallName <| J_Bt (v := .builtin "isinstance") (by kernel_rfl) (by rfl) (by decide) (by rfl) <| J_callImm <| J_evalArgs <| J_spliced <| J_name (p := (Ex.f (.node .or as)).pv) he fun u1 => J_spliced <| J_G (v := .ref (kC .and)) (by kernel_rfl) (by rfl) <| J_spliced_nil <| J_isiE (e := .f (.node .or as)) (Has.mem (.head _)) (isi_kd c.w .and (.f (.node .or as))) <| J_truthyB ?_
        rw [show kindIs .and (.f (.node .or as)) = false from rfl]
        refine J_execs_nil <| J_execs_cons <| J_if <| J_isTrue <| J_CallName <| J_Bt (v := .builtin "isinstance") (by kernel_rfl) (by rfl) (by decide) (by rfl) <| J_callImm <| J_evalArgs <| J_spliced <| J_name (p := (Ex.f (.node .or as)).pv) he fun u1 => J_spliced <| J_G (v := .ref (kC .or)) (by kernel_rfl) (by rfl) <| J_spliced_nil <| J_isiE (e := .f (.node .or as)) (Has.mem (.head _)) (isi_kd c.w .or (.f (.node .or as))) <| J_truthyB ?_
        rw [show kindIs .or (.f (.node .or as)) = true from rfl]
        refine J_execs_cons <| J_return <| J_Compare <| J_bool <| J_name hp fun u2 => J_inC (neg := false) <| J_inLst (x := .b true) (ys := bs.map .b) (by omega) Has.bool (by rw [bools_pv]; exact Has.mem (.head _)) ?_
        show Has c _ _ (.bool (bs.any id))
        rw [← inE_true, Bool.false_bne]
        exact Has.bool
      | not =>
        refine J_execs_cons <| J_if <| J_isTrue <| J_CallName <| J_Bt (v := .builtin "isinstance") (by kernel_rfl) (by rfl) (by decide) (by rfl) <| J_callImm <| J_evalArgs <| J_spliced <| J_name (p := (Ex.f (.node .not as)).pv) he fun u1 => J_spliced <| J_G (v := .ref (kC .not)) (by kernel_rfl) (by rfl) <| J_spliced_nil <| J_isiE (e := .f (.node .not as)) (Has.mem (.head _)) (isi_kd c.w .not (.f (.node .not as))) <| J_truthyB ?_
        rw [show kindIs .not (.f (.node .not as)) = true from rfl]
        match bs, hbl, hp with
        | [b], _, hp => exact J_execs_cons <| J_return <| J_unaryNot <| J_Subscript <| J_name hp fun u2 => J_int fun t1 => J_tailL (k := 0) (p := .bool b) (Has.mem (.head _)) Has.int (by rfl) fun u3 => J_known (w := .bool b) (Has.bv (Has.mem (.head _))) <| J_truthyB Has.bool
        | [], hbl, _ => exact absurd (hbl.trans (of_decide_eq_true h3)) (by simp)
        | _ :: _ :: _, hbl, _ => exact absurd (hbl.trans (of_decide_eq_true h3)) (by simp)
      | xor =>
        refine J_execs_cons <| J_if <| J_isTrue <| J_CallName <| J_Bt (v := .builtin "isinstance") (by kernel_rfl) (by rfl) (by decide) (by rfl) <| J_callImm <| J_evalArgs <| J_spliced <| J_name (p := (Ex.f (.node .xor as)).pv) he fun u1 => J_spliced <| J_G (v := .ref (kC .not)) (by kernel_rfl) (by rfl) <| J_spliced_nil <| J_isiE (e := .f (.node .xor as)) (Has.mem (.head _)) (isi_kd c.w .not (.f (.node .xor as))) <| J_truthyB ?_
        rw [show kindIs .not (.f (.node .xor as)) = false from rfl]
        refine J_execs_nil <| J_execs_cons <| J_if <| J_isTrue <| J_CallName <| J_Bt (v := .builtin "isinstance") (by kernel_rfl) (by rfl) (by decide) (by rfl) <| J_callImm <| J_evalArgs <| J_spliced <| J_name (p := (Ex.f (.node .xor as)).pv) he fun u1 => J_spliced <| J_G (v := .ref (kC .and)) (by kernel_rfl) (by rfl) <| J_spliced_nil <| J_isiE (e := .f (.node .xor as)) (Has.mem (.head _)) (isi_kd c.w .and (.f (.node .xor as))) <| J_truthyB ?_
        rw [show kindIs .and (.f (.node .xor as)) = false from rfl]
        refine J_execs_nil <| J_execs_cons <| J_if <| J_isTrue <| J_CallName <| J_Bt (v := .builtin "isinstance") (by kernel_rfl) (by rfl) (by decide) (by rfl) <| J_callImm <| J_evalArgs <| J_spliced <| J_name (p := (Ex.f (.node .xor as)).pv) he fun u1 => J_spliced <| J_G (v := .ref (kC .or)) (by kernel_rfl) (by rfl) <| J_spliced_nil <| J_isiE (e := .f (.node .xor as)) (Has.mem (.head _)) (isi_kd c.w .or (.f (.node .xor as))) <| J_truthyB ?_
        rw [show kindIs .or (.f (.node .xor as)) = false from rfl]
        refine J_execs_nil <| J_execs_cons <| J_if <| J_isTrue <| J_CallName <| J_Bt (v := .builtin "isinstance") (by kernel_rfl) (by rfl) (by decide) (by rfl) <| J_callImm <| J_evalArgs <| J_spliced <| J_name (p := (Ex.f (.node .xor as)).pv) he fun u1 => J_spliced <| J_G (v := .ref (kC .xor)) (by kernel_rfl) (by rfl) <| J_spliced_nil <| J_isiE (e := .f (.node .xor as)) (Has.mem (.head _)) (isi_kd c.w .xor (.f (.node .xor as))) <| J_truthyB ?_
        rw [show kindIs .xor (.f (.node .xor as)) = true from rfl]
        refine J_execs_cons <| J_return <| J_Compare <| J_BinOp <| J_CallAttr <| J_name hp fun u2 => J_calleeFew fun pl => J_methL (Has.mem (.head _)) PySem.F.slot_list_count PySem.F.type_list_count <| J_callImm <| J_evalArgs <| J_spliced <| J_bool <| J_spliced_nil <| J_countB (Has.mem (.head _)) fun t1 => J_int fun t2 => J_modInt Has.int Has.int (by decide) fun t3 => J_int fun t4 => J_eqInt Has.int Has.int ?_
        show Has c _ _ (.bool (cnt bs % 2 == 1))
        rw [cnt_count, show (((bs.count true : Nat) : Int).fmod 2 == 1) = (bs.count true % 2 == 1) from by
          rw [Int.fmod_eq_emod_of_nonneg _ (by decide), Bool.eq_iff_iff, beq_iff_eq, beq_iff_eq]; omega]
        exact Has.bool
      | imp =>
        refine J_execs_cons <| J_if <| J_isTrue <| J_CallName <| J_Bt (v := .builtin "isinstance") (by kernel_rfl) (by rfl) (by decide) (by rfl) <| J_callImm <| J_evalArgs <| J_spliced <| J_name (p := (Ex.f (.node .imp as)).pv) he fun u1 => J_spliced <| J_G (v := .ref (kC .not)) (by kernel_rfl) (by rfl) <| J_spliced_nil <| J_isiE (e := .f (.node .imp as)) (Has.mem (.head _)) (isi_kd c.w .not (.f (.node .imp as))) <| J_truthyB ?_
        rw [show kindIs .not (.f (.node .imp as)) = false from rfl]
        refine J_execs_nil <| J_execs_cons <| J_if <| J_isTrue <| J_CallName <| J_Bt (v := .builtin "isinstance") (by kernel_rfl) (by rfl) (by decide) (by rfl) <| J_callImm <| J_evalArgs <| J_spliced <| J_name (p := (Ex.f (.node .imp as)).pv) he fun u1 => J_spliced <| J_G (v := .ref (kC .and)) (by kernel_rfl) (by rfl) <| J_spliced_nil <| J_isiE (e := .f (.node .imp as)) (Has.mem (.head _)) (isi_kd c.w .and (.f (.node .imp as))) <| J_truthyB ?_
        rw [show kindIs .and (.f (.node .imp as)) = false from rfl]
        refine J_execs_nil <| J_execs_cons <| J_if <| J_isTrue <| J_CallName <| J_Bt (v := .builtin "isinstance") (by kernel_rfl) (by rfl) (by decide) (by rfl) <| J_callImm <| J_evalArgs <| J_spliced <| J_name (p := (Ex.f (.node .imp as)).pv) he fun u1 => J_spliced <| J_G (v := .ref (kC .or)) (by kernel_rfl) (by rfl) <| J_spliced_nil <| J_isiE (e := .f (.node .imp as)) (Has.mem (.head _)) (isi_kd c.w .or (.f (.node .imp as))) <| J_truthyB ?_
        rw [show kindIs .or (.f (.node .imp as)) = false from rfl]
        refine J_execs_nil <| J_execs_cons <| J_if <| J_isTrue <| J_CallName <| J_Bt (v := .builtin "isinstance") (by kernel_rfl) (by rfl) (by decide) (by rfl) <| J_callImm <| J_evalArgs <| J_spliced <| J_name (p := (Ex.f (.node .imp as)).pv) he fun u1 => J_spliced <| J_G (v := .ref (kC .xor)) (by kernel_rfl) (by rfl) <| J_spliced_nil <| J_isiE (e := .f (.node .imp as)) (Has.mem (.head _)) (isi_kd c.w .xor (.f (.node .imp as))) <| J_truthyB ?_
        rw [show kindIs .xor (.f (.node .imp as)) = false from rfl]
        refine J_execs_nil <| J_execs_cons <| J_if <| J_isTrue <| J_CallName <| J_Bt (v := .builtin "isinstance") (by kernel_rfl) (by rfl) (by decide) (by rfl) <| J_callImm <| J_evalArgs <| J_spliced <| J_name (p := (Ex.f (.node .imp as)).pv) he fun u1 => J_spliced <| J_G (v := .ref (kC .imp)) (by kernel_rfl) (by rfl) <| J_spliced_nil <| J_isiE (e := .f (.node .imp as)) (Has.mem (.head _)) (isi_kd c.w .imp (.f (.node .imp as))) <| J_truthyB ?_
        rw [show kindIs .imp (.f (.node .imp as)) = true from rfl]
        match bs, hbl, hp with
        | [a, b], _, hp =>
          refine J_execs_cons <| J_return <| J_BoolOp <| J_boolOpOr <| J_unaryNot <| J_Subscript <| J_name hp fun u2 => J_int fun t1 => J_tailL (k := 0) (p := .bool a) (Has.mem (.head _)) Has.int (by rfl) fun u3 => J_known (w := .bool a) (Has.bv (Has.mem (.head _))) <| J_truthyB <| J_truthyB ?_
          cases a with
          | false => exact Has.bool
          | true => exact J_boolOp1 <| J_Subscript <| J_name hp fun u4 => J_int fun t2 => J_tailL (k := 1) (p := .bool b) (Has.mem (.head _)) Has.int (by rfl) fun u5 => Has.mem (.head _)
        | [], hbl, _ => exact absurd (hbl.trans (of_decide_eq_true h3)) (by simp)
        | [_], hbl, _ => exact absurd (hbl.trans (of_decide_eq_true h3)) (by simp)
        | _ :: _ :: _ :: _, hbl, _ => exact absurd (hbl.trans (of_decide_eq_true h3)) (by simp)
      | eqv =>
        refine J_execs_cons <| J_if <| J_isTrue <| J_CallName <| J_Bt (v := .builtin "isinstance") (by kernel_rfl) (by rfl) (by decide) (by rfl) <| J_callImm <| J_evalArgs <| J_spliced <| J_name (p := (Ex.f (.node .eqv as)).pv) he fun u1 => J_spliced <| J_G (v := .ref (kC .not)) (by kernel_rfl) (by rfl) <| J_spliced_nil <| J_isiE (e := .f (.node .eqv as)) (Has.mem (.head _)) (isi_kd c.w .not (.f (.node .eqv as))) <| J_truthyB ?_
        rw [show kindIs .not (.f (.node .eqv as)) = false from rfl]
        refine J_execs_nil <| J_execs_cons <| J_if <| J_isTrue <| J_CallName <| J_Bt (v := .builtin "isinstance") (by kernel_rfl) (by rfl) (by decide) (by rfl) <| J_callImm <| J_evalArgs <| J_spliced <| J_name (p := (Ex.f (.node .eqv as)).pv) he fun u1 => J_spliced <| J_G (v := .ref (kC .and)) (by kernel_rfl) (by rfl) <| J_spliced_nil <| J_isiE (e := .f (.node .eqv as)) (Has.mem (.head _)) (isi_kd c.w .and (.f (.node .eqv as))) <| J_truthyB ?_
        rw [show kindIs .and (.f (.node .eqv as)) = false from rfl]
        refine J_execs_nil <| J_execs_cons <| J_if <| J_isTrue <| J_CallName <| J_Bt (v := .builtin "isinstance") (by kernel_rfl) (by rfl) (by decide) (by rfl) <| J_callImm <| J_evalArgs <| J_spliced <| J_name (p := (Ex.f (.node .eqv as)).pv) he fun u1 => J_spliced <| J_G (v := .ref (kC .or)) (by kernel_rfl) (by rfl) <| J_spliced_nil <| J_isiE (e := .f (.node .eqv as)) (Has.mem (.head _)) (isi_kd c.w .or (.f (.node .eqv as))) <| J_truthyB ?_
        rw [show kindIs .or (.f (.node .eqv as)) = false from rfl]
        refine J_execs_nil <| J_execs_cons <| J_if <| J_isTrue <| J_CallName <| J_Bt (v := .builtin "isinstance") (by kernel_rfl) (by rfl) (by decide) (by rfl) <| J_callImm <| J_evalArgs <| J_spliced <| J_name (p := (Ex.f (.node .eqv as)).pv) he fun u1 => J_spliced <| J_G (v := .ref (kC .xor)) (by kernel_rfl) (by rfl) <| J_spliced_nil <| J_isiE (e := .f (.node .eqv as)) (Has.mem (.head _)) (isi_kd c.w .xor (.f (.node .eqv as))) <| J_truthyB ?_
        rw [show kindIs .xor (.f (.node .eqv as)) = false from rfl]
        refine J_execs_nil <| J_execs_cons <| J_if <| J_isTrue <| J_CallName <| J_Bt (v := .builtin "isinstance") (by kernel_rfl) (by rfl) (by decide) (by rfl) <| J_callImm <| J_evalArgs <| J_spliced <| J_name (p := (Ex.f (.node .eqv as)).pv) he fun u1 => J_spliced <| J_G (v := .ref (kC .imp)) (by kernel_rfl) (by rfl) <| J_spliced_nil <| J_isiE (e := .f (.node .eqv as)) (Has.mem (.head _)) (isi_kd c.w .imp (.f (.node .eqv as))) <| J_truthyB ?_
        rw [show kindIs .imp (.f (.node .eqv as)) = false from rfl]
        refine J_execs_nil <| J_execs_cons <| J_return <| J_Compare <| J_CallAttr <| J_name hp fun u2 => J_calleeFew fun pl => J_methL (Has.mem (.head _)) PySem.F.slot_list_count PySem.F.type_list_count <| J_callImm <| J_evalArgs <| J_spliced <| J_bool <| J_spliced_nil <| J_countB (Has.mem (.head _)) fun t1 => J_Tuple <| J_spliced <| J_int fun t2 => J_spliced <| J_CallName <| J_Bt (v := .builtin "len") (by kernel_rfl) (by rfl) (by decide) (by rfl) <| J_callImm <| J_evalArgs <| J_spliced <| J_name hp fun u3 => J_spliced_nil <| J_lenL (Has.mem (.head _)) hz fun t3 => J_spliced_nil <| J_newTuple (ps := [.int 0, .int ((bs.map PV.bool).length : Int)]) (.cons Has.int (.cons Has.int .nil)) (show 2 ≤ 16777216 by decide) fun u4 => J_inTup2 Has.int (Has.mem (.head _)) ?_
        show Has c _ _ (.bool (cnt bs == 0 || cnt bs == bs.length))
        rw [cnt_count, show ((0 : Int) == ((bs.count true : Nat) : Int) || ((bs.map PV.bool).length : Int) == ((bs.count true : Nat) : Int)) = (bs.count true == 0 || bs.count true == bs.length) from by
          rw [List.length_map, Bool.eq_iff_iff, Bool.or_eq_true, Bool.or_eq_true, beq_iff_eq, beq_iff_eq, beq_iff_eq, beq_iff_eq]; omega]
        exact Has.bool
end Mine
end

-- C36
section
open PySem PySem.W PyProof.Rows PySem.Calls
set_option maxRecDepth 100000
set_option maxHeartbeats 1000000
namespace Mine
def symE : Ex → Bool
  | .f (.sym _) => true
  | _ => false
theorem isi_bs (w : World) (e : Ex) : kitAny (KK w) (tyOf e) [.type "bool", .ref 124] = some (isB e || symE e) := by
  cases e with
  | b u => kernel_rfl
  | f f => cases f with
    | sym i => kernel_rfl
    | node k as => cases k <;> kernel_rfl
theorem ct_literal (c : Cx) (e : Ex) (hne : e ≠ .f (.node .not [])) : CT c 8 (.ref 656) [e.pv] [] (.bool (litL e)) := by
  refine CT_def (n := 7) (f := 656) (by rfl) rfl rfl (by rfl) (bind1 (fun a => by rfl)) (by decide) (kindsN (by rfl)) ?_
  intro s₀ F₀ L
  refine J_execs_cons <| J_return <| J_BoolOp <| J_boolOpOr <| J_CallName <| J_Bt (v := .builtin "isinstance") (by kernel_rfl) (by rfl) (by decide) (by rfl) <| J_callImm <| J_evalArgs <| J_spliced <| J_name (p := e.pv) (by rfl) fun v1 => J_spliced <| J_Tuple <| J_spliced <| J_Bt (v := .type "bool") (by kernel_rfl) (by rfl) (by decide) (by rfl) <| J_spliced <| J_G (v := .ref 124) (by kernel_rfl) (by rfl) <| J_spliced_nil <| J_newTuple (ps := [Value.type "bool", .ref 124].map .val) (.cons Has.val (.cons Has.val .nil)) (show 2 ≤ 16777216 by decide) fun v2 => J_spliced_nil <| J_isiET (Has.mem (.tail _ (.head _))) (Has.mem (.head _)) (isi_bs c.w e) <| J_truthyB ?_
  cases e with
  | b u => exact Has.bool
  | f f => cases f with
    | sym i => exact Has.bool
    | node k as =>
      refine J_boolOp1 <| J_BoolOp <| J_boolOpAnd <| J_CallName <| J_Bt (v := .builtin "isinstance") (by kernel_rfl) (by rfl) (by decide) (by rfl) <| J_callImm <| J_evalArgs <| J_spliced <| J_name (p := (Ex.f (.node k as)).pv) (by rfl) fun v3 => J_spliced <| J_G (v := .ref (kC .not)) (by kernel_rfl) (by rfl) <| J_spliced_nil <| J_isiE (e := .f (.node k as)) (Has.mem (.head _)) (isi_kd c.w .not (.f (.node k as))) <| J_truthyB ?_
      cases k with
      | not =>
        cases as with
        | nil => exact absurd rfl hne
        | cons g as =>
          refine J_boolOp1 <| J_CallName <| J_Bt (v := .builtin "isinstance") (by kernel_rfl) (by rfl) (by decide) (by rfl) <| J_callImm <| J_evalArgs <| J_spliced <| J_Subscript <| J_Attribute <| J_name (p := .fm (.node .not (g :: as))) (by rfl) fun v4 => J_args (Has.mem (.head _)) fun v5 => J_int fun t1 => J_tailT (k := 0) (j := 0) (p := (Ex.f g).pv) (Has.mem (.head _)) Has.int (by simp [seqIndex?]) (by rfl) fun v6 => J_spliced <| J_G (v := .ref 124) (by kernel_rfl) (by rfl) <| J_spliced_nil <| J_isiE (e := .f g) (Has.mem (.head _)) (isi_sym c.w g) ?_
          cases g with
          | sym i => exact Has.bool
          | node k' as' => exact Has.bool
      | and => exact Has.bool
      | or => exact Has.bool
      | xor => exact Has.bool
      | imp => exact Has.bool
      | eqv => exact Has.bool
theorem plain_ne {n : Nat} {e : Ex} (h : plainL n e = true) : e ≠ .f (.node .not []) := by
  rintro rfl
  cases n with
  | zero => cases h
  | succ n => cases h
theorem ct_plain (c : Cx) : ∀ (n : Nat) (e : Ex), plainL n e = true → (∀ k as, e = .f (.node k as) → wfD n (.node k as) = true) → CT c (12 + n) (.ref 661) [e.pv] [] (.bool true)
  | 0, e, h, _ => by cases h
  | n + 1, e, h, hwf => by
    refine CT_def (n := 12 + n) (f := 661) (by rfl) rfl rfl (by rfl) (bind1 (fun a => by rfl)) (by decide) (kindsN (by rfl)) ?_
    intro s₀ F₀ L
    refine J_execs_cons <| J_return <| J_BoolOp <| J_boolOpOr <| J_CallName <| J_G (v := .ref 656) (by kernel_rfl) (by rfl) <| J_callBase (by kernel_rfl) <| J_evalArgs <| J_spliced <| J_name (p := e.pv) (by rfl) fun v1 => J_spliced_nil <| J_ct (ct_literal c e (plain_ne h)) (by omega) (.cons (Has.mem (.head _)) .nil) fun v2 => J_known (t := fun z => truthy z) (w := .bool (litL e)) (Has.bv (Has.mem (.head _))) <| J_truthyB ?_
    cases hl : litL e with
    | true =>
      show Has c _ v2 (.bool true)
      rw [← hl]
      exact Has.mem (.head _)
    | false =>
      obtain ⟨k, as, hk, rfl, hall⟩ : ∃ k as, latK k ∧ e = .f (.node k as) ∧ as.all (fun a => plainL n (.f a)) = true := by
        unfold plainL at h
        rw [hl, Bool.false_or] at h
        split at h
        · exact ⟨_, _, .inl rfl, rfl, h⟩
        · exact ⟨_, _, .inr rfl, rfl, h⟩
        · cases h
      have hw := hwf k as rfl
      unfold wfD at hw
      rw [Bool.and_eq_true, Bool.and_eq_true] at hw
      have hlen : as.length ≤ 1000 := of_decide_eq_true hw.1.1
      have ih : ∀ f ∈ as, CT c (12 + n) (.ref 661) [(Ex.f f).pv] [] (.bool true) := fun f hf => ct_plain c n (.f f) (List.all_eq_true.mp hall f hf) fun k' as' e => by
        cases e; exact List.all_eq_true.mp hw.1.2 _ hf
      refine J_boolOp1 <| J_BoolOp <| J_boolOpAnd <| J_CallName <| J_Bt (v := .builtin "isinstance") (by kernel_rfl) (by rfl) (by decide) (by rfl) <| J_callImm <| J_evalArgs <| J_spliced <| J_name (p := (Ex.f (.node k as)).pv) (by rfl) fun v3 => J_spliced <| J_Tuple <| J_spliced <| J_G (v := .ref 268) (by kernel_rfl) (by rfl) <| J_spliced <| J_G (v := .ref 349) (by kernel_rfl) (by rfl) <| J_spliced_nil <| J_newTuple (ps := [Value.ref 268, .ref 349].map .val) (.cons Has.val (.cons Has.val .nil)) (show 2 ≤ 16777216 by decide) fun v4 => J_spliced_nil <| J_isiET (e := .f (.node k as)) (Has.mem (.tail _ (.head _))) (Has.mem (.head _)) (isi_lat c.w (.f (.node k as))) <| J_truthyB ?_
      rw [show latB (.f (.node k as)) = true from by rcases hk with rfl | rfl <;> rfl]
      refine J_boolOp1 <| J_Compare <| J_ListComp (ρ₂ := []) (g := fun _ => none) (J_Attribute <| J_name (p := .fm (.node k as)) (by rfl) fun v5 => J_args (Has.mem (.head _)) fun v6 => ⟨as.map .fm, iterK_tup (Has.mem (.head _)), ?el, Sees.nil, by rw [List.length_map]; omega, fun v7 => ?_⟩) (by rfl)
      case el =>
        intro p hp s₁ F₃ C pin₃ v
        obtain ⟨f, hf, rfl⟩ := List.mem_map.mp hp
        exact J_assignName (J_store (p := (Ex.f f).pv) (Has.mem (.head _)) (by rfl) (by rfl) (J_ok1 <| J_not <| J_isTrue <| J_CallName <| J_G (v := .ref 661) (by kernel_rfl) (by rfl) <| J_callBase (by kernel_rfl) <| J_evalArgs <| J_spliced <| J_name (p := (Ex.f f).pv) (by rfl) fun v8 => J_spliced_nil <| J_ct (ih f hf) (by omega) (.cons (Has.mem (.head _)) .nil) fun v9 => J_known (w := .bool true) (Has.bv (Has.mem (.head _))) <| J_truthyB rfl))
      refine J_List <| J_spliced_nil <| J_newList (ps := []) .nil (Nat.zero_le _) fun v8 => J_eqL0 (xs := []) ?_ (Has.mem (.head _)) Has.bool
      have : (as.map PV.fm).filterMap (fun _ => (none : Option PV)) = [] := by simp
      rw [← this]
      exact Has.mem (.tail _ (.head _))
theorem ct_parts (c : Cx) (e : Ex) (k : Kd) (o : Str) (hk : (k = .and ∧ o = "and") ∨ (k = .or ∧ o = "or")) : CT c 8 (.ref 668) [e.pv, .str o] [] (.tup ((parts k e).map Ex.pv)) := by
  refine CT_def (n := 7) (f := 668) (by rfl) rfl rfl (by rfl) (bind2 (fun a b => by rfl)) (by decide) (kindsN (by rfl)) ?_
  intro s₀ F₀ L
  rcases hk with ⟨rfl, rfl⟩ | ⟨rfl, rfl⟩
  · refine J_execs_cons <| J_if <| J_isTrueCmp <| J_name (p := .str "and") (by rfl) fun v1 => J_str fun t1 => J_eqStrB true (Has.mem (.head _)) Has.str (by decide +kernel) <| J_truthyB ?_
    refine J_execs_cons <| J_return <| J_ifexp <| J_isTrue <| J_CallName <| J_Bt (v := .builtin "isinstance") (by kernel_rfl) (by rfl) (by decide) (by rfl) <| J_callImm <| J_evalArgs <| J_spliced <| J_name (p := e.pv) (by rfl) fun v2 => J_spliced <| J_G (v := .ref (kC .and)) (by kernel_rfl) (by rfl) <| J_spliced_nil <| J_isiE (Has.mem (.head _)) (isi_kd c.w .and e) <| J_truthyB ?_
    cases hb : kindIs .and e with
    | true =>
      obtain ⟨as, rfl, e6⟩ := kind_parts hb
      refine J_Attribute <| J_name (p := .fm (.node .and as)) (by rfl) fun v4 => J_args (Has.mem (.head _)) fun v5 => ?_
      rw [e6, fms_map]; exact Has.mem (.head _)
    | false =>
      refine J_Tuple <| J_spliced <| J_name (p := e.pv) (by rfl) fun v4 => J_spliced_nil <| J_newTuple (ps := [e.pv]) (.cons (Has.mem (.head _)) .nil) (show 1 ≤ 16777216 by decide) fun v5 => ?_
      rw [kind_parts' hb]; exact Has.mem (.head _)
  · refine J_execs_cons <| J_if <| J_isTrueCmp <| J_name (p := .str "or") (by rfl) fun v1 => J_str fun t1 => J_eqStrB false (Has.mem (.head _)) Has.str (by decide +kernel) <| J_truthyB ?_
    refine J_execs_nil <| J_execs_cons <| J_return <| J_ifexp <| J_isTrue <| J_CallName <| J_Bt (v := .builtin "isinstance") (by kernel_rfl) (by rfl) (by decide) (by rfl) <| J_callImm <| J_evalArgs <| J_spliced <| J_name (p := e.pv) (by rfl) fun v2 => J_spliced <| J_G (v := .ref (kC .or)) (by kernel_rfl) (by rfl) <| J_spliced_nil <| J_isiE (Has.mem (.head _)) (isi_kd c.w .or e) <| J_truthyB ?_
    cases hb : kindIs .or e with
    | true =>
      obtain ⟨as, rfl, e6⟩ := kind_parts hb
      refine J_Attribute <| J_name (p := .fm (.node .or as)) (by rfl) fun v4 => J_args (Has.mem (.head _)) fun v5 => ?_
      rw [e6, fms_map]; exact Has.mem (.head _)
    | false =>
      refine J_Tuple <| J_spliced <| J_name (p := e.pv) (by rfl) fun v4 => J_spliced_nil <| J_newTuple (ps := [e.pv]) (.cons (Has.mem (.head _)) .nil) (show 1 ≤ 16777216 by decide) fun v5 => ?_
      rw [kind_parts' hb]; exact Has.mem (.head _)
end Mine
end

-- J39
section
open PySem PySem.W PyProof.Rows PySem.Calls
set_option maxRecDepth 100000
set_option maxHeartbeats 1000000
namespace Mine
/-- what a comprehension does with each thing: the rest of a turn -/
def tail0 (e : Expr) (iter : Expr) (it acc : Value) (env : Env) : Sem Fin := do
  let x ← eval iter env
  standAt iter.pos
  let x ← foldedSetIterable iter env x
  let _ ← runOwn (.compStart e 1 (← holding [x] (pyIter x)) acc env) env
  again (.compLoop e 0 it acc env)
def tail1 (e : Expr) (elt : Expr) (ifs : List Expr) (it acc : Value) (env : Env) : Sem Fin := do
  let ok ← compOk ifs env
  if ok then (do let _ ← call (.builtin "list.append") [acc, ← eval elt env])
  again (.compLoop e 1 it acc env)
abbrev lc2 (elt t1 i1 t2 i2 : Expr) (ifs : List Expr) (scope : Scope) (pos : Pos) : Expr := .ListComp elt [⟨t1, i1, [], 0⟩, ⟨t2, i2, ifs, 0⟩] scope pos
theorem compTurn_two0 (elt t1 i1 t2 i2 : Expr) (ifs : List Expr) (scope : Scope) (pos : Pos) (it acc : Value) (env : Env) :
    compTurn (lc2 elt t1 i1 t2 i2 ifs scope pos) 0 it acc env = (standAt i1.pos >>= fun _ => pyNext it >>= fun r => match r with
      | none => pure (.done .next)
      | some v => letOwnedTupleGo t1 it v >>= fun _ => assign t1 env v >>= fun _ => tail0 (lc2 elt t1 i1 t2 i2 ifs scope pos) i2 it acc env) := by
  unfold compTurn tail0
  rfl
theorem compTurn_two1 (elt t1 i1 t2 i2 : Expr) (ifs : List Expr) (scope : Scope) (pos : Pos) (it acc : Value) (env : Env) :
    compTurn (lc2 elt t1 i1 t2 i2 ifs scope pos) 1 it acc env = (standAt i2.pos >>= fun _ => pyNext it >>= fun r => match r with
      | none => pure (.done .next)
      | some v => letOwnedTupleGo t2 it v >>= fun _ => assign t2 env v >>= fun _ => tail1 (lc2 elt t1 i1 t2 i2 ifs scope pos) elt ifs it acc env) := by
  unfold compTurn tail1
  rfl

theorem J_turns {c : Cx} {n : Nat} {fr : Fc} {e target : Expr} {dep : Nat} {it : Addr} {acc : Value} {fz : PM → Prop} {P : List PV → Obj → Prop} (I : Iter c n it fz P) {tail : Sem Fin} {p0 : Pos} {Inv : AS → Prop} {A : Around} (r : Rm n fr.env fr.stk A)
    (hturn : compTurn e dep (.ref it) acc fr.env = (standAt p0 >>= fun _ => pyNext (.ref it) >>= fun r => match r with
      | none => pure (.done .next)
      | some v => letOwnedTupleGo target (.ref it) v >>= fun _ => assign target fr.env v >>= fun _ => tail))
    (hden : c.M.den (.compLoop e dep (.ref it) acc fr.env) = (compTurn e dep (.ref it) acc fr.env).onRaise (fun x => do noteFrame x fr.env; theTreesLotGoes x)) (hund : A.under (.compLoop e dep (.ref it) acc fr.env) = A) (hq : (Code.compLoop e dep (.ref it) acc fr.env).quiet = true)
    {F : PM} {σ : AS} {s : Shared} {o : Obj} {xs : List PV}
    (H : Holds c fr F σ s.heap) (ho : s.heap.get? it = some o) (hP : P xs o) (hf : fz F) (Z : Free fr F σ it) (hp : ∀ q ∈ fr.pin, q.1 ≠ it) (hI : Inv σ) (hIf : ∀ σ, Inv σ → σ.own = none)
    (hJ : ∀ p ∈ xs, ∀ σ, Inv σ → ∀ v F₁ pin, J c n (fr.at F₁ pin) (σ.push v p) (assign target fr.env v) fun _ σ₁ => J c n (fr.at F₁ pin) σ₁ tail fun fin σ₂ => fin = .again (.compLoop e dep (.ref it) acc fr.env) ∧ Inv σ₂) (ht : ∀ v, letOwnedTupleGo target (.ref it) v = pure ())
    {Q : Shared → Prop} (q : ∀ σ' F' h' tk, Inv σ' → Holds c fr F' σ' h' → Q { s with heap := h', toks := tk }) :
    codeAny c.M A (.compLoop e dep (.ref it) acc fr.env) (fun r s' => match r with | .ok _ => Q s' | .error _ => False) s := by
  refine codeAny_loop hq (fun k s' => ∃ dn ps σ F h tk o, xs = dn ++ ps ∧ k = ps.length ∧ s' = { s with heap := h, toks := tk } ∧ Holds c fr F σ h ∧ h.get? it = some o ∧ P ps o ∧ fz F ∧ Free fr F σ it ∧ Inv σ) ?_ xs.length ⟨[], xs, σ, F, s.heap, s.toks, o, rfl, rfl, rfl, H, ho, hP, hf, Z, hI⟩
  rintro k s' ⟨dn, ps, σ, F, h, tk, o, hxs, rfl, rfl, H, ho, hP, hf, Z, hI⟩
  rw [hund, hden]
  refine wpAny_noted ?_
  rw [hturn]
  refine wpAny_bind (wpAny_standAt (wpAny_bind ?_))
  cases ps with
  | nil =>
    refine wpAny_mono (I.done A F { s with heap := h, toks := tk } o r.1 H.baseF H.sub Z.off hf ho hP _ fun h' tk' he => ?_) (fun _ _ x => x) fun _ _ x => x.elim
    exact wpAny_pure (q σ F h' tk' hI (H.extBut Z hp he))
  | cons p ps =>
    refine wpAny_mono (I.item p ps A F { s with heap := h, toks := tk } o r.1 H.baseF H.sub Z.off hf ho hP _ fun v F' h' tk' o' ho' hP' he le hs hn rv => ?_) (fun _ _ x => x) fun _ _ x => x.elim
    have hFit : F' it = none := by
      cases w : F' it with
      | none => rfl
      | some x =>
        rcases hn it x w with y | y
        · rw [Z.off] at y; cases y
        · rw [ho] at y; cases y
    have H₂ := (H.stepBut Z hp he le hs hn).push rv
    have Z₂ : Free fr F' (σ.push v p) it := ⟨hFit, Z.loc, Z.new, Z.cell, Z.own⟩
    have H₃ := H₂.pinned Z₂ ho' (.inr (I.nd _ _ hP'))
    refine wpAny_bind (wpAny_of_eq (ht v) (wpAny_bind ?_))
    refine wpAny_mono (hJ p (by rw [hxs]; simp) σ hI v F' ((it, o') :: fr.pin) A r F' { s with heap := h', toks := tk' } H₃ _ fun u σ₁ F₁ h₁ tk₁ z₁ H₄ => ?_) (fun _ _ x => x) fun _ _ x => x.elim
    refine wpAny_mono (z₁ A r F₁ { s with heap := h₁, toks := tk₁ } H₄ _ fun fin σ₂ F₂ h₂ tk₂ z₂ H₅ => ?_) (fun _ _ x => x) fun _ _ x => x.elim
    obtain ⟨H₆, Z₆, ho₆, le₆⟩ := H₂.unpinned H₅
    obtain ⟨rfl, hI₂⟩ := z₂
    exact ⟨rfl, ps.length, Nat.lt_succ_self _, dn ++ [p], ps, σ₂, F₂, h₂, tk₂, o', by rw [hxs]; simp, rfl, rfl, H₆, ho₆, hP', I.mono _ _ (le.trans le₆) hf, Z₆, hI₂⟩
theorem codeAny_compStart1 {elt t1 i1 t2 i2 : Expr} {ifs : List Expr} {scope : Scope} {pos : Pos} {it acc : Value} {env : Env} {prog : Program} {w : World} {A : Around} {R : Result → Shared → Prop} {s : Shared}
    (h0 : codeAny (model prog w) A (.compLoop (lc2 elt t1 i1 t2 i2 ifs scope pos) 1 it acc env) R s)
    (h : wpAny (model prog w) A (pyIter it) (fun it' s' => codeAny (model prog w) A (.compLoop (lc2 elt t1 i1 t2 i2 ifs scope pos) 1 it' acc env) R s') (fun _ _ => False) s) :
    codeAny (model prog w) A (.compStart (lc2 elt t1 i1 t2 i2 ifs scope pos) 1 it acc env) R s := by
  refine codeAny_of_tree ?_
  show wpAny _ _ ((compStart (lc2 elt t1 i1 t2 i2 ifs scope pos) 1 it acc env).onRaise (fun x => do noteFrame x env; standAt theWindowsPlace)) _ _ s
  refine wpAny_notedAt ?_
  unfold compStart
  show wpAny _ _ (ask >>= _) _ _ s
  refine wpAny_bind (wpAny_askSetting (wpAny_ite ?_))
  split
  · first
      | exact wpAny_bind (wpAny_pure (wpAny_pure (And.intro rfl h0)))
      | exact wpAny_pure (And.intro rfl h0)
  · first
      | exact wpAny_bind (wpAny_rule (wpAny_bind (wpAny_standAt (wpAny_bind (wpAny_mono h (fun it' s' h' => wpAny_pure (And.intro rfl h')) fun _ _ x => x.elim)))))
      | (refine wpAny_bind (wpAny_rule ?_); show wpAny _ _ (standAt i2.pos >>= _) _ _ s; exact wpAny_bind (wpAny_standAt (wpAny_bind (wpAny_mono h (fun it' s' h' => wpAny_pure (And.intro rfl h')) fun _ _ x => x.elim))))
section
variable {c : Cx} {n : Nat} {fr : Fc}
/-- the inner walk, where nothing passes the test -/
theorem J_inner {elt t1 i1 t2 i2 : Expr} {ifs : List Expr} {scope : Scope} {pos : Pos} {it : Addr} {acc : Value} {σ : AS} {Inv : AS → Prop} (hIf : ∀ σ, Inv σ → σ.own = none)
    (h : J c n fr σ (eval i2 fr.env) fun x σ₁ => ∃ ys, IterOf c n fr σ₁ x ys ∧ Inv σ₁ ∧ ∀ p ∈ ys, ∀ σ, Inv σ → ∀ v F₁ pin, J c n (fr.at F₁ pin) (σ.push v p) (assign t2 fr.env v) fun _ σ₁ => J c n (fr.at F₁ pin) σ₁ (compOk ifs fr.env) fun ok σ₂ => ok = false ∧ Inv σ₂)
    (hs : ∀ x, foldedSetIterable i2 fr.env x = pure x) (ht : ∀ it v, letOwnedTupleGo t2 it v = pure ()) :
    J c n fr σ (tail0 (lc2 elt t1 i1 t2 i2 ifs scope pos) i2 (.ref it) acc fr.env) fun fin σ₂ => fin = .again (.compLoop (lc2 elt t1 i1 t2 i2 ifs scope pos) 0 (.ref it) acc fr.env) ∧ Inv σ₂ := fun A r F s H Q q => by
  unfold tail0
  refine wpAny_bind (h A r F s H _ fun x σ₁ F₁ h₁ tk₁ z H₁ => ?_)
  obtain ⟨ys, hi, hInv, hel⟩ := z
  refine wpAny_bind (wpAny_standAt (wpAny_bind (wpAny_of_eq (hs x) (wpAny_bind (wpAny_holding ?_)))))
  refine hi A r F₁ { s with heap := h₁, toks := tk₁ } H₁ _ fun it2 F₂ h₂ tk₂ fz P o I H₂ ho hP hf Z hp => ?_
  have loop : codeAny c.M A (.compLoop (lc2 elt t1 i1 t2 i2 ifs scope pos) 1 (.ref it2) acc fr.env) (fun r s' => match r with | .ok _ => Q (.again (.compLoop (lc2 elt t1 i1 t2 i2 ifs scope pos) 0 (.ref it) acc fr.env)) s' | .error _ => False) { s with heap := h₂, toks := tk₂ } := by
    refine J_turns (s := { s with heap := h₂, toks := tk₂ }) I (tail := tail1 (lc2 elt t1 i1 t2 i2 ifs scope pos) elt ifs (.ref it2) acc fr.env) r (compTurn_two1 ..) rfl rfl rfl H₂ ho hP hf Z hp hInv hIf (fun p hp σ hσ v F₁ pin => ?_) (ht _) (Q := fun s' => Q (.again (.compLoop (lc2 elt t1 i1 t2 i2 ifs scope pos) 0 (.ref it) acc fr.env)) s') fun σ' F' h' tk z H' => q _ σ' F' h' tk ⟨rfl, z⟩ H'
    refine J_mono (hel p hp σ hσ v F₁ pin) fun _ σ₁ z => ?_
    unfold tail1
    refine J_bind (J_mono z fun ok σ₂ z => ?_)
    obtain ⟨rfl, z⟩ := z
    exact J_pure ⟨rfl, z⟩
  refine wpAny_bind (wpAny_runOwn (codeAny_mono (codeAny_compStart1 loop (I.self A { s with heap := h₂, toks := tk₂ } o ys ho hP _ loop)) fun r' s' z => ?_))
  cases r' with
  | ok f => exact wpAny_pure z
  | error e => exact z.elim
end
end Mine
end

-- J40
section
open PySem PySem.W PyProof.Rows PySem.Calls
set_option maxRecDepth 100000
set_option maxHeartbeats 1000000
namespace Mine
section
variable {c : Cx} {n : Nat} {fr : Fc} {σ : AS}
/-- two walks in one comprehension, where nothing passes the test -/
theorem J_ListComp2 {scope : Scope} {cl : List (Str × Addr)} {elt t1 i1 t2 i2 : Expr} {ifs : List Expr} {pos : Pos} {Φ : Value → AS → Prop}
    (h : J c n fr σ (eval i1 fr.env) fun x σ₁ => ∃ xs, IterK c n fr σ₁ x xs ∧ (∀ p ∈ xs, ∀ s₁ F₁ C pin, ∀ σ' : AS, σ'.own = none → ∀ v, J c n (cfr fr scope cl s₁ F₁ C pin) (σ'.push v p) (assign t1 (compEnvC scope cl C fr.env) v) fun _ σ₂ => J c n (cfr fr scope cl s₁ F₁ C pin) σ₂ (eval i2 (compEnvC scope cl C fr.env)) fun x σ₃ =>
      ∃ ys, IterOf c n (cfr fr scope cl s₁ F₁ C pin) σ₃ x ys ∧ σ₃.own = none ∧ ∀ q ∈ ys, ∀ σ' : AS, σ'.own = none → ∀ v F₂ pin₂, J c n (cfr fr scope cl s₁ F₂ C pin₂) (σ'.push v q) (assign t2 (compEnvC scope cl C fr.env) v) fun _ σ₄ => J c n (cfr fr scope cl s₁ F₂ C pin₂) σ₄ (compOk ifs (compEnvC scope cl C fr.env)) fun ok σ₅ => ok = false ∧ σ₅.own = none) ∧
      ∀ v, Φ v (σ₁.push v (.lst [])))
    (hclos : closureFor scope fr.env = pure cl) (hcell : ∀ y ∈ scope.names, y.2 ≠ .cell := by decide) (hkind : scope.kind = .function := by rfl) (hnames : ∀ y ∈ scope.names, y.2 = .local → scope.names.lookup y.1 = some .local := by decide) (hs : ∀ x, foldedSetIterable i1 fr.env x = pure x := by intro _; rfl) (hs2 : ∀ env x, foldedSetIterable i2 env x = pure x := by intro _ _; rfl)
    (ht : ∀ it v, letOwnedTupleGo t1 it v = pure () := by intro _ _; rfl) (ht2 : ∀ it v, letOwnedTupleGo t2 it v = pure () := by intro _ _; rfl) :
    J c n fr σ (eval (lc2 elt t1 i1 t2 i2 ifs scope pos) fr.env) Φ := fun A r F s H Q q => by
  rw [eval_ListComp]
  refine wpAny_comprehension_free (g := ⟨t1, i1, [], 0⟩) (gs := [⟨t2, i2, ifs, 0⟩]) rfl hs hclos hkind hnames ?_
  refine h A r F s H _ fun x σ₁ F₁ h₁ tk₁ z H₁ => ?_
  obtain ⟨xs, I, hel, hΨ⟩ := z
  refine I A r F₁ { s with heap := h₁, toks := tk₁ } H₁ _ fun it F₂ h₂ tk₂ fz P o i kp ex nit ho hP hf hF => ?_
  refine wpAny_newObj_type (wpAny_newFunctionEnv hcell (by intro y hy; simp at hy) (fun h₃ hns₃ hsb₃ => ?_) hkind)
  dsimp only at hns₃ hsb₃ ⊢
  generalize hH2 : h₂.push { cls := .type "list", dict := none, data := .seq ([] : List Value).toArray } = H2 at hns₃ hsb₃ ⊢
  have sz : H2.objs.size = h₂.objs.size + 1 := by rw [← hH2, Heap.size_push]
  have nD : h₂.get? h₂.objs.size = none := none_size h₂
  have nC : h₂.get? H2.objs.size = none := by rw [sz]; exact Heap.get?_none_of_le (Nat.le_succ _)
  have hCD : H2.objs.size ≠ h₂.objs.size := by rw [sz]; exact Nat.succ_ne_self _
  have k₃ : Kp h₂ h₃ := fun a o e => hsb₃.extBut a o (fun z => by rw [z, nC] at e; cases e) (Heap.get?_push_of_some _ (hH2 ▸ Heap.get?_push_of_some _ e))
  have hCi : H2.objs.size ≠ it := fun e => by rw [← e, nC] at ho; cases ho
  have hDi : h₂.objs.size ≠ it := fun e => by rw [← e, nD] at ho; cases ho
  have hD₃ : h₃.get? h₂.objs.size = some (lstObj [] 0) := hsb₃.extBut _ _ (Ne.symm hCD) (Heap.get?_push_of_some _ (hH2 ▸ Heap.get?_push_size _ rfl))
  have H₃ : Holds c (cfr fr scope cl { s with heap := h₁, toks := tk₁ } F₂ H2.objs.size [(h₂.objs.size, lstObj [] 0)]) F₂ ⟨[], none, []⟩ h₃ := by
    refine ⟨H₁.baseF.mono ex.le, by simp [compEnvC, relabel, hkind], nofun, Le.refl _, ex.sub.kp k₃, kp.trans k₃, fun a x w => .inl w, ⟨_, fun _ => none, ⟨hns₃, ex.sub.off nC, kp.none nC, fun _ _ z => (by cases z), fun _ _ _ z => (by cases z), fun y p' z => (by cases z), fun _ _ _ z => (by cases z), fun z hz => ?_, fun _ _ => .inl rfl⟩⟩, fun z hz => (by cases hz)⟩
    obtain rfl := List.mem_singleton.mp hz
    exact ⟨hD₃, ex.sub.off nD, Ne.symm hCD, kp.none nD, fun _ _ z => (by cases z), fun _ _ _ z => (by cases z)⟩
  have loop : codeAny c.M A (.compLoop (lc2 elt t1 i1 t2 i2 ifs scope pos) 0 (.ref it) (.ref h₂.objs.size) (compEnvC scope cl H2.objs.size fr.env)) (compPost c.M A (fun _ _ => False) none Q (.ref h₂.objs.size) H2.objs.size) { s with heap := h₃, toks := tk₂ } := by
    refine codeAny_mono (J_turns (fr := cfr fr scope cl { s with heap := h₁, toks := tk₁ } F₂ H2.objs.size [(h₂.objs.size, lstObj [] 0)]) (s := { s with heap := h₃, toks := tk₂ }) i (tail := tail0 (lc2 elt t1 i1 t2 i2 ifs scope pos) i2 (.ref it) (.ref h₂.objs.size) (compEnvC scope cl H2.objs.size fr.env)) ⟨r.1, nofun⟩ (compTurn_two0 ..) rfl rfl rfl H₃ (k₃ _ _ ho) hP hf ⟨hF, Ne.symm hCi, nit, fun _ _ z => (by cases z), fun _ _ _ z => (by cases z)⟩ (fun z hz => by obtain rfl := List.mem_singleton.mp hz; exact hDi) (Inv := fun σ => σ.own = none) rfl (fun _ z => z) (fun p hp σ' hσ v F₁' pin => ?_) (ht _)
      (Q := fun s' => compPost c.M A (fun _ _ => False) none Q (.ref h₂.objs.size) H2.objs.size (.ok .next) s') fun σ' F' h' tk _ H' => ?_) fun r' s' z => ?_
    · refine J_mono (hel p hp _ F₁' _ pin σ' hσ v) fun _ σ₂ z => ?_
      exact J_inner (fr := cfr fr scope cl { s with heap := h₁, toks := tk₁ } F₁' H2.objs.size pin) (Inv := fun σ => σ.own = none) (fun _ z => z) z (hs2 _) ht2
    · obtain ⟨m, cm, L⟩ := H'.loc
      obtain ⟨b1, b3, _⟩ := L.pin _ (List.mem_singleton.mpr rfl)
      have hD1 : h₁.get? h₂.objs.size = none := kp.none nD
      have le2 : Le F' (put F' h₂.objs.size (lstObj [] 0)) := Le.put b3
      have keep : Kp h₁ h' := H'.keep
      have ex' : Ext F₁ (put F' h₂.objs.size (lstObj [] 0)) h₁ h' := ⟨(ex.le.trans H'.le).trans le2, fun a x e => by
          unfold put at e; split at e
          · rename_i w; subst w; cases e; exact b1
          · exact H'.sub a x e, fun a x e => by
          unfold put at e; split at e
          · rename_i w; subst w; exact .inr hD1
          · rcases H'.new a x e with w | w
            · exact ex.new a x w
            · exact .inr w⟩
      have H'' := (H₁.step keep ex').push (v := .ref h₂.objs.size) (p := .lst []) ⟨_, [], 0, rfl, put_self _ _ _, Reps.nil⟩
      obtain ⟨Z, hp⟩ := H₁.freeNew (kp.none nC)
      have oC : (put F' h₂.objs.size (lstObj [] 0)) H2.objs.size = none := by rw [put_ne hCD]; exact L.offL
      exact ⟨m, L.ns, fun h'' hs'' => q _ _ _ h'' tk (hΨ _) (H''.extBut ⟨oC, Z.loc, Z.new, Z.cell, Z.own⟩ hp hs''.extBut)⟩
    · cases r' with
      | ok f => exact z
      | error e => exact z.elim
  exact codeAny_compStart_list loop (wpAny_mono (i.self A { s with heap := h₃, toks := tk₂ } o xs (k₃ _ _ ho) hP (fun v s' => v = .ref it ∧ s' = { s with heap := h₃, toks := tk₂ }) ⟨rfl, rfl⟩) (fun v s' z => by obtain ⟨rfl, rfl⟩ := z; exact loop) fun _ _ z => z.elim)
end
end Mine
end

-- P3
section
namespace Mine
/-- all that the law asks of a formula -/
structure LawP (t : Tr) (e short long cnf dnf : Ex) : Prop where
  made : mk t = some e
  small : dV t ≤ 20
  s : nnfTop true e = some short
  l : nnfTop false e = some long
  cn : normal .and .or e = some cnf
  dn : normal .or .and e = some dnf
  told : ∀ x ∈ [e, short, long, cnf, dnf], wfE x = true ∧ rows.map (fun r => toldE r x) = rows.map (fun r => value r t)
  plainS : Mine.plainL 8 short = true
  plainG : Mine.plainL 8 long = true
  nnfS : isNnf true short = some true
  nnfL : isNnf false long = some true
  cf : isForm .and .or cnf = some true
  df : isForm .or .and dnf = some true
  pc : partsOk .and .or cnf = true
  pd : partsOk .or .and dnf = true
theorem normal_self {k1 k2 : Kd} {e : Ex} (h : isForm k1 k2 e = some true) : normal k1 k2 e = some e := by
  unfold normal
  rw [h]
  split <;> rfl
theorem nnfTop_self {s : Bool} {e : Ex} (h : isNnf s e = some true) : nnfTop s e = some e := by
  unfold nnfTop
  rw [h]; rfl
abbrev rowOf (a b d : Bool) : Fin 3 → Bool := fun i => if i = 0 then a else if i = 1 then b else d
theorem rows_are : rows = [rowOf false false false, rowOf false false true, rowOf false true false, rowOf false true true, rowOf true false false, rowOf true false true, rowOf true true false, rowOf true true true] := rfl
def gRow (f : (Fin 3 → Bool) → Bool) : PV → Option PV
  | .lst [.bool a, .bool b, .bool d] => some (.bool (f (rowOf a b d)))
  | _ => none
theorem gRow_all (f : (Fin 3 → Bool) → Bool) : (rows.map rowPV).filterMap (gRow f) = (rows.map f).map PV.bool := rfl
theorem row_mem {row : Fin 3 → Bool} (h : row ∈ rows) : ∃ a b d, row = rowOf a b d := by
  rw [rows_are] at h
  simp only [List.mem_cons, List.not_mem_nil, or_false] at h
  rcases h with rfl | rfl | rfl | rfl | rfl | rfl | rfl | rfl <;> exact ⟨_, _, _, rfl⟩
end Mine
end

-- C37
section
open PySem PySem.W PyProof.Rows PySem.Calls
set_option maxRecDepth 100000
set_option maxHeartbeats 1000000
namespace Mine
theorem rep_row {c : Cx} {F : PM} (B : Base c F) {a : Addr} {x y z : Bool} (h : (KK c.w).lookup a = some (lstObj [.bool x, .bool y, .bool z] 0)) : Rep F (rowPV (rowOf x y z)) (.ref a) :=
  ⟨a, [.bool x, .bool y, .bool z], 0, rfl, B _ _ (c.X _ _ h), Reps.cons rfl (Reps.cons rfl (Reps.cons rfl Reps.nil))⟩
theorem has_rows {c : Cx} {σ : AS} : Has c σ (.ref 649) (.lst (rows.map rowPV)) := fun fr F h H => by
  have B := H.baseF
  exact ⟨649, [.ref 641, .ref 642, .ref 643, .ref 644, .ref 645, .ref 646, .ref 647, .ref 648], 0, rfl, B _ _ (c.X _ _ (by rfl)),
    Reps.cons (rep_row B (by rfl)) (Reps.cons (rep_row B (by rfl)) (Reps.cons (rep_row B (by rfl)) (Reps.cons (rep_row B (by rfl)) (Reps.cons (rep_row B (by rfl)) (Reps.cons (rep_row B (by rfl)) (Reps.cons (rep_row B (by rfl)) (Reps.cons (rep_row B (by rfl)) Reps.nil)))))))⟩
theorem ex_refl (e : Ex) : Ex.eq e e = true := by
  cases e with
  | b u => cases u <;> rfl
  | f f => exact beq_iff.mpr rfl
theorem wf_ne {x : Ex} (h : wfE x = true) : x ≠ .f (.node .not []) := by
  rintro rfl; cases h
theorem ct_toldE (c : Cx) (row : Fin 3 → Bool) (x : Ex) (h : wfE x = true) : CT c 20 (.ref 640) [x.pv, rowPV row] [] (.bool (toldE row x)) := by
  cases x with
  | b u => exact (ct_toldB c row u).mono (by decide)
  | f f => exact ct_told c row 8 f h
theorem ct_plainE (c : Cx) (x : Ex) (h : wfE x = true) (hp : plainL 8 x = true) : CT c 20 (.ref 661) [x.pv] [] (.bool true) := ct_plain c 8 x hp fun k as e => by subst e; exact h
theorem isEmpty_nil : (!([] : List PV).isEmpty) = false := rfl
structure LawI (e : Ex) (t : Tr) (σ : AS) : Prop where
  own : σ.own = none
  expr : σ.ρ.lookup ("expr" : Str) = some e.pv
  tree : σ.ρ.lookup ("tree" : Str) = some (treePV t)
structure LawH (e : Ex) (bs : List Bool) (σ : AS) : Prop where
  own : σ.own = none
  expr : σ.ρ.lookup ("expr" : Str) = some e.pv
  holds : σ.ρ.lookup ("holds" : Str) = some (.lst (bs.map .bool))
structure LawF (e short long cnf dnf : Ex) (bs : List Bool) (σ : AS) : Prop where
  own : σ.own = none
  expr : σ.ρ.lookup ("expr" : Str) = some e.pv
  holds : σ.ρ.lookup ("holds" : Str) = some (.lst (bs.map .bool))
  short : σ.ρ.lookup ("short" : Str) = some short.pv
  long : σ.ρ.lookup ("long" : Str) = some long.pv
  cnf : σ.ρ.lookup ("cnf" : Str) = some cnf.pv
  dnf : σ.ρ.lookup ("dnf" : Str) = some dnf.pv
abbrev scr (ns : List Int) : List Int := if ns = [] then [5, 8, 0, 9, 4, 18, 0] else ns.take 15
theorem ct_law (c : Cx) (ns : List Int) (hl : ns.length ≤ 1000) (t : Tr) (ht : t = (parse 2 (scr ns)).1) (e short long cnf dnf : Ex) (P : LawP t e short long cnf dnf) : CTw c 90 (.ref 673) [.lst (ns.map .int)] [] (.bool true) := by
  refine CTw_def (n := 89) (f := 673) (by rfl) rfl rfl (by rfl) (bind1 (fun a => by rfl)) (by decide) (kindsN (by rfl)) ?_
  intro s₀ F₀ L stk
  have hz : (ns.map PV.int).length ≤ sizeLine := by rw [List.length_map, sizeLine_is]; omega
  have hsl : (scr ns).length ≤ 1000 := by
    unfold scr; split
    · decide
    · rw [List.length_take]; omega
  refine J_execs_cons <| J_mono (Φ := fun fl σ => fl = .next ∧ LawI e t σ) ?_ fun fl σ z => ?_
  · refine J_AssignTuple <| J_CallName <| J_G (v := .ref 628) (by kernel_rfl) (by rfl) <| J_callBase (by kernel_rfl) <| J_evalArgs <| J_spliced <| J_mono (Φ := fun v σ' => Has c σ' v (.lst ((scr ns).map .int)) ∧ σ'.own = none) ?ife fun v σ z => ?_
    case ife =>
      refine J_ifexp <| J_isTrueCmp <| J_name (p := .lst (ns.map .int)) (by rfl) fun v1 => J_List <| J_spliced_nil <| J_newList (ps := []) .nil (Nat.zero_le _) fun v2 => J_neL0 (Has.mem (.tail _ (.head _))) (Has.mem (.head _)) <| J_truthyB ?_
      cases ns with
      | nil => exact J_List <| J_spliced <| J_int fun t1 => J_spliced <| J_int fun t2 => J_spliced <| J_int fun t3 => J_spliced <| J_int fun t4 => J_spliced <| J_int fun t5 => J_spliced <| J_int fun t6 => J_spliced <| J_int fun t7 => J_spliced_nil <| J_newList (ps := ([5, 8, 0, 9, 4, 18, 0] : List Int).map .int) (.cons Has.int (.cons Has.int (.cons Has.int (.cons Has.int (.cons Has.int (.cons Has.int (.cons Has.int .nil))))))) (show 7 ≤ 16777216 by decide) fun v3 => ⟨Has.mem (.head _), rfl⟩
      | cons n rest => exact J_Subscript <| J_name (p := .lst ((n :: rest).map .int)) (by rfl) fun v3 => J_Slice <| J_partNone <| J_partSome <| J_int fun t1 => fun v4 => J_toL (k := 15) (xs := (n :: rest).map .int) (Has.mem (.tail _ (.head _))) (Has.mem (.head _)) hz fun v5 => ⟨by rw [show scr (n :: rest) = (n :: rest).take 15 from if_neg (by simp), List.map_take]; exact Has.mem (.head _), rfl⟩
    obtain ⟨z1, z2⟩ := z
    have hct := ct_formula c (scr ns) e (by rw [← ht]; exact P.made) hsl
    rw [← ht] at hct
    refine J_spliced <| J_int fun t1 => J_spliced_nil <| J_ct hct (by omega) (.cons z1 (.cons Has.int .nil)) fun v2 => J_unpack (xs := [e.pv, treePV t, .lst ((parse 2 (scr ns)).2.map .int)]) (Has.mem (.head _)) (by rfl) (by rfl) fun vs hvs => ?_
    match vs, hvs with
    | [u1, u2, u3], _ =>
      exact J_inOrder <| J_assignName <| J_store (p := e.pv) (Has.mem (by simp)) (by rfl) (by rw [z2]; rfl) <| J_inOrder <| J_assignName <| J_storeCell (p := treePV t) (Has.mem (by simp)) (by rfl) (by rfl) (by rfl) <| J_inOrder <| J_assignName <| J_store (p := .lst ((parse 2 (scr ns)).2.map .int)) (Has.mem (by simp)) (by rfl) (by rw [z2]; rfl) <| J_inOrder_nil ⟨rfl, z2, by rfl, by rfl⟩
  · obtain ⟨rfl, hI⟩ := z
    refine J_execs_cons <| J_mono (Φ := fun fl σ => fl = .next ∧ LawH e (rows.map fun r => value r t) σ) ?_ fun fl σ z => ?_
    · refine J_AssignComp (ρ₂ := [(("tree" : Str), treePV t)]) (g := gRow fun r => value r t) (J_G (v := .ref 649) (by kernel_rfl) (by rfl) ⟨rows.map rowPV, iterK_lst has_rows, ?el, ?sees, (show 8 ≤ 1000000 by decide), (by rw [hI.own]; rfl), fun v5 => ⟨rfl, hI.own, hI.expr, ?_⟩⟩) (by rfl) (by rfl) (by rfl)
      case el =>
        intro p hp s₁ F₃ C pin₃ v
        obtain ⟨row, hrow, rfl⟩ := List.mem_map.mp hp
        obtain ⟨x, y, z, rfl⟩ := row_mem hrow
        have hs := P.small
        exact J_assignName (J_store (p := rowPV (rowOf x y z)) (Has.mem (.head _)) (by rfl) (by rfl) (J_ok0 ⟨.bool (value (rowOf x y z) t), rfl, J_CallName <| J_G (v := .ref 635) (by kernel_rfl) (by rfl) <| J_callBase (by kernel_rfl) <| J_evalArgs <| J_spliced <| J_name (p := treePV t) (by rfl) fun v6 => J_spliced <| J_name (p := rowPV (rowOf x y z)) (by rfl) fun v7 => J_spliced_nil <| J_ct (ct_value c (rowOf x y z) t) (by omega) (.cons (Has.mem (.tail _ (.head _))) (.cons (Has.mem (.head _)) .nil)) fun v8 => Has.mem (.head _)⟩))
      case sees =>
        intro q hq
        obtain rfl := List.mem_singleton.mp hq
        exact ⟨hI.tree, fun C => .inl (by rfl), (show (some NameKind.cell : Option NameKind) ≠ some .local by decide), by rfl⟩
      rw [gRow_all]
      rfl
    · obtain ⟨rfl, hH⟩ := z
      refine J_execs_cons <| J_mono (Φ := fun fl σ => fl = .next ∧ LawF e short long cnf dnf (rows.map fun r => value r t) σ) ?_ fun fl σ z => ?_
      · refine J_AssignTuple <| J_Tuple <| J_spliced <| J_CallName <| J_G (v := .ref 555) (by kernel_rfl) (by rfl) <| J_callBase (by kernel_rfl) <| J_evalArgs <| J_spliced <| J_name hH.expr fun v1 => J_spliced_nil <| J_ctW (ct_toNnf c e true short P.s (.inr (.inl ⟨rfl, rfl, rfl⟩))) (by omega) (.cons (Has.mem (.head _)) .nil) fun v2 => J_spliced <| J_CallName <| J_G (v := .ref 555) (by kernel_rfl) (by rfl) <| J_callBase (by kernel_rfl) <| J_evalArgs <| J_spliced <| J_name hH.expr fun v3 => J_spliced <| J_bool <| J_spliced_nil <| J_ctW (ct_toNnf c e false long P.l (.inl ⟨rfl, rfl⟩)) (by omega) (.cons (Has.mem (.head _)) (.cons Has.bool .nil)) fun v4 => J_spliced <| J_CallName <| J_G (v := .ref 563) (by kernel_rfl) (by rfl) <| J_callBase (by kernel_rfl) <| J_evalArgs <| J_spliced <| J_name hH.expr fun v5 => J_spliced_nil <| J_ctW (ct_toCnf c e cnf P.cn) (by omega) (.cons (Has.mem (.head _)) .nil) fun v6 => J_spliced <| J_CallName <| J_G (v := .ref 571) (by kernel_rfl) (by rfl) <| J_callBase (by kernel_rfl) <| J_evalArgs <| J_spliced <| J_name hH.expr fun v7 => J_spliced_nil <| J_ctW (ct_toDnf c e dnf P.dn) (by omega) (.cons (Has.mem (.head _)) .nil) fun v8 => J_spliced_nil <| J_newTuple (ps := [short.pv, long.pv, cnf.pv, dnf.pv]) (.cons (Has.mem (by simp)) (.cons (Has.mem (by simp)) (.cons (Has.mem (by simp)) (.cons (Has.mem (.head _)) .nil)))) (show 4 ≤ 16777216 by decide) fun v9 => J_unpack (xs := [short.pv, long.pv, cnf.pv, dnf.pv]) (Has.mem (.head _)) (by rfl) (by rfl) fun vs hvs => ?_
        match vs, hvs with
        | [u1, u2, u3, u4], _ =>
          exact J_inOrder <| J_assignName <| J_store (p := short.pv) (Has.mem (by simp)) (by rfl) (by rw [hH.own]; rfl) <| J_inOrder <| J_assignName <| J_store (p := long.pv) (Has.mem (by simp)) (by rfl) (by rw [hH.own]; rfl) <| J_inOrder <| J_assignName <| J_store (p := cnf.pv) (Has.mem (by simp)) (by rfl) (by rw [hH.own]; rfl) <| J_inOrder <| J_assignName <| J_store (p := dnf.pv) (Has.mem (by simp)) (by rfl) (by rw [hH.own]; rfl) <| J_inOrder_nil ⟨rfl, hH.own, hH.expr, hH.holds, by rfl, by rfl, by rfl, by rfl⟩
      · obtain ⟨rfl, hF⟩ := z
        refine J_execs_cons <| J_mono (Φ := fun fl σ => fl = .next ∧ LawF e short long cnf dnf (rows.map fun r => value r t) σ) ?_ fun fl σ z => ?_
        · refine J_for <| J_Tuple <| J_spliced <| J_name hF.expr fun v1 => J_spliced <| J_name hF.short fun v2 => J_spliced <| J_name hF.long fun v3 => J_spliced <| J_name hF.cnf fun v4 => J_spliced <| J_name hF.dnf fun v5 => J_spliced <| J_CallName <| J_G (v := .ref 607) (by kernel_rfl) (by rfl) <| J_callBase (by kernel_rfl) <| J_evalArgs <| J_spliced <| J_name hF.expr fun v6 => J_spliced_nil <| J_ctW (ct_elim c e long P.l) (by omega) (.cons (Has.mem (.head _)) .nil) fun v7 => J_spliced_nil <| J_newTuple (ps := [e, short, long, cnf, dnf, long].map Ex.pv) (.cons (Has.mem (by simp)) (.cons (Has.mem (by simp)) (.cons (Has.mem (by simp)) (.cons (Has.mem (by simp)) (.cons (Has.mem (by simp)) (.cons (Has.mem (.head _)) .nil)))))) (show 6 ≤ 16777216 by decide) fun v8 => ⟨[e, short, long, cnf, dnf, long].map Ex.pv, iterOf_tup (Has.mem (.head _)), ?_⟩
          refine ForJ_ind (fun ps σ => (∀ p ∈ ps, ∃ x ∈ [e, short, long, cnf, dnf], p = x.pv) ∧ LawF e short long cnf dnf (rows.map fun r => value r t) σ) ?_ ?_ _ _ ⟨fun p hp => ?_, hF.own, hF.expr, hF.holds, hF.short, hF.long, hF.cnf, hF.dnf⟩
          · rintro σ ⟨_, hF⟩
            exact J_execs_nil ⟨rfl, hF⟩
          · rintro p ps σ ⟨hps, hF⟩ v F₁ pin
            obtain ⟨x, hx, rfl⟩ := hps _ (.head _)
            obtain ⟨hwf, htold⟩ := P.told x hx
            refine J_assignName <| J_storeCell (p := x.pv) (Has.mem (.head _)) (by rfl) (by rfl) (by rfl) <| J_execs_cons <| J_if <| J_isTrueCmp <| J_ListComp (ρ₂ := [(("form" : Str), x.pv)]) (g := gRow fun r => toldE r x) (J_G (v := .ref 649) (by kernel_rfl) (by rfl) ⟨rows.map rowPV, iterK_lst has_rows, ?el, ?sees, (show 8 ≤ 1000000 by decide), fun w1 => J_name hF.holds fun w2 => ?_⟩) (by rfl)
            case el =>
              intro p hp s₁ F₃ C pin₃ v
              obtain ⟨row, hrow, rfl⟩ := List.mem_map.mp hp
              obtain ⟨a, b, d, rfl⟩ := row_mem hrow
              exact J_assignName (J_store (p := rowPV (rowOf a b d)) (Has.mem (.head _)) (by rfl) (by rfl) (J_ok0 ⟨.bool (toldE (rowOf a b d) x), rfl, J_CallName <| J_G (v := .ref 640) (by kernel_rfl) (by rfl) <| J_callBase (by kernel_rfl) <| J_evalArgs <| J_spliced <| J_name (p := x.pv) (by rfl) fun v6 => J_spliced <| J_name (p := rowPV (rowOf a b d)) (by rfl) fun v7 => J_spliced_nil <| J_ct (ct_toldE c (rowOf a b d) x hwf) (by omega) (.cons (Has.mem (.tail _ (.head _))) (.cons (Has.mem (.head _)) .nil)) fun v8 => Has.mem (.head _)⟩))
            case sees =>
              intro q hq
              obtain rfl := List.mem_singleton.mp hq
              exact ⟨by rfl, fun C => .inl (by rfl), (show (some NameKind.cell : Option NameKind) ≠ some .local by decide), by rfl⟩
            rw [gRow_all]
            refine J_neBools (xs := rows.map fun r => toldE r x) (ys := rows.map fun r => value r t) (Has.mem (.tail _ (.head _))) (Has.mem (.head _)) (by rw [List.length_map, List.length_map]) <| J_truthyB ?_
            rw [htold, beq_self_eq_true]
            exact J_execs_nil <| J_execs_nil ⟨fun p hp => hps p (.tail _ hp), hF.own, hF.expr, hF.holds, hF.short, hF.long, hF.cnf, hF.dnf⟩
          · obtain ⟨x, hx, rfl⟩ := List.mem_map.mp hp
            refine ⟨x, ?_, rfl⟩
            simp at hx ⊢
            rcases hx with h | h | h | h | h | h <;> simp [h]
        · obtain ⟨rfl, hF⟩ := z
          refine J_execs_cons <| J_if <| J_isTrueAnd <| J_allOr <| J_not <| J_isTrue <| J_CallName <| J_G (v := .ref 661) (by kernel_rfl) (by rfl) <| J_callBase (by kernel_rfl) <| J_evalArgs <| J_spliced <| J_name hF.short fun w1 => J_spliced_nil <| J_ct (ct_plainE c short (P.told short (by simp)).1 P.plainS) (by omega) (.cons (Has.mem (.head _)) .nil) fun w2 => J_known (w := .bool true) (Has.bv (Has.mem (.head _))) <| J_truthyB <| J_allOr <| J_not <| J_isTrue <| J_CallName <| J_G (v := .ref 661) (by kernel_rfl) (by rfl) <| J_callBase (by kernel_rfl) <| J_evalArgs <| J_spliced <| J_name hF.long fun w1 => J_spliced_nil <| J_ct (ct_plainE c long (P.told long (by simp)).1 P.plainG) (by omega) (.cons (Has.mem (.head _)) .nil) fun w2 => J_known (w := .bool true) (Has.bv (Has.mem (.head _))) <| J_truthyB <| J_allOr <| J_not <| J_isTrue <| J_CallName <| J_G (v := .ref 579) (by kernel_rfl) (by rfl) <| J_callBase (by kernel_rfl) <| J_evalArgs <| J_spliced <| J_name hF.short fun w1 => J_spliced_nil <| J_ct (ct_isNnf c short true true P.nnfS (.inr ⟨rfl, rfl⟩)) (by omega) (.cons (Has.mem (.head _)) .nil) fun w2 => J_known (w := .bool true) (Has.bv (Has.mem (.head _))) <| J_truthyB <| J_allOr <| J_not <| J_isTrue <| J_CallName <| J_G (v := .ref 579) (by kernel_rfl) (by rfl) <| J_callBase (by kernel_rfl) <| J_evalArgs <| J_spliced <| J_name hF.long fun w1 => J_spliced <| J_bool <| J_spliced_nil <| J_ct (ct_isNnf c long false true P.nnfL (.inl rfl)) (by omega) (.cons (Has.mem (.head _)) (.cons Has.bool .nil)) fun w2 => J_known (w := .bool true) (Has.bv (Has.mem (.head _))) <| J_truthyB <| J_allOr <| J_not <| J_isTrue <| J_CallName <| J_G (v := .ref 586) (by kernel_rfl) (by rfl) <| J_callBase (by kernel_rfl) <| J_evalArgs <| J_spliced <| J_name hF.cnf fun w1 => J_spliced_nil <| J_ct (ct_isCnf c cnf true P.cf) (by omega) (.cons (Has.mem (.head _)) .nil) fun w2 => J_known (w := .bool true) (Has.bv (Has.mem (.head _))) <| J_truthyB <| J_allOr <| J_not <| J_isTrue <| J_CallName <| J_G (v := .ref 593) (by kernel_rfl) (by rfl) <| J_callBase (by kernel_rfl) <| J_evalArgs <| J_spliced <| J_name hF.dnf fun w1 => J_spliced_nil <| J_ct (ct_isDnf c dnf true P.df) (by omega) (.cons (Has.mem (.head _)) .nil) fun w2 => J_known (w := .bool true) (Has.bv (Has.mem (.head _))) <| J_truthyB <| J_allOr_nil ?_
          refine J_execs_nil <| J_execs_cons <| J_if <| J_isTrueAnd <| J_allOr <| J_isTrueCmp <| J_ListComp2 (J_CallName <| J_G (v := .ref 668) (by kernel_rfl) (by rfl) <| J_callBase (by kernel_rfl) <| J_evalArgs <| J_spliced <| J_name hF.cnf fun w1 => J_spliced <| J_str fun t1 => J_spliced_nil <| J_ct (ct_parts c cnf .and "and" (.inl ⟨rfl, rfl⟩)) (by omega) (.cons (Has.mem (.head _)) (.cons Has.str .nil)) fun w2 => ⟨(parts .and cnf).map Ex.pv, iterK_tup (Has.mem (.head _)), ?el1, fun w3 => ?_⟩) (by rfl)
          case el1 =>
            intro p hp s₁ F₁ C pin σ' hσ' v
            obtain ⟨x, hx, rfl⟩ := List.mem_map.mp hp
            refine J_assignName (J_store (p := x.pv) (Has.mem (.head _)) (by rfl) (by rw [show (σ'.push v x.pv).own = none from hσ']; rfl) <| J_CallName <| J_G (v := .ref 668) (by kernel_rfl) (by rfl) <| J_callBase (by kernel_rfl) <| J_evalArgs <| J_spliced <| J_name (p := x.pv) (by rfl) fun w1 => J_spliced <| J_str fun t1 => J_spliced_nil <| J_ct (ct_parts c x .or "or" (.inr ⟨rfl, rfl⟩)) (by omega) (.cons (Has.mem (.head _)) (.cons Has.str .nil)) fun w2 => ⟨(parts .or x).map Ex.pv, iterOf_tup (Has.mem (.head _)), hσ', ?_⟩)
            intro q hq σ₂ hσ₂ v₂ F₂ pin₂
            obtain ⟨y, hy, rfl⟩ := List.mem_map.mp hq
            have hlit : litL y = true := List.all_eq_true.mp (List.all_eq_true.mp P.pc x hx) y hy
            have hct := ct_literal c y (fun e => by rw [e] at hlit; cases hlit)
            rw [hlit] at hct
            exact J_assignName (J_store (p := y.pv) (Has.mem (.head _)) (by rfl) (by rw [show (σ₂.push v₂ y.pv).own = none from hσ₂]; rfl) <| J_ok1 <| J_not <| J_isTrue <| J_CallName <| J_G (v := .ref 656) (by kernel_rfl) (by rfl) <| J_callBase (by kernel_rfl) <| J_evalArgs <| J_spliced <| J_name (p := y.pv) (by rfl) fun w1 => J_spliced_nil <| J_ct hct (by omega) (.cons (Has.mem (.head _)) .nil) fun w2 => J_known (w := .bool true) (Has.bv (Has.mem (.head _))) <| J_truthyB ⟨rfl, hσ₂⟩)
          refine J_List <| J_spliced_nil <| J_newList (ps := []) .nil (Nat.zero_le _) fun w4 => J_neL0 (Has.mem (.tail _ (.head _))) (Has.mem (.head _)) <| J_truthyB ?_
          refine J_allOr <| J_isTrueCmp <| J_ListComp2 (J_CallName <| J_G (v := .ref 668) (by kernel_rfl) (by rfl) <| J_callBase (by kernel_rfl) <| J_evalArgs <| J_spliced <| J_name hF.dnf fun w1 => J_spliced <| J_str fun t1 => J_spliced_nil <| J_ct (ct_parts c dnf .or "or" (.inr ⟨rfl, rfl⟩)) (by omega) (.cons (Has.mem (.head _)) (.cons Has.str .nil)) fun w2 => ⟨(parts .or dnf).map Ex.pv, iterK_tup (Has.mem (.head _)), ?el2, fun w3 => ?_⟩) (by rfl)
          case el2 =>
            intro p hp s₁ F₁ C pin σ' hσ' v
            obtain ⟨x, hx, rfl⟩ := List.mem_map.mp hp
            refine J_assignName (J_store (p := x.pv) (Has.mem (.head _)) (by rfl) (by rw [show (σ'.push v x.pv).own = none from hσ']; rfl) <| J_CallName <| J_G (v := .ref 668) (by kernel_rfl) (by rfl) <| J_callBase (by kernel_rfl) <| J_evalArgs <| J_spliced <| J_name (p := x.pv) (by rfl) fun w1 => J_spliced <| J_str fun t1 => J_spliced_nil <| J_ct (ct_parts c x .and "and" (.inl ⟨rfl, rfl⟩)) (by omega) (.cons (Has.mem (.head _)) (.cons Has.str .nil)) fun w2 => ⟨(parts .and x).map Ex.pv, iterOf_tup (Has.mem (.head _)), hσ', ?_⟩)
            intro q hq σ₂ hσ₂ v₂ F₂ pin₂
            obtain ⟨y, hy, rfl⟩ := List.mem_map.mp hq
            have hlit : litL y = true := List.all_eq_true.mp (List.all_eq_true.mp P.pd x hx) y hy
            have hct := ct_literal c y (fun e => by rw [e] at hlit; cases hlit)
            rw [hlit] at hct
            exact J_assignName (J_store (p := y.pv) (Has.mem (.head _)) (by rfl) (by rw [show (σ₂.push v₂ y.pv).own = none from hσ₂]; rfl) <| J_ok1 <| J_not <| J_isTrue <| J_CallName <| J_G (v := .ref 656) (by kernel_rfl) (by rfl) <| J_callBase (by kernel_rfl) <| J_evalArgs <| J_spliced <| J_name (p := y.pv) (by rfl) fun w1 => J_spliced_nil <| J_ct hct (by omega) (.cons (Has.mem (.head _)) .nil) fun w2 => J_known (w := .bool true) (Has.bv (Has.mem (.head _))) <| J_truthyB ⟨rfl, hσ₂⟩)
          refine J_List <| J_spliced_nil <| J_newList (ps := []) .nil (Nat.zero_le _) fun w8 => J_neL0 (Has.mem (.tail _ (.head _))) (Has.mem (.head _)) <| J_truthyB ?_
          refine J_allOr_nil <| J_execs_nil <| J_execs_cons <| J_return <| J_BoolOp <| J_boolOpAnd <| J_Compare <| J_CallName <| J_G (v := .ref 563) (by kernel_rfl) (by rfl) <| J_callBase (by kernel_rfl) <| J_evalArgs <| J_spliced <| J_name hF.cnf fun w1 => J_spliced_nil <| J_ctW (ct_toCnf c cnf cnf (normal_self P.cf)) (by omega) (.cons (Has.mem (.head _)) .nil) fun w2 => J_name hF.cnf fun w3 => J_eqE (x := cnf) (y := cnf) (by omega) (Has.mem (.tail _ (.head _))) (Has.mem (.head _)) ?_
          rw [ex_refl]
          refine J_truthyB <| J_boolOpAnd <| J_Compare <| J_CallName <| J_G (v := .ref 571) (by kernel_rfl) (by rfl) <| J_callBase (by kernel_rfl) <| J_evalArgs <| J_spliced <| J_name hF.dnf fun w1 => J_spliced_nil <| J_ctW (ct_toDnf c dnf dnf (normal_self P.df)) (by omega) (.cons (Has.mem (.head _)) .nil) fun w2 => J_name hF.dnf fun w3 => J_eqE (x := dnf) (y := dnf) (by omega) (Has.mem (.tail _ (.head _))) (Has.mem (.head _)) ?_
          rw [ex_refl]
          refine J_truthyB <| J_boolOp1 <| J_Compare <| J_CallName <| J_G (v := .ref 555) (by kernel_rfl) (by rfl) <| J_callBase (by kernel_rfl) <| J_evalArgs <| J_spliced <| J_name hF.short fun w1 => J_spliced_nil <| J_ctW (ct_toNnf c short true short (nnfTop_self P.nnfS) (.inr (.inl ⟨rfl, rfl, rfl⟩))) (by omega) (.cons (Has.mem (.head _)) .nil) fun w2 => J_name hF.short fun w3 => J_eqE (x := short) (y := short) (by omega) (Has.mem (.tail _ (.head _))) (Has.mem (.head _)) ?_
          rw [ex_refl]
          exact Has.bool
end Mine
end

-- P4
section
set_option maxRecDepth 1000000
namespace Mine
abbrev tvE (e : Ex) : List Bool := rows.map fun r => toldE r e
/-- the law, of a formula whose values are those -/
def okE (e : Ex) (bs : List Bool) : Bool :=
  match nnfTop true e, nnfTop false e, normal .and .or e, normal .or .and e with
  | some short, some long, some cnf, some dnf =>
    [e, short, long, cnf, dnf].all (fun x => wfE x && (tvE x == bs)) && plainL 8 short && plainL 8 long && (isNnf true short == some true) && (isNnf false long == some true) && (isForm .and .or cnf == some true) && (isForm .or .and dnf == some true)
      && partsOk .and .or cnf && partsOk .or .and dnf
  | _, _, _, _ => false
theorem okE_law {t : Tr} {e : Ex} {bs : List Bool} (hm : mk t = some e) (hd : dV t ≤ 20) (hb : bs = rows.map fun r => value r t) (h : okE e bs = true) : ∃ e short long cnf dnf, LawP t e short long cnf dnf := by
  unfold okE at h
  split at h
  · rename_i short long cnf dnf h1 h2 h3 h4
    simp only [Bool.and_eq_true, beq_iff_eq, List.all_eq_true] at h
    obtain ⟨⟨⟨⟨⟨⟨⟨⟨a1, a2⟩, a3⟩, a4⟩, a5⟩, a6⟩, a7⟩, a8⟩, a9⟩ := h
    exact ⟨e, short, long, cnf, dnf, hm, hd, h1, h2, h3, h4, fun x hx => ⟨(a1 x hx).1, (a1 x hx).2.trans hb⟩, a2, a3, a4, a5, a6, a7, a8, a9⟩
  · cases h
end Mine
end

-- P5
section
set_option maxRecDepth 1000000
namespace Mine
def E1 : List Ex := [.f (.sym 0), .f (.sym 1), .f (.sym 2), .f (.node .not [.sym 0]), .f (.node .not [.sym 1]), .f (.node .not [.sym 2]), .f (.node .and [.sym 0, .sym 1]), .f (.node .and [.sym 0, .sym 2]), .f (.node .and [.sym 1, .sym 2]), .f (.node .or [.sym 0, .sym 1]), .f (.node .or [.sym 0, .sym 2]), .f (.node .or [.sym 1, .sym 2]), .b false, .f (.node .xor [.sym 0, .sym 1]), .f (.node .xor [.sym 0, .sym 2]), .f (.node .xor [.sym 1, .sym 2]), .b true, .f (.node .imp [.sym 0, .sym 1]), .f (.node .imp [.sym 0, .sym 2]), .f (.node .imp [.sym 1, .sym 0]), .f (.node .imp [.sym 1, .sym 2]), .f (.node .imp [.sym 2, .sym 0]), .f (.node .imp [.sym 2, .sym 1]), .f (.node .eqv [.sym 0, .sym 1]), .f (.node .eqv [.sym 0, .sym 2]), .f (.node .eqv [.sym 1, .sym 2])]
def opB : Kd → Bool → Bool → Bool
  | .and => fun a b => a && b
  | _ => fun a b => a || b
/-- both ways round -/
def pairOk (k : Kd) (x y : Ex) : Bool := match latE k [x, y], latE k [y, x] with
  | some e, some e' => Ex.eq e e' && okE e (rows.map fun r => opB k (toldE r x) (toldE r y))
  | _, _ => false
def rowOk (k : Kd) (i : Nat) : Bool := (E1.drop i).all (pairOk k (E1.getD i (.b true)))
end Mine
end

-- P6
section
set_option maxRecDepth 1000000
namespace Mine
theorem row_and_0 : rowOk .and 0 = true := by decide +kernel
theorem row_and_1 : rowOk .and 1 = true := by decide +kernel
theorem row_and_2 : rowOk .and 2 = true := by decide +kernel
theorem row_and_3 : rowOk .and 3 = true := by decide +kernel
theorem row_and_4 : rowOk .and 4 = true := by decide +kernel
theorem row_and_5 : rowOk .and 5 = true := by decide +kernel
theorem row_and_6 : rowOk .and 6 = true := by decide +kernel
theorem row_and_7 : rowOk .and 7 = true := by decide +kernel
theorem row_and_8 : rowOk .and 8 = true := by decide +kernel
theorem row_and_9 : rowOk .and 9 = true := by decide +kernel
theorem row_and_10 : rowOk .and 10 = true := by decide +kernel
theorem row_and_11 : rowOk .and 11 = true := by decide +kernel
theorem row_and_12 : rowOk .and 12 = true := by decide +kernel
theorem row_and_13 : rowOk .and 13 = true := by decide +kernel
theorem row_and_14 : rowOk .and 14 = true := by decide +kernel
theorem row_and_15 : rowOk .and 15 = true := by decide +kernel
theorem row_and_16 : rowOk .and 16 = true := by decide +kernel
theorem row_and_17 : rowOk .and 17 = true := by decide +kernel
theorem row_and_18 : rowOk .and 18 = true := by decide +kernel
theorem row_and_19 : rowOk .and 19 = true := by decide +kernel
theorem row_and_20 : rowOk .and 20 = true := by decide +kernel
theorem row_and_21 : rowOk .and 21 = true := by decide +kernel
theorem row_and_22 : rowOk .and 22 = true := by decide +kernel
theorem row_and_23 : rowOk .and 23 = true := by decide +kernel
theorem row_and_24 : rowOk .and 24 = true := by decide +kernel
theorem row_and_25 : rowOk .and 25 = true := by decide +kernel
theorem row_or_0 : rowOk .or 0 = true := by decide +kernel
theorem row_or_1 : rowOk .or 1 = true := by decide +kernel
theorem row_or_2 : rowOk .or 2 = true := by decide +kernel
theorem row_or_3 : rowOk .or 3 = true := by decide +kernel
theorem row_or_4 : rowOk .or 4 = true := by decide +kernel
theorem row_or_5 : rowOk .or 5 = true := by decide +kernel
theorem row_or_6 : rowOk .or 6 = true := by decide +kernel
theorem row_or_7 : rowOk .or 7 = true := by decide +kernel
theorem row_or_8 : rowOk .or 8 = true := by decide +kernel
theorem row_or_9 : rowOk .or 9 = true := by decide +kernel
theorem row_or_10 : rowOk .or 10 = true := by decide +kernel
theorem row_or_11 : rowOk .or 11 = true := by decide +kernel
theorem row_or_12 : rowOk .or 12 = true := by decide +kernel
theorem row_or_13 : rowOk .or 13 = true := by decide +kernel
theorem row_or_14 : rowOk .or 14 = true := by decide +kernel
theorem row_or_15 : rowOk .or 15 = true := by decide +kernel
theorem row_or_16 : rowOk .or 16 = true := by decide +kernel
theorem row_or_17 : rowOk .or 17 = true := by decide +kernel
theorem row_or_18 : rowOk .or 18 = true := by decide +kernel
theorem row_or_19 : rowOk .or 19 = true := by decide +kernel
theorem row_or_20 : rowOk .or 20 = true := by decide +kernel
theorem row_or_21 : rowOk .or 21 = true := by decide +kernel
theorem row_or_22 : rowOk .or 22 = true := by decide +kernel
theorem row_or_23 : rowOk .or 23 = true := by decide +kernel
theorem row_or_24 : rowOk .or 24 = true := by decide +kernel
theorem row_or_25 : rowOk .or 25 = true := by decide +kernel
theorem rows_ok (k : Kd) (hk : k = .and ∨ k = .or) : ∀ i, i < 26 → rowOk k i = true := by
  intro i hi
  rcases hk with rfl | rfl
  · match i, hi with
    | 0, _ => exact row_and_0
    | 1, _ => exact row_and_1
    | 2, _ => exact row_and_2
    | 3, _ => exact row_and_3
    | 4, _ => exact row_and_4
    | 5, _ => exact row_and_5
    | 6, _ => exact row_and_6
    | 7, _ => exact row_and_7
    | 8, _ => exact row_and_8
    | 9, _ => exact row_and_9
    | 10, _ => exact row_and_10
    | 11, _ => exact row_and_11
    | 12, _ => exact row_and_12
    | 13, _ => exact row_and_13
    | 14, _ => exact row_and_14
    | 15, _ => exact row_and_15
    | 16, _ => exact row_and_16
    | 17, _ => exact row_and_17
    | 18, _ => exact row_and_18
    | 19, _ => exact row_and_19
    | 20, _ => exact row_and_20
    | 21, _ => exact row_and_21
    | 22, _ => exact row_and_22
    | 23, _ => exact row_and_23
    | 24, _ => exact row_and_24
    | 25, _ => exact row_and_25
    | n + 26, h => exact absurd h (by omega)
  · match i, hi with
    | 0, _ => exact row_or_0
    | 1, _ => exact row_or_1
    | 2, _ => exact row_or_2
    | 3, _ => exact row_or_3
    | 4, _ => exact row_or_4
    | 5, _ => exact row_or_5
    | 6, _ => exact row_or_6
    | 7, _ => exact row_or_7
    | 8, _ => exact row_or_8
    | 9, _ => exact row_or_9
    | 10, _ => exact row_or_10
    | 11, _ => exact row_or_11
    | 12, _ => exact row_or_12
    | 13, _ => exact row_or_13
    | 14, _ => exact row_or_14
    | 15, _ => exact row_or_15
    | 16, _ => exact row_or_16
    | 17, _ => exact row_or_17
    | 18, _ => exact row_or_18
    | 19, _ => exact row_or_19
    | 20, _ => exact row_or_20
    | 21, _ => exact row_or_21
    | 22, _ => exact row_or_22
    | 23, _ => exact row_or_23
    | 24, _ => exact row_or_24
    | 25, _ => exact row_or_25
    | n + 26, h => exact absurd h (by omega)
end Mine
end

-- P7
section
set_option maxRecDepth 1000000
namespace Mine
theorem exEq_iff {x y : Ex} : Ex.eq x y = true → x = y := by
  intro h
  cases x with
  | b u => cases y with
    | b v => cases u <;> cases v <;> first | rfl | cases h
    | f g => cases h
  | f f => cases y with
    | b v => cases h
    | f g => rw [beq_iff.mp h]
theorem opB_comm (k : Kd) (a b : Bool) : opB k a b = opB k b a := by
  cases k <;> cases a <;> cases b <;> rfl
theorem pair_ok {k : Kd} (hk : k = .and ∨ k = .or) {x y : Ex} (hx : x ∈ E1) (hy : y ∈ E1) : ∃ e, latE k [x, y] = some e ∧ okE e (rows.map fun r => opB k (toldE r x) (toldE r y)) = true := by
  have get : ∀ {x y : Ex} {i j : Nat}, i ≤ j → E1[i]? = some x → E1[j]? = some y → pairOk k x y = true := fun {x y i j} hij hi hj => by
    have hlt : i < 26 := (List.getElem?_eq_some_iff.mp hi).1
    have h := rows_ok k hk i hlt
    unfold rowOk at h
    have e1 : E1.getD i (.b true) = x := by rw [List.getD_eq_getElem?_getD, hi]; rfl
    rw [e1] at h
    refine List.all_eq_true.mp h y (List.mem_iff_getElem?.mpr ⟨j - i, ?_⟩)
    rw [List.getElem?_drop, show i + (j - i) = j by omega]
    exact hj
  obtain ⟨i, hi⟩ := List.mem_iff_getElem?.mp hx
  obtain ⟨j, hj⟩ := List.mem_iff_getElem?.mp hy
  rcases Nat.le_total i j with h | h
  · have p := get h hi hj
    unfold pairOk at p
    split at p
    · rename_i e e' h1 h2
      rw [Bool.and_eq_true] at p
      exact ⟨e, h1, p.2⟩
    · cases p
  · have p := get h hj hi
    unfold pairOk at p
    split at p
    · rename_i e e' h1 h2
      rw [Bool.and_eq_true] at p
      obtain rfl := exEq_iff p.1
      refine ⟨e, h2, ?_⟩
      rw [show (rows.map fun r => opB k (toldE r x) (toldE r y)) = rows.map fun r => opB k (toldE r y) (toldE r x) from List.map_congr_left fun r _ => opB_comm k _ _]
      exact p.2
    · cases p
/-- each by itself, and its opposite -/
def oneOk (x : Ex) : Bool := okE x (tvE x) && (match notE x with
  | some e => okE e (rows.map fun r => !toldE r x)
  | none => false)
theorem ones_ok : E1.all oneOk = true := by decide +kernel
inductive D1T : Tr → Prop
  | var (i) : D1T (.var i)
  | not (i) : D1T (.not (.var i))
  | bin (k i j) : 4 ≤ k → k ≤ 8 → D1T (.bin k (.var i) (.var j))
def d1ok (t : Tr) : Bool := match mk t with
  | some e => (E1.any fun x => Ex.eq x e) && (tvE e == rows.map fun r => value r t) && decide (dV t ≤ 1)
  | none => false
def fs : List (Fin 3) := [0, 1, 2]
theorem fs_mem (i : Fin 3) : i ∈ fs := by
  match i with
  | 0 => exact .head _
  | 1 => exact .tail _ (.head _)
  | 2 => exact .tail _ (.tail _ (.head _))
theorem d1_var : (fs.all fun i => d1ok (.var i)) = true := by decide +kernel
theorem d1_not : (fs.all fun i => d1ok (.not (.var i))) = true := by decide +kernel
theorem d1_bin : ([4, 5, 6, 7, 8].all fun k => fs.all fun i => fs.all fun j => d1ok (.bin k (.var i) (.var j))) = true := by decide +kernel
theorem d1_ok {t : Tr} (h : D1T t) : ∃ e ∈ E1, mk t = some e ∧ (rows.map fun r => value r t) = tvE e ∧ dV t ≤ 1 := by
  have h' : d1ok t = true := by
    cases h with
    | var i => exact List.all_eq_true.mp d1_var i (fs_mem i)
    | not i => exact List.all_eq_true.mp d1_not i (fs_mem i)
    | bin k i j h1 h2 =>
      have hk : k ∈ [4, 5, 6, 7, 8] := by simp; omega
      exact List.all_eq_true.mp (List.all_eq_true.mp (List.all_eq_true.mp d1_bin k hk) i (fs_mem i)) j (fs_mem j)
  unfold d1ok at h'
  split at h'
  · rename_i e he
    rw [Bool.and_eq_true, Bool.and_eq_true] at h'
    obtain ⟨⟨h1, h2⟩, h3⟩ := h'
    obtain ⟨x, hx, hxe⟩ := List.any_eq_true.mp h1
    obtain rfl := exEq_iff hxe
    exact ⟨x, hx, he, (eq_of_beq h2).symm, of_decide_eq_true h3⟩
  · cases h'
theorem d1_law {t : Tr} (h : D1T t) : ∃ e short long cnf dnf, LawP t e short long cnf dnf := by
  obtain ⟨e, he, hm, hv, hd⟩ := d1_ok h
  have ho := List.all_eq_true.mp ones_ok e he
  unfold oneOk at ho
  rw [Bool.and_eq_true] at ho
  exact okE_law hm (by omega) hv.symm ho.1
theorem not_law {t : Tr} (h : D1T t) : ∃ e short long cnf dnf, LawP (.not t) e short long cnf dnf := by
  obtain ⟨e, he, hm, hv, hd⟩ := d1_ok h
  have ho := List.all_eq_true.mp ones_ok e he
  unfold oneOk at ho
  rw [Bool.and_eq_true] at ho
  obtain ⟨_, ho⟩ := ho
  split at ho
  · rename_i e' he'
    refine okE_law (bs := rows.map fun r => !toldE r e) (t := .not t) (by show (mk t).bind notE = _; rw [hm]; exact he') (by show dV t + 1 ≤ 20; omega) ?_ ho
    have : ∀ r ∈ rows, toldE r e = value r t := fun r hr => (List.map_inj_left.mp hv r hr).symm
    exact List.map_congr_left fun r hr => by rw [this r hr]; rfl
  · cases ho
theorem bin_law {k : Nat} {kd : Kd} (hk : (k = 4 ∧ kd = .and) ∨ (k = 5 ∧ kd = .or)) {a b : Tr} (ha : D1T a) (hb : D1T b) : ∃ e short long cnf dnf, LawP (.bin k a b) e short long cnf dnf := by
  obtain ⟨x, hx, hmx, hvx, hdx⟩ := d1_ok ha
  obtain ⟨y, hy, hmy, hvy, hdy⟩ := d1_ok hb
  obtain ⟨e, he, ho⟩ := pair_ok (k := kd) (by rcases hk with ⟨_, h⟩ | ⟨_, h⟩; exact .inl h; exact .inr h) hx hy
  have tx : ∀ r ∈ rows, toldE r x = value r a := fun r hr => (List.map_inj_left.mp hvx r hr).symm
  have ty : ∀ r ∈ rows, toldE r y = value r b := fun r hr => (List.map_inj_left.mp hvy r hr).symm
  refine okE_law (bs := _) (t := .bin k a b) (e := e) ?_ (by show dV a + dV b + 1 ≤ 20; omega) ?_ ho
  · show (mk a).bind (fun x => (mk b).bind fun y => _) = _
    rw [hmx, Option.bind_some, hmy, Option.bind_some]
    rcases hk with ⟨rfl, rfl⟩ | ⟨rfl, rfl⟩ <;> exact he
  · refine List.map_congr_left fun r hr => ?_
    rw [tx r hr, ty r hr]
    rcases hk with ⟨rfl, rfl⟩ | ⟨rfl, rfl⟩ <;> rfl
end Mine
end

-- P8
section
set_option maxRecDepth 1000000
namespace Mine
theorem parse0_var (ns : List Int) : ∃ i, (parse 0 ns).1 = .var i := by
  cases ns with
  | nil => exact ⟨_, rfl⟩
  | cons n r => exact ⟨_, rfl⟩
theorem mod_lt (n : Int) : 0 ≤ n.fmod 9 ∧ n.fmod 9 < 9 := by rw [fmod9]; omega
theorem parse1_d1 (ns : List Int) : D1T (parse 1 ns).1 := by
  cases ns with
  | nil => exact .var 0
  | cons n r =>
    by_cases h3 : n.fmod 9 < 3
    · rw [parse_leaf (.inl h3)]; exact .var _
    · have hs : sub9 0 n = 0 := by unfold sub9; split <;> rfl
      have hm := mod_lt n
      by_cases h4 : n.fmod 9 = 3
      · rw [parse_one h4, hs]
        obtain ⟨i, hi⟩ := parse0_var r
        rw [hi]; exact .not i
      · rw [parse_two (by omega), hs]
        obtain ⟨i, hi⟩ := parse0_var r
        obtain ⟨j, hj⟩ := parse0_var (parse 0 r).2
        rw [hi, hj]
        exact .bin _ i j (by omega) (by omega)
theorem plain_law (ns : List Int) : ∃ e short long cnf dnf, LawP (parse 2 ns).1 e short long cnf dnf := by
  cases ns with
  | nil => exact d1_law (.var 0)
  | cons n r =>
    by_cases h3 : n.fmod 9 < 3
    · rw [parse_leaf (.inl h3)]; exact d1_law (.var _)
    · have hm := mod_lt n
      by_cases h4 : n.fmod 9 = 3
      · rw [parse_one h4]
        have hs : sub9 1 n = 1 := if_pos (by omega)
        rw [hs]
        exact not_law (parse1_d1 r)
      · rw [parse_two (by omega)]
        by_cases h6 : n.fmod 9 < 6
        · have hs : sub9 1 n = 1 := if_pos h6
          rw [hs]
          exact bin_law (kd := if n.fmod 9 = 4 then .and else .or) (by
            by_cases h : n.fmod 9 = 4
            · left; rw [h]; exact ⟨rfl, rfl⟩
            · right
              have h5 : n.fmod 9 = 5 := by omega
              rw [h5]; exact ⟨rfl, rfl⟩) (parse1_d1 _) (parse1_d1 _)
        · have hs : sub9 1 n = 0 := if_neg h6
          rw [hs]
          obtain ⟨i, hi⟩ := parse0_var r
          obtain ⟨j, hj⟩ := parse0_var (parse 0 r).2
          rw [hi, hj]
          exact d1_law (.bin _ i j (by omega) (by omega))
end Mine
end

-- Fin
open PySem PySem.W PyProof.Rows
set_option maxRecDepth 100000
set_option maxHeartbeats 8000000
namespace Mine
theorem intsAre {F : PM} : ∀ {vs : List Value} {ns : List Int}, IntsAre vs ns → Reps F (ns.map .int) vs
  | _, _, .nil => rfl
  | _, _, .cons n u h => Reps.cons ⟨u, rfl⟩ (intsAre h)
theorem room_caller : Room 90 callerA := ⟨by decide +kernel, by decide +kernel, rfl⟩
theorem frames_caller : callerA.frames = some [] := rfl
/-- the law's call, behind the top -/
theorem law_call (c : Cx) (ns : List Int) (hl : ns.length ≤ 1000) {s : Shared} (hs : s.heap = c.H) {l : Addr} {vs : List Value} (hl0 : s.heap.get? l = some (lstObj vs 0)) (hi : IntsAre vs ns) {Q : Value → Shared → Prop} {E : Value → Shared → Prop}
    (q : ∀ h' tk, (∀ b o, s.heap.get? b = some o → h'.get? b = some o) → Q (.bool true) { s with heap := h', toks := tk }) : wpAny c.M callerA (call (.ref 673) [.ref l]) Q E s := by
  obtain ⟨e, short, long, cnf, dnf, P⟩ := plain_law (scr ns)
  refine wpAny_call (codeAny_mono (ct_law c ns hl _ rfl e short long cnf dnf P [.ref l] [] callerA [] room_caller frames_caller (fun a => s.heap.get? a) s (fun a o z => by rw [hs]; exact z) (fun a o z => z) (fun env h => nomatch h) (Reps.cons ⟨l, vs, 0, rfl, hl0, intsAre hi⟩ Reps.nil) KReps.nil Q fun v F' h' tk kw ex rv => ?_) fun r s' z => ?_)
  · obtain rfl : v = .bool true := rv
    refine q h' tk fun b o z => ?_
    rcases kw b o z with w | ⟨⟨env, hm, _⟩, _⟩
    · exact w
    · cases hm
  · rcases r with e | (v | _ | _ | _) <;> first | exact z | exact z.elim
theorem post_true (a b : List WData) : PySem.Challenge.rw_dc5009_01.row.claim.post a (.bool true) b = true := by kernel_rfl
end Mine

theorem PySem.Challenge.cw_dc5009_01_holds : PySem.Challenge.rw_dc5009_01.Holds := by
  exact Mine.hdTop (by
    k_fill
    intro w s₀ s₁ mg mb G Y fa o pm cd doc dV kV ho hd hcd hD hmg hg args vals as hpre hlay hrd hwl hlo
    have KX := kIn_of Y
    refine Ground.open G ?_
    intro T B D TE TW
    wrow_args hpre hlay hrd hwl hlo
    x_fa T KX hmg
    rename_i ns _ _ _ _ _ _ _ l vs _ hL ra w1 r0 hI hr hc1 hc2
    have hg0 : s₁.heap.get? l = some (Mine.lstObj vs 0) := by
      cases w1 with
      | list hget hall =>
        obtain ⟨o, h1, h2, n, h3⟩ := hL
        rw [hget] at h1
        cases h1
        injection h3 with h4 h5
        rw [hget, h4]
    refine Mine.law_call ⟨w, s₁.heap, mg, mb, KX, T.g, T.b, T.nolimit, T.builtins⟩ ns (by omega) rfl hg0 hI fun h' tk hk => ?_
    refine ⟨.inl ⟨.bool true, .bool true, [], rfl, fun _ => rfl, .bool _, Mine.post_true _ _, fun h => by first | exact absurd h (by decide) | simp⟩, .of_keep hk, rfl, ?_⟩
    exact .of_eq hg)
