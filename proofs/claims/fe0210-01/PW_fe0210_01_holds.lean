import PyProof.Rows.All
import Wide.All
import OpenK.AllK
import Wide.FinOn
import PyProof.ExcBaseAll.ValueError
import PyProof.GenQ
import PyProof.CollectWalk
import PyProof.ListNew
import PyProof.IsiBase
import Lean
import PySem.Challenge.RW_fe0210_01
set_option maxRecDepth 100000
set_option Elab.async false
set_option linter.unusedVariables false
set_option maxHeartbeats 0
namespace Mine
open PySem PySem.W PySem.Calls PyProof.Rows

/-! ## Values read in a frozen part of the heap -/
abbrev FZ := Addr → Option Obj

inductive PV where
  | none
  | bool (b : Bool)
  | int (i : Int)
  | str (s : Str)
  | raw (v : Value)
  | tup (l : List PV)
  | lst (l : List PV)
  | inst (C : Addr) (fs : List (Str × PV))
  | rng (n : Nat)
  | slc (lo hi : Option Int)

mutual
inductive Rd (Z : FZ) : Value → PV → Prop
  | none : Rd Z .none .none
  | bool (b : Bool) : Rd Z (.bool b) (.bool b)
  | int (i : Int) (t : Tok) : Rd Z (.int i t) (.int i)
  | str (s : Str) (t : Tok) : Rd Z (.str s t) (.str s)
  | raw (v : Value) : Rd Z v (.raw v)
  | tup {a : Addr} {vs : Array Value} {n : Nat} {l : List PV} : Z a = some { cls := .type "tuple", data := .seq vs n } → RdL Z vs.toList l → Rd Z (.ref a) (.tup l)
  | lst {a : Addr} {o : Obj} {vs : Array Value} {n : Nat} {l : List PV} : Z a = some o → o.cls = .type "list" → o.data = .seq vs n → RdL Z vs.toList l → Rd Z (.ref a) (.lst l)
  | inst {a C dx : Addr} {o od : Obj} {es : List DictEntry} {n : Nat} {fs : List (Str × PV)} : Z a = some o → o.cls = .ref C → o.dict = some dx → o.data = .plain → Z dx = some od → od.data = .dict es.toArray n → RdF Z es fs → Rd Z (.ref a) (.inst C fs)
  | rng {a : Addr} {n : Nat} {t u v : Tok} : Z a = some { cls := .type "range", data := .fields #[.int 0 t, .int n u, .int 1 v] } → Rd Z (.ref a) (.rng n)
  | slc {a : Addr} {vl vu : Value} {lo hi : Option Int} : Z a = some { cls := .type "slice", data := .fields #[vl, vu, .none] } → IsPart vl lo → IsPart vu hi → Rd Z (.ref a) (.slc lo hi)
inductive RdL (Z : FZ) : List Value → List PV → Prop
  | nil : RdL Z [] []
  | cons {v : Value} {p : PV} {vs : List Value} {l : List PV} : Rd Z v p → RdL Z vs l → RdL Z (v :: vs) (p :: l)
inductive RdF (Z : FZ) : List DictEntry → List (Str × PV) → Prop
  | nil : RdF Z [] []
  | cons {e : DictEntry} {t : Tok} {p : PV} {x : Str} {es : List DictEntry} {fs : List (Str × PV)} : e.key = .str x t → handedIn e.val = true → Rd Z e.val p → RdF Z es fs → RdF Z (e :: es) ((x, p) :: fs)
end

def FLe (Z Z' : FZ) : Prop := ∀ a o, Z a = some o → Z' a = some o
theorem FLe.refl (Z : FZ) : FLe Z Z := fun _ _ e => e
theorem FLe.trans {Z Z' Z'' : FZ} (x : FLe Z Z') (y : FLe Z' Z'') : FLe Z Z'' := fun a o e => y a o (x a o e)

mutual
theorem Rd.mono {Z Z' : FZ} (k : FLe Z Z') : ∀ {v : Value} {p : PV}, Rd Z v p → Rd Z' v p
  | _, _, .none => .none
  | _, _, .bool b => .bool b
  | _, _, .int i t => .int i t
  | _, _, .str s t => .str s t
  | _, _, .raw v => .raw v
  | _, _, .tup h1 h4 => .tup (k _ _ h1) (RdL.mono k h4)
  | _, _, .lst h1 h2 h3 h4 => .lst (k _ _ h1) h2 h3 (RdL.mono k h4)
  | _, _, .inst h1 h2 h3 h4 h5 h6 h7 => .inst (k _ _ h1) h2 h3 h4 (k _ _ h5) h6 (RdF.mono k h7)
  | _, _, .rng h1 => .rng (k _ _ h1)
  | _, _, .slc h1 h2 h3 => .slc (k _ _ h1) h2 h3
theorem RdL.mono {Z Z' : FZ} (k : FLe Z Z') : ∀ {vs : List Value} {l : List PV}, RdL Z vs l → RdL Z' vs l
  | _, _, .nil => .nil
  | _, _, .cons h1 h2 => .cons (Rd.mono k h1) (RdL.mono k h2)
theorem RdF.mono {Z Z' : FZ} (k : FLe Z Z') : ∀ {es : List DictEntry} {fs : List (Str × PV)}, RdF Z es fs → RdF Z' es fs
  | _, _, .nil => .nil
  | _, _, .cons h1 h2 h3 h4 => .cons h1 h2 (Rd.mono k h3) (RdF.mono k h4)
end

/-- the frozen part lies in the heap -/
def Sub (Z : FZ) (h : Heap) : Prop := ∀ a o, Z a = some o → h.get? a = some o
theorem Sub.keeps {Z : FZ} {h h' : Heap} (x : Sub Z h) (k : ∀ b o, h.get? b = some o → h'.get? b = some o) : Sub Z h' := fun a o e => k a o (x a o e)

/-- what is fixed for the whole call -/
structure Glb where
  prog : Program
  w : World
  K : Frag
  p : Program
  loose : List Str
  mean : ExcName → Option Value
  mg : Str → Option Value
  mb : Str → Option Value
  base : Heap
structure Glb.Ok (G : Glb) : Prop where
  kin : G.K.In G.base
  top : Top G.p G.loose G.mean G.mg G.mb G.base
  notree : G.prog.given.tree = none
  imp : importsNone G.p = true

structure FnLit where
  qual : Str
  scope : Scope
  f : Addr
  cd : Value
  /-- all that stood at the start stands as it was (else: up to slots) -/
  ex : Bool
  /-- the cells, and what is in them -/
  cells : List (Str × Addr × PV) := []
  /-- the frame's own env (of a comprehension) -/
  host : Option Env := none
def FnLit.env (F : FnLit) (L : Addr) : Env := match F.host with
  | none => { scope := F.scope, locals := L, globals := mainGlobals, cells := F.cells.map fun q => (q.1, q.2.1), qual := F.qual ++ ".<locals>.", func := some F.f, code := F.cd, frame := some L, builtins := builtinsNs }
  | some e => { scope := F.scope, locals := L, globals := mainGlobals, cells := F.cells.map fun q => (q.1, q.2.1), qual := e.qual, func := none, code := e.code, frame := e.frame, builtins := builtinsNs }
/-- the env in the stack of frames -/
def FnLit.top (F : FnLit) (L : Addr) : Env := match F.host with
  | none => F.env L
  | some e => e
theorem FnLit.locals_env (F : FnLit) (L : Addr) : (F.env L).locals = L := by unfold FnLit.env; split <;> rfl
theorem FnLit.scope_env (F : FnLit) (L : Addr) : (F.env L).scope = F.scope := by unfold FnLit.env; split <;> rfl
theorem FnLit.globals_env (F : FnLit) (L : Addr) : (F.env L).globals = mainGlobals := by unfold FnLit.env; split <;> rfl
theorem FnLit.builtins_env (F : FnLit) (L : Addr) : (F.env L).builtins = builtinsNs := by unfold FnLit.env; split <;> rfl
theorem FnLit.cells_env (F : FnLit) (L : Addr) : (F.env L).cells = F.cells.map fun q => (q.1, q.2.1) := by unfold FnLit.env; split <;> rfl
theorem FnLit.kindOf_env (F : FnLit) (L : Addr) (x : Str) : (F.env L).kindOf x = F.scope.names.lookup x := by show (F.env L).scope.names.lookup x = _; rw [F.scope_env]

/-- generators: those that stood stand, the new ones are bare -/
def GK (g g' : Array GenState) : Prop := (∀ (i : Nat) (x : GenState), g[i]? = some x → g'[i]? = some x) ∧ (∀ (i : Nat) (x : GenState), g'[i]? = some x → g[i]? = some x ∨ GenState.bare x = true)
theorem GK.refl (g : Array GenState) : GK g g := ⟨fun _ _ e => e, fun _ _ e => .inl e⟩
theorem GK.trans {a b c : Array GenState} (x : GK a b) (y : GK b c) : GK a c := ⟨fun i z e => y.1 i z (x.1 i z e), fun i z e => (y.2 i z e).elim (fun q => x.2 i z q) .inr⟩

structure SS (s s' : Shared) : Prop where
  os : s'.os = s.os
  gens : GK s.gens s'.gens
theorem SS.refl (s : Shared) : SS s s := ⟨rfl, .refl _⟩
theorem SS.trans {a b c : Shared} (x : SS a b) (y : SS b c) : SS a c := ⟨y.os.trans x.os, x.gens.trans y.gens⟩

/-- a running activation: A around it, its locals at L, g the heap at its start (o its mutable own), Z what is frozen -/
structure Live (G : Glb) (F : FnLit) (d : Nat) (A : Around) (g : Heap) (L : Addr) (Z₀ Z : FZ) (own : List (Addr × Obj)) (h : Heap) (m : Str → Option Value) : Prop where
  fr : Fr G.base L h m
  up : g.UpToSlots h
  ek : F.ex = true → ∀ b o, g.get? b = some o → h.get? b = some o
  og : ∀ q ∈ own, g.get? q.1 = none
  sz : g.objs.size ≤ L
  sub : Sub Z h
  zL : Z L = none
  z0 : ∀ a, a < g.objs.size → Z a = Z₀ a
  nw : News G.base L h own
  zo : ∀ q ∈ own, Z q.1 = none
  hd : A.handled = none
  stk : ∃ outer, A.frames = some (F.top L :: outer) ∧ h.FunFrames G.base (F.top L :: outer)
  room : A.depth + d < recursionLimit
  unit : A.units + 10 * d < cLine
  kind : F.scope.kind = .function
  cel : ∀ q ∈ F.cells, ∃ o v, Z q.2.1 = some o ∧ o.data = .cell (some v) ∧ Rd Z v q.2.2

/-- the names of the frame that are said -/
def StR (Z : FZ) (m : Str → Option Value) (σ : List (Str × PV)) : Prop := ∀ q ∈ σ, ∃ v, m q.1 = some v ∧ Rd Z v q.2
theorem StR.mono {Z Z' : FZ} {m : Str → Option Value} {σ : List (Str × PV)} (x : StR Z m σ) (k : FLe Z Z') : StR Z' m σ := fun q hq => let ⟨v, a, b⟩ := x q hq; ⟨v, a, b.mono k⟩

/-- an exception of the class C in flight -/
def InFl (base : Heap) (l : List Env) (C : Value) (v : Value) (h : Heap) : Prop := ∃ e a0, v = .ref e ∧ base.StaysIn h ∧ base.get? e = none ∧ h.FunFrames base l ∧
  ((∃ oe vs, h.get? e = some oe ∧ oe.cls = C ∧ oe.data = .fields vs ∧ vs[0]? = some a0 ∧ vs[1]? = some .none) ∨ h.TracedW base e C a0 ∨
    ∃ env r L, l = env :: r ∧ env.frame = some L ∧ h.TracedAtW base e C a0 (rawInt L))

structure Thr (G : Glb) (l : List Env) (C : Value) (g : Heap) (s : Shared) (v : Value) (s' : Shared) : Prop where
  fl : InFl G.base l C v s'.heap
  ss : SS s s'
  up : g.UpToSlots s'.heap

/-- the class of what may be raised (one class for the whole project) -/
abbrev Wpe (G : Glb) (A : Around) (t : Sem Value) (Q : Value → Shared → Prop) (E : Value → Shared → Prop) (s : Shared) : Prop := wpAny (model G.prog G.w) A t Q E s

/-- what a value's reckoning hands on -/
def Got (G : Glb) (F : FnLit) (d : Nat) (A : Around) (g : Heap) (L : Addr) (Z₀ Z : FZ) (own : List (Addr × Obj)) (m : Str → Option Value) (R : PV → Prop) (s : Shared) (v : Value) (s' : Shared) : Prop :=
  ∃ Z' p, FLe Z Z' ∧ Live G F d A g L Z₀ Z' own s'.heap m ∧ SS s s' ∧ Rd Z' v p ∧ R p

def ThrA (G : Glb) (A : Around) (X : Option Value) (g : Heap) (s : Shared) (v : Value) (s' : Shared) : Prop := ∃ C l, X = some C ∧ A.frames = some l ∧ Thr G l C g s v s'

/-- an expression, from a frame where σ holds, comes to a value with R, or raises X -/
def Ev (G : Glb) (F : FnLit) (d : Nat) (own : List (Addr × Obj)) (σ : List (Str × PV)) (e : Expr) (R : PV → Prop) (X : Option Value) : Prop :=
  ∀ A g L Z₀ Z s m, Live G F d A g L Z₀ Z own s.heap m → StR Z m σ →
    wpAny (model G.prog G.w) A (eval e (F.env L)) (Got G F d A g L Z₀ Z own m R s) (ThrA G A X g s) s

theorem Got.of {G : Glb} {F : FnLit} {d : Nat} {A : Around} {g : Heap} {L : Addr} {Z₀ Z : FZ} {own : List (Addr × Obj)} {m : Str → Option Value} {R : PV → Prop} {s : Shared} {v : Value} {p : PV}
    (l : Live G F d A g L Z₀ Z own s.heap m) (r : Rd Z v p) (h : R p) : Got G F d A g L Z₀ Z own m R s v s := ⟨Z, p, .refl _, l, .refl _, r, h⟩
theorem ThrA.back {G : Glb} {A : Around} {X : Option Value} {g : Heap} {Z Z' : FZ} {s s₁ : Shared} {v : Value} {s' : Shared} (_ : FLe Z Z') (q : SS s s₁) (x : ThrA G A X g s₁ v s') : ThrA G A X g s v s' := by
  obtain ⟨C, l, hX, hA, t⟩ := x
  exact ⟨C, l, hX, hA, t.fl, q.trans t.ss, t.up⟩
theorem Got.mono {G : Glb} {F : FnLit} {d : Nat} {A : Around} {g : Heap} {L : Addr} {Z₀ Z : FZ} {own : List (Addr × Obj)} {m : Str → Option Value} {R R' : PV → Prop} {s : Shared} {v : Value} {s' : Shared}
    (x : Got G F d A g L Z₀ Z own m R s v s') (h : ∀ p, R p → R' p) : Got G F d A g L Z₀ Z own m R' s v s' := by
  obtain ⟨Z', p, a, b, c, e, r⟩ := x
  exact ⟨Z', p, a, b, c, e, h p r⟩
theorem Got.back {G : Glb} {F : FnLit} {d : Nat} {A : Around} {g : Heap} {L : Addr} {Z₀ Z Z₁ : FZ} {own : List (Addr × Obj)} {m : Str → Option Value} {R : PV → Prop} {s s₁ : Shared} {v : Value} {s' : Shared}
    (k : FLe Z Z₁) (q : SS s s₁) (x : Got G F d A g L Z₀ Z₁ own m R s₁ v s') : Got G F d A g L Z₀ Z own m R s v s' := by
  obtain ⟨Z', p, a, b, c, e, r⟩ := x
  exact ⟨Z', p, k.trans a, b, q.trans c, e, r⟩

/-- toks may move -/
theorem SS.tk {s : Shared} (t : Nat) : SS s { s with toks := t } := ⟨rfl, .refl _⟩


/-! ## How a frame goes on -/
section
variable {G : Glb} {F : FnLit} {d : Nat} {A : Around} {g h : Heap} {L : Addr} {Z₀ Z : FZ} {own : List (Addr × Obj)} {m : Str → Option Value}

def FZ.put (Z : FZ) (a : Addr) (o : Obj) : FZ := fun b => if b = a then some o else Z b
theorem FZ.put_le {Z : FZ} {a : Addr} {o : Obj} (h : Z a = none) : FLe Z (Z.put a o) := fun b x e => by
  unfold FZ.put
  by_cases q : b = a
  · subst q; rw [h] at e; cases e
  · rw [if_neg q]; exact e
theorem FZ.put_self {Z : FZ} {a : Addr} {o : Obj} : (Z.put a o) a = some o := by unfold FZ.put; rw [if_pos rfl]
theorem Sub.none_at {Z : FZ} (x : Sub Z h) : Z h.objs.size = none := by
  cases q : Z h.objs.size with
  | none => rfl
  | some o => exact absurd (Heap.lt_size (x _ o q)) (Nat.lt_irrefl _)
theorem Sub.push {Z : FZ} (x : Sub Z h) (o : Obj) : Sub Z (h.push o) := x.keeps fun b o' e => Heap.get?_push_of_some _ e

theorem Live.lt (l : Live G F d A g L Z₀ Z own h m) : L < h.objs.size := l.fr.ns.lt
theorem Live.glt (l : Live G F d A g L Z₀ Z own h m) : g.objs.size ≤ h.objs.size := Nat.le_of_lt (Nat.lt_of_le_of_lt l.sz l.lt)

/-- a heap in which all stands as it was (the own too) -/
theorem Live.keeps {h' : Heap} (l : Live G F d A g L Z₀ Z own h m) (k : ∀ b o, h.get? b = some o → h'.get? b = some o) : Live G F d A g L Z₀ Z own h' m where
  fr := ⟨l.fr.ns.keeps k, fun b o e => k b o (l.fr.keep b o e), l.fr.above⟩
  up := l.up.trans (Heap.UpToSlots.of_keeps k)
  ek := fun x b o e => k b o (l.ek x b o e)
  og := l.og
  sz := l.sz
  sub := l.sub.keeps k
  zL := l.zL
  z0 := l.z0
  nw := fun p hp => ⟨k _ _ (l.nw p hp).1, (l.nw p hp).2⟩
  zo := l.zo
  hd := l.hd
  stk := let ⟨o, a, b⟩ := l.stk; ⟨o, a, b.of_keeps fun b o e _ => ⟨o, k b o e, rfl⟩⟩
  room := l.room
  unit := l.unit
  kind := l.kind
  cel := l.cel

/-- more is frozen -/
theorem Live.frz {Z' : FZ} (l : Live G F d A g L Z₀ Z own h m) (k : FLe Z Z') (s : Sub Z' h) (zL : Z' L = none) (z0 : ∀ a, a < g.objs.size → Z' a = Z a) (zo : ∀ q ∈ own, Z' q.1 = none) : Live G F d A g L Z₀ Z' own h m :=
  { l with sub := s, zL := zL, z0 := fun a ha => (z0 a ha).trans (l.z0 a ha), zo := zo, cel := fun q hq => let ⟨o, v, a, b, c⟩ := l.cel q hq; ⟨o, v, k _ _ a, b, c.mono k⟩ }

theorem push_keeps {h : Heap} (o : Obj) : ∀ b x, h.get? b = some x → (h.push o).get? b = some x := fun b x e => Heap.get?_push_of_some _ e

/-- a new object, frozen at once -/
theorem Live.new (l : Live G F d A g L Z₀ Z own h m) {o : Obj} (hf : o.isFreed = false) :
    FLe Z (Z.put h.objs.size o) ∧ Live G F d A g L Z₀ (Z.put h.objs.size o) own (h.push o) m ∧ (Z.put h.objs.size o) h.objs.size = some o := by
  have n := l.sub.none_at
  refine ⟨FZ.put_le n, (l.keeps (push_keeps o)).frz (FZ.put_le n) (fun a x e => ?_) ?_ (fun a ha => ?_) (fun q hq => ?_), FZ.put_self⟩
  · unfold FZ.put at e
    by_cases q : a = h.objs.size
    · rw [if_pos q] at e; cases e; subst q
      exact Heap.get?_push_size _ hf
    · rw [if_neg q] at e; exact (l.sub.push o) a x e
  · unfold FZ.put; rw [if_neg (Nat.ne_of_lt l.lt)]; exact l.zL
  · unfold FZ.put; rw [if_neg (Nat.ne_of_lt (Nat.lt_of_lt_of_le ha l.glt))]
  · unfold FZ.put; rw [if_neg (Nat.ne_of_lt (Heap.lt_size (l.nw q hq).1))]; exact l.zo q hq

theorem funFrames_same {base h h' : Heap} {L : Addr} (hs : Heap.SameBut L h h') {o : Obj} (ho : h'.get? L = some o) (hd : ∀ vs, o.data ≠ .fields vs) : ∀ {l : List Env}, h.FunFrames base l → h'.FunFrames base l
  | [], _ => trivial
  | env :: _, ⟨hk, ⟨L', o', hf, hn, ho', hd'⟩, hr⟩ => by
    refine ⟨hk, ?_, funFrames_same hs ho hd hr⟩
    by_cases q : L' = L
    · subst q; exact ⟨L', o, hf, hn, ho, hd⟩
    · exact ⟨L', o', hf, hn, (hs.2 L' q).trans ho', hd'⟩
/-- a store into the frame's own locals -/
theorem Live.store {h' : Heap} {m' : Str → Option Value} (l : Live G F d A g L Z₀ Z own h m) (hn : h'.Ns L m') (hs : Heap.SameBut L h h') : Live G F d A g L Z₀ Z own h' m' where
  fr := l.fr.set hn hs
  up := fun b o e hd => by
    obtain ⟨sl, e'⟩ := l.up b o e hd
    exact ⟨sl, (hs.2 b (Nat.ne_of_lt (Nat.lt_of_lt_of_le (Heap.lt_size e) l.sz))).trans e'⟩
  ek := fun x b o e => (hs.2 b (Nat.ne_of_lt (Nat.lt_of_lt_of_le (Heap.lt_size e) l.sz))).trans (l.ek x b o e)
  og := l.og
  sz := l.sz
  sub := fun a o e => by
    exact (hs.2 a fun q => by rw [q, l.zL] at e; cases e).trans (l.sub a o e)
  zL := l.zL
  z0 := l.z0
  nw := l.nw.set hs
  zo := l.zo
  hd := l.hd
  stk := by
    obtain ⟨o, a, b⟩ := l.stk
    obtain ⟨oL, es, ep, hL, hLd, _⟩ := hn
    exact ⟨o, a, funFrames_same hs hL (fun vs q => by rw [hLd] at q; cases q) b⟩
  room := l.room
  unit := l.unit
  kind := l.kind
  cel := l.cel
end


/-! ## Calls -/
/-- who may call: A around, the heap h -/
structure CallCtx (G : Glb) (d : Nat) (A : Around) (l : List Env) (h : Heap) : Prop where
  hd : A.handled = none
  fr : A.frames = some l
  ff : h.FunFrames G.base l
  stay : G.base.StaysIn h
  bs : G.base.objs.size ≤ h.objs.size
  room : A.depth + d < recursionLimit
  unit : A.units + 10 * d < cLine

structure Back (G : Glb) (l : List Env) (Z Z' : FZ) (s s' : Shared) : Prop where
  le : FLe Z Z'
  sub : Sub Z' s'.heap
  ek : ∀ b o, s.heap.get? b = some o → s'.heap.get? b = some o
  low : ∀ a, a < s.heap.objs.size → Z' a = Z a
  ss : SS s s'
  ff : s'.heap.FunFrames G.base l
  stay : G.base.StaysIn s'.heap

/-- the outcome of a call -/
def CallR (G : Glb) (l : List Env) (X : Option Value) (R : PV → Prop) (Z : FZ) (s : Shared) (r : Result) (s' : Shared) : Prop := match r with
  | .ok (.ret v) => ∃ Z' p, Back G l Z Z' s s' ∧ Rd Z' v p ∧ R p
  | .ok _ => False
  | .error e => ∃ C, X = some C ∧ Thr G l C s.heap s e s'

/-- a callable meets R on the arguments as (by place) and kws (by name) -/
def Fn (G : Glb) (d : Nat) (f : Value) (as : List PV) (kws : List (Str × PV)) (R : PV → Prop) (X : Option Value) : Prop :=
  ∀ A l s Z vs (kvs : List (Str × Value)), CallCtx G d A l s.heap → Sub Z s.heap → RdL Z vs as → kvs.map (·.1) = kws.map (·.1) → RdL Z (kvs.map (·.2)) (kws.map (·.2)) →
    codeAny (model G.prog G.w) A (.call f ⟨vs, kvs⟩) (CallR G l X R Z s) s

section
variable {G : Glb} {F : FnLit} {d : Nat} {A : Around} {g h : Heap} {L : Addr} {Z₀ Z : FZ} {own : List (Addr × Obj)} {m : Str → Option Value}
theorem Live.ctx {d' : Nat} (l : Live G F d A g L Z₀ Z own h m) (hd : d' ≤ d) : ∃ o, A.frames = some (F.top L :: o) ∧ CallCtx G d' A (F.top L :: o) h := by
  obtain ⟨o, a, b⟩ := l.stk
  exact ⟨o, a, l.hd, a, b, l.fr.keep, Nat.le_of_lt (Nat.lt_of_le_of_lt l.fr.above l.lt), by have := l.room; omega, by have := l.unit; omega⟩
theorem Live.back {o : List Env} {Z' : FZ} {s s' : Shared} (l : Live G F d A g L Z₀ Z own s.heap m) (hA : A.frames = some (F.top L :: o)) (b : Back G (F.top L :: o) Z Z' s s') :
    Live G F d A g L Z₀ Z' own s'.heap m where
  fr := ⟨l.fr.ns.keeps b.ek, b.stay, l.fr.above⟩
  up := l.up.trans (Heap.UpToSlots.of_keeps b.ek)
  ek := fun x c o e => b.ek c o (l.ek x c o e)
  og := l.og
  sz := l.sz
  sub := b.sub
  zL := (b.low L l.lt).trans l.zL
  z0 := fun a ha => (b.low a (Nat.lt_of_lt_of_le ha l.glt)).trans (l.z0 a ha)
  nw := fun p hp => ⟨b.ek _ _ (l.nw p hp).1, (l.nw p hp).2⟩
  zo := fun q hq => (b.low _ (Heap.lt_size (l.nw q hq).1)).trans (l.zo q hq)
  hd := l.hd
  stk := ⟨o, hA, b.ff⟩
  room := l.room
  unit := l.unit
  kind := l.kind
  cel := fun q hq => let ⟨o, v, a, e, c⟩ := l.cel q hq; ⟨o, v, b.le _ _ a, e, c.mono b.le⟩
theorem Thr.inF {l : List Env} {C : Value} {g g' : Heap} {s : Shared} {v : Value} {s' : Shared} (x : Thr G l C g' s v s') (k : g.UpToSlots g') : Thr G l C g s v s' := ⟨x.fl, x.ss, k.trans x.up⟩

/-- a call from a frame -/
theorem wp_call {d' : Nat} {f : Value} {as : List PV} {kws : List (Str × PV)} {R : PV → Prop} {X : Option Value} {s : Shared} {vs : List Value} {kvs : List (Str × Value)}
    (T : Fn G d' f as kws R X) (l : Live G F d A g L Z₀ Z own s.heap m) (hd : d' ≤ d) (r : RdL Z vs as) (hk : kvs.map (·.1) = kws.map (·.1)) (rk : RdL Z (kvs.map (·.2)) (kws.map (·.2))) :
    wpAny (model G.prog G.w) A (call f vs kvs) (Got G F d A g L Z₀ Z own m R s) (ThrA G A X g s) s := by
  obtain ⟨o, hA, c⟩ := l.ctx hd
  refine wpAny_call (codeAny_mono (T A _ s Z vs kvs c l.sub r hk rk) fun q s' hq => ?_)
  rcases q with e | (v | _ | _ | _)
  · obtain ⟨C, hX, t⟩ := hq
    exact ⟨C, _, hX, hA, t.inF l.up⟩
  all_goals first | exact hq.elim | skip
  obtain ⟨Z', p, b, rp, hr⟩ := hq
  exact ⟨Z', p, b.le, l.back hA b, b.ss, rp, hr⟩
end

section
variable {G : Glb} {F : FnLit} {d : Nat} {own : List (Addr × Obj)} {σ : List (Str × PV)} {R : PV → Prop} {X : Option Value}

theorem Ev.mono {e : Expr} {R' : PV → Prop} (x : Ev G F d own σ e R X) (h : ∀ p, R p → R' p) : Ev G F d own σ e R' X :=
  fun A g L Z₀ Z s m l st => wpAny_mono (x A g L Z₀ Z s m l st) (fun _ _ q => q.mono h) fun _ _ q => q

theorem ev_int {i : Int} {k : Nat} {pos : Pos} (h : R (.int i)) : Ev G F d own σ (.Constant (.int i) k pos) R X := fun A g L Z₀ Z s m l st =>
  wpAny_Constant_int ⟨Z, _, .refl _, l, .tk _, .int i _, h⟩
theorem ev_str {x : Str} {k : Nat} {pos : Pos} (h : R (.str x)) : Ev G F d own σ (.Constant (.str x) k pos) R X := fun A g L Z₀ Z s m l st =>
  wpAny_Constant_str ⟨Z, _, .refl _, l, .tk _, .str x _, h⟩
theorem ev_none {k : Nat} {pos : Pos} (h : R .none) : Ev G F d own σ (.Constant .none k pos) R X := fun A g L Z₀ Z s m l st =>
  wpAny_Constant_none ⟨Z, _, .refl _, l, .refl _, .none, h⟩
theorem ev_bool {b : Bool} {k : Nat} {pos : Pos} (h : R (.bool b)) : Ev G F d own σ (.Constant (.bool b) k pos) R X := fun A g L Z₀ Z s m l st =>
  wpAny_Constant_bool ⟨Z, _, .refl _, l, .refl _, .bool b, h⟩

/-- a local name -/
theorem ev_loc {x : Str} {pos : Pos} {p : PV} (hm : (x, p) ∈ σ) (h : R p) (hl : F.scope.names.lookup x = some .local := by rfl) (hd : (x == ("__debug__" : Str)) = false := by decide) :
    Ev G F d own σ (.Name x pos) R X := fun A g L Z₀ Z s m l st => by
  obtain ⟨v, hv, hr⟩ := st _ hm
  exact wpAny_Name (wpAny_loadName_local (by rw [F.scope_env]; exact l.kind) (by rw [F.kindOf_env]; exact hl) (by rw [F.locals_env]; exact l.fr.ns) hv (Got.of l hr h)) hd
/-- a name in a cell -/
theorem ev_cell {x : Str} {pos : Pos} {c : Addr} {p : PV} (hc : (F.cells.map fun q => (q.1, q.2.1)).lookup x = some c) (hm : (x, c, p) ∈ F.cells) (h : R p) (hl : F.scope.names.lookup x = some .cell) (hd : (x == ("__debug__" : Str)) = false) :
    Ev G F d own σ (.Name x pos) R X := fun A g L Z₀ Z s m l st => by
  obtain ⟨o, v, hz, hcd, hr⟩ := l.cel _ hm
  exact wpAny_Name (wpAny_loadName_cell (by rw [F.scope_env]; exact l.kind) (by rw [F.kindOf_env]; exact hl) (by rw [F.cells_env]; exact hc) ⟨o, l.sub _ _ hz, hcd⟩ (Got.of l hr h)) hd
/-- a name of the top -/
theorem ev_glb (O : G.Ok) {x : Str} {pos : Pos} {v : Value} (e : nsIn G.K mainGlobals x = some (some v)) (h : R (.raw v)) (hl : F.scope.names.lookup x = some .globalImplicit := by rfl) (hd : (x == ("__debug__" : Str)) = false := by decide) :
    Ev G F d own σ (.Name x pos) R X := fun A g L Z₀ Z s m l st =>
  Name_function_global (by rw [F.scope_env]; exact l.kind) (by rw [F.kindOf_env]; exact hl) (loadGlobal_global (by rw [F.globals_env]; exact (topRead_of O.top).g.keeps l.fr.keep) (mg_of O.kin (topRead_of O.top).g e) (Got.of l (.raw v) h)) hd
theorem ev_bi (O : G.Ok) {n : Str} {pos : Pos} {v : Value} (e : nsIn G.K mainGlobals n = some none) (hv : bootBuiltins n = some v) (h : R (.raw v)) (hn : n ≠ "__name__" := by decide) (hl : F.scope.names.lookup n = some .globalImplicit := by rfl) (hd : (n == ("__debug__" : Str)) = false := by decide) :
    Ev G F d own σ (.Name n pos) R X := fun A g L Z₀ Z s m l st =>
  have T := topRead_of O.top
  Name_function_global (by rw [F.scope_env]; exact l.kind) (by rw [F.kindOf_env]; exact hl) (loadGlobal_builtin (by rw [F.globals_env]; exact T.g.keeps l.fr.keep) (mg_none_of O.kin T.g e) (by rw [F.builtins_env]; exact T.b.keeps l.fr.keep) ((T.builtins n hn).trans hv) (Got.of l (.raw v) h)) hd
end
end Mine

namespace Mine
open PySem PySem.W PySem.Calls PyProof.Rows

/-! ## Tests and statements -/
/-- a test comes out as b with B b -/
def GotB (G : Glb) (F : FnLit) (d : Nat) (A : Around) (g : Heap) (L : Addr) (Z₀ Z : FZ) (own : List (Addr × Obj)) (m : Str → Option Value) (B : Bool → Prop) (s : Shared) (b : Bool) (s' : Shared) : Prop :=
  ∃ Z', FLe Z Z' ∧ Live G F d A g L Z₀ Z' own s'.heap m ∧ SS s s' ∧ B b
def Ts (G : Glb) (F : FnLit) (d : Nat) (own : List (Addr × Obj)) (σ : List (Str × PV)) (e : Expr) (B : Bool → Prop) (X : Option Value) : Prop :=
  ∀ A g L Z₀ Z s m, Live G F d A g L Z₀ Z own s.heap m → StR Z m σ →
    wpAny (model G.prog G.w) A (isTrue e (F.env L) (eval e (F.env L))) (GotB G F d A g L Z₀ Z own m B s) (ThrA G A X g s) s
/-- the truth of a value -/
def Tr (G : Glb) (F : FnLit) (d : Nat) (own : List (Addr × Obj)) (p : PV) (B : Bool → Prop) (X : Option Value) : Prop :=
  ∀ A g L Z₀ Z s m v, Live G F d A g L Z₀ Z own s.heap m → Rd Z v p →
    wpAny (model G.prog G.w) A (truthy v) (GotB G F d A g L Z₀ Z own m B s) (ThrA G A X g s) s
/-- an operation on one, on two values -/
def D1 (G : Glb) (F : FnLit) (d : Nat) (own : List (Addr × Obj)) (t : Value → Sem Value) (a : PV) (R : PV → Prop) (X : Option Value) : Prop :=
  ∀ A g L Z₀ Z s m v, Live G F d A g L Z₀ Z own s.heap m → Rd Z v a →
    wpAny (model G.prog G.w) A (t v) (Got G F d A g L Z₀ Z own m R s) (ThrA G A X g s) s
def D2 (G : Glb) (F : FnLit) (d : Nat) (own : List (Addr × Obj)) (t : Value → Value → Sem Value) (a b : PV) (R : PV → Prop) (X : Option Value) : Prop :=
  ∀ A g L Z₀ Z s m v w, Live G F d A g L Z₀ Z own s.heap m → Rd Z v a → Rd Z w b →
    wpAny (model G.prog G.w) A (t v w) (Got G F d A g L Z₀ Z own m R s) (ThrA G A X g s) s

inductive FO where
  | next | brk | cont
  | ret (p : PV)
def FOR (Z : FZ) : Flow → FO → Prop
  | .next, .next => True
  | .brk, .brk => True
  | .cont, .cont => True
  | .ret v, .ret p => Rd Z v p
  | _, _ => False
/-- what a statement hands on -/
def Dn (G : Glb) (F : FnLit) (d : Nat) (A : Around) (g : Heap) (L : Addr) (Z₀ Z : FZ) (Q : FO → List (Addr × Obj) → List (Str × PV) → Prop) (s : Shared) (fl : Flow) (s' : Shared) : Prop :=
  ∃ Z' m' own' σ' fo, FLe Z Z' ∧ Live G F d A g L Z₀ Z' own' s'.heap m' ∧ SS s s' ∧ StR Z' m' σ' ∧ FOR Z' fl fo ∧ Q fo own' σ'
def Ex (G : Glb) (F : FnLit) (d : Nat) (own : List (Addr × Obj)) (σ : List (Str × PV)) (ss : List Stmt) (Q : FO → List (Addr × Obj) → List (Str × PV) → Prop) (X : Option Value) : Prop :=
  ∀ A g L Z₀ Z s m, Live G F d A g L Z₀ Z own s.heap m → StR Z m σ →
    wpAny (model G.prog G.w) A (execs ss (F.env L)) (Dn G F d A g L Z₀ Z Q s) (ThrA G A X g s) s
/-- one statement -/
def E1 (G : Glb) (F : FnLit) (d : Nat) (own : List (Addr × Obj)) (σ : List (Str × PV)) (st : Stmt) (Q : FO → List (Addr × Obj) → List (Str × PV) → Prop) (X : Option Value) : Prop :=
  ∀ A g L Z₀ Z s m, Live G F d A g L Z₀ Z own s.heap m → StR Z m σ →
    wpAny (model G.prog G.w) A (exec st (F.env L)) (Dn G F d A g L Z₀ Z Q s) (ThrA G A X g s) s

section
variable {G : Glb} {F : FnLit} {d : Nat} {own : List (Addr × Obj)} {σ : List (Str × PV)} {R : PV → Prop} {X : Option Value} {B : Bool → Prop} {Q : FO → List (Addr × Obj) → List (Str × PV) → Prop}
  {A : Around} {g : Heap} {L : Addr} {Z₀ Z Z₁ : FZ} {s s₁ : Shared} {m : Str → Option Value}
theorem GotB.back {b : Bool} {s' : Shared} (k : FLe Z Z₁) (q : SS s s₁) (x : GotB G F d A g L Z₀ Z₁ own m B s₁ b s') : GotB G F d A g L Z₀ Z own m B s b s' := by
  obtain ⟨Z', a, b, c, e⟩ := x
  exact ⟨Z', k.trans a, b, q.trans c, e⟩
theorem Dn.back {fl : Flow} {s' : Shared} (k : FLe Z Z₁) (q : SS s s₁) (x : Dn G F d A g L Z₀ Z₁ Q s₁ fl s') : Dn G F d A g L Z₀ Z Q s fl s' := by
  obtain ⟨Z', m', own', σ', fo, a, b, c, e⟩ := x
  exact ⟨Z', m', own', σ', fo, k.trans a, b, q.trans c, e⟩

/-- the continuation's ends, brought back -/
theorem back_G {t : Sem Value} (k : FLe Z Z₁) (q : SS s s₁) (x : wpAny (model G.prog G.w) A t (Got G F d A g L Z₀ Z₁ own m R s₁) (ThrA G A X g s₁) s₁) :
    wpAny (model G.prog G.w) A t (Got G F d A g L Z₀ Z own m R s) (ThrA G A X g s) s₁ := wpAny_mono x (fun _ _ z => z.back k q) fun _ _ z => z.back k q
theorem back_B {t : Sem Bool} (k : FLe Z Z₁) (q : SS s s₁) (x : wpAny (model G.prog G.w) A t (GotB G F d A g L Z₀ Z₁ own m B s₁) (ThrA G A X g s₁) s₁) :
    wpAny (model G.prog G.w) A t (GotB G F d A g L Z₀ Z own m B s) (ThrA G A X g s) s₁ := wpAny_mono x (fun _ _ z => z.back k q) fun _ _ z => z.back k q
theorem back_D {t : Sem Flow} (k : FLe Z Z₁) (q : SS s s₁) (x : wpAny (model G.prog G.w) A t (Dn G F d A g L Z₀ Z₁ Q s₁) (ThrA G A X g s₁) s₁) :
    wpAny (model G.prog G.w) A t (Dn G F d A g L Z₀ Z Q s) (ThrA G A X g s) s₁ := wpAny_mono x (fun _ _ z => z.back k q) fun _ _ z => z.back k q

theorem D1.mono {t : Value → Sem Value} {a : PV} {R' : PV → Prop} (x : D1 G F d own t a R X) (h : ∀ p, R p → R' p) : D1 G F d own t a R' X :=
  fun A g L Z₀ Z s m v l r => wpAny_mono (x A g L Z₀ Z s m v l r) (fun _ _ q => q.mono h) fun _ _ q => q
theorem D2.mono {t : Value → Value → Sem Value} {a b : PV} {R' : PV → Prop} (x : D2 G F d own t a b R X) (h : ∀ p, R p → R' p) : D2 G F d own t a b R' X :=
  fun A g L Z₀ Z s m v w l r r' => wpAny_mono (x A g L Z₀ Z s m v w l r r') (fun _ _ q => q.mono h) fun _ _ q => q

/-! ### expressions -/
theorem ev_bin {l r : Expr} {op : Operator} {pos : Pos} (h : Ev G F d own σ l (fun a => Ev G F d own σ r (fun b => D2 G F d own (binaryOp op) a b R X) X) X) : Ev G F d own σ (.BinOp l op r pos) R X := by
  intro A g L Z₀ Z s m lv st
  refine wpAny_BinOp (wpAny_mono (h A g L Z₀ Z s m lv st) (fun v s₁ q => ?_) fun _ _ q => q)
  obtain ⟨Z₁, p, k₁, l₁, q₁, r₁, h₁⟩ := q
  refine wpAny_mono (h₁ A g L Z₀ Z₁ s₁ m l₁ (st.mono k₁)) (fun w s₂ q => ?_) fun _ _ q => q.back k₁ q₁
  obtain ⟨Z₂, p₂, k₂, l₂, q₂, r₂, h₂⟩ := q
  exact back_G (k₁.trans k₂) (q₁.trans q₂) (h₂ A g L Z₀ Z₂ s₂ m v w l₂ (r₁.mono k₂) r₂)
theorem ev_cmp {l r : Expr} {op : CmpOp} {pos : Pos} (h : Ev G F d own σ l (fun a => Ev G F d own σ r (fun b => D2 G F d own (compareOp op) a b R X) X) X) (hm : behindInMarks op r = false := by with_unfolding_all rfl) :
    Ev G F d own σ (.Compare l [op] [r] pos) R X := by
  intro A g L Z₀ Z s m lv st
  refine wpAny_Compare1 (wpAny_mono (h A g L Z₀ Z s m lv st) (fun v s₁ q => ?_) fun _ _ q => q) hm
  obtain ⟨Z₁, p, k₁, l₁, q₁, r₁, h₁⟩ := q
  refine wpAny_mono (h₁ A g L Z₀ Z₁ s₁ m l₁ (st.mono k₁)) (fun w s₂ q => ?_) fun _ _ q => q.back k₁ q₁
  obtain ⟨Z₂, p₂, k₂, l₂, q₂, r₂, h₂⟩ := q
  exact back_G (k₁.trans k₂) (q₁.trans q₂) (h₂ A g L Z₀ Z₂ s₂ m v w l₂ (r₁.mono k₂) r₂)
theorem ev_un {e : Expr} {op : UnaryOp} {pos : Pos} (h : Ev G F d own σ e (fun a => D1 G F d own (unaryOp op) a R X) X) : Ev G F d own σ (.UnaryOp op e pos) R X := by
  intro A g L Z₀ Z s m lv st
  refine UnaryOp_ (wpAny_mono (h A g L Z₀ Z s m lv st) (fun v s₁ q => ?_) fun _ _ q => q)
  obtain ⟨Z₁, p, k₁, l₁, q₁, r₁, h₁⟩ := q
  exact back_G k₁ q₁ (h₁ A g L Z₀ Z₁ s₁ m v l₁ r₁)
theorem ev_ife {t a b : Expr} {pos : Pos} (h : Ts G F d own σ t (fun c => if c then Ev G F d own σ a R X else Ev G F d own σ b R X) X) : Ev G F d own σ (.IfExp t a b pos) R X := by
  intro A g L Z₀ Z s m lv st
  refine IfExp_ (wpAny_mono (h A g L Z₀ Z s m lv st) (fun c s₁ q => ?_) fun _ _ q => q)
  obtain ⟨Z₁, k₁, l₁, q₁, h₁⟩ := q
  cases c <;> exact back_G k₁ q₁ (h₁ A g L Z₀ Z₁ s₁ m l₁ (st.mono k₁))
theorem ev_and {a b : Expr} {rest : List Expr} {pos : Pos} (h : Ev G F d own σ a (fun p => Tr G F d own p (fun c => if c then Ev G F d own σ (.BoolOp .And (b :: rest) pos) R X else R p) X) X) : Ev G F d own σ (.BoolOp .And (a :: b :: rest) pos) R X := by
  intro A g L Z₀ Z s m lv st
  refine BoolOp_and (wpAny_mono (h A g L Z₀ Z s m lv st) (fun v s₁ q => ?_) fun _ _ q => q)
  obtain ⟨Z₁, p, k₁, l₁, q₁, r₁, h₁⟩ := q
  refine wpAny_mono (h₁ A g L Z₀ Z₁ s₁ m v l₁ r₁) (fun c s₂ q => ?_) fun _ _ q => q.back k₁ q₁
  obtain ⟨Z₂, k₂, l₂, q₂, h₂⟩ := q
  cases c with
  | true => exact back_G (k₁.trans k₂) (q₁.trans q₂) (h₂ A g L Z₀ Z₂ s₂ m l₂ (st.mono (k₁.trans k₂)))
  | false => exact ⟨Z₂, p, k₁.trans k₂, l₂, q₁.trans q₂, r₁.mono k₂, h₂⟩
theorem ev_or {a b : Expr} {rest : List Expr} {pos : Pos} (h : Ev G F d own σ a (fun p => Tr G F d own p (fun c => if c then R p else Ev G F d own σ (.BoolOp .Or (b :: rest) pos) R X) X) X) : Ev G F d own σ (.BoolOp .Or (a :: b :: rest) pos) R X := by
  intro A g L Z₀ Z s m lv st
  refine BoolOp_or (wpAny_mono (h A g L Z₀ Z s m lv st) (fun v s₁ q => ?_) fun _ _ q => q)
  obtain ⟨Z₁, p, k₁, l₁, q₁, r₁, h₁⟩ := q
  refine wpAny_mono (h₁ A g L Z₀ Z₁ s₁ m v l₁ r₁) (fun c s₂ q => ?_) fun _ _ q => q.back k₁ q₁
  obtain ⟨Z₂, k₂, l₂, q₂, h₂⟩ := q
  cases c with
  | false => exact back_G (k₁.trans k₂) (q₁.trans q₂) (h₂ A g L Z₀ Z₂ s₂ m l₂ (st.mono (k₁.trans k₂)))
  | true => exact ⟨Z₂, p, k₁.trans k₂, l₂, q₁.trans q₂, r₁.mono k₂, h₂⟩
theorem ev_one {op : BoolOp} {a : Expr} {pos : Pos} (h : Ev G F d own σ a R X) : Ev G F d own σ (.BoolOp op [a] pos) R X := fun A g L Z₀ Z s m lv st => BoolOp_one (h A g L Z₀ Z s m lv st)

/-! ### tests -/
theorem ts_val {e : Expr} (h : Ev G F d own σ e (fun p => Tr G F d own p B X) X) (he : ∀ env whole, isTrue e env whole = (do let v ← whole; standAt e.pos; holding [v] (truthy v)) := by intro _ _; rfl) : Ts G F d own σ e B X := by
  intro A g L Z₀ Z s m lv st
  refine isTrue_plain (wpAny_mono (h A g L Z₀ Z s m lv st) (fun v s₁ q => ?_) fun _ _ q => q) (he _ _)
  obtain ⟨Z₁, p, k₁, l₁, q₁, r₁, h₁⟩ := q
  exact back_B k₁ q₁ (h₁ A g L Z₀ Z₁ s₁ m v l₁ r₁)
theorem ts_cmp {l r : Expr} {op : CmpOp} {pos : Pos} (h : Ev G F d own σ l (fun a => Ev G F d own σ r (fun b => D2 G F d own (compareOp op) a b (fun p => Tr G F d own p B X) X) X) X) (hm : behindInMarks op r = false := by with_unfolding_all rfl) :
    Ts G F d own σ (.Compare l [op] [r] pos) B X := by
  intro A g L Z₀ Z s m lv st
  refine wpAny_isTrue_Compare1 (wpAny_mono (h A g L Z₀ Z s m lv st) (fun v s₁ q => ?_) fun _ _ q => q) hm
  obtain ⟨Z₁, p, k₁, l₁, q₁, r₁, h₁⟩ := q
  refine wpAny_mono (h₁ A g L Z₀ Z₁ s₁ m l₁ (st.mono k₁)) (fun w s₂ q => ?_) fun _ _ q => q.back k₁ q₁
  obtain ⟨Z₂, p₂, k₂, l₂, q₂, r₂, h₂⟩ := q
  refine wpAny_mono (h₂ A g L Z₀ Z₂ s₂ m v w l₂ (r₁.mono k₂) r₂) (fun c s₃ q => ?_) fun _ _ q => q.back (k₁.trans k₂) (q₁.trans q₂)
  obtain ⟨Z₃, p₃, k₃, l₃, q₃, r₃, h₃⟩ := q
  exact back_B ((k₁.trans k₂).trans k₃) ((q₁.trans q₂).trans q₃) (h₃ A g L Z₀ Z₃ s₃ m c l₃ r₃)
theorem ts_not {e : Expr} {pos : Pos} (h : Ts G F d own σ e (fun b => B (!b)) X) : Ts G F d own σ (.UnaryOp .Not e pos) B X := by
  intro A g L Z₀ Z s m lv st
  refine isTrue_not (wpAny_mono (h A g L Z₀ Z s m lv st) (fun c s₁ q => ?_) fun _ _ q => q)
  obtain ⟨Z₁, k₁, l₁, q₁, h₁⟩ := q
  exact ⟨Z₁, k₁, l₁, q₁, h₁⟩
theorem ts_andN {pos : Pos} (h : B true) : Ts G F d own σ (.BoolOp .And [] pos) B X := fun A g L Z₀ Z s m lv st => isTrue_and_nil ⟨Z, .refl _, lv, .refl _, h⟩
theorem ts_orN {pos : Pos} (h : B false) : Ts G F d own σ (.BoolOp .Or [] pos) B X := fun A g L Z₀ Z s m lv st => isTrue_or_nil ⟨Z, .refl _, lv, .refl _, h⟩
theorem isTrue_bo {M : Model} {A : Around} {env : Env} {op : BoolOp} {es : List Expr} {pos : Pos} {w w' : Sem Value} {Q : Bool → Shared → Prop} {E : Value → Shared → Prop} {s : Shared} (h : wpAny M A (isTrue (.BoolOp op es pos) env w) Q E s) : wpAny M A (isTrue (.BoolOp op es pos) env w') Q E s := h
theorem ts_and {a : Expr} {rest : List Expr} {pos : Pos} (h : Ts G F d own σ a (fun c => if c then Ts G F d own σ (.BoolOp .And rest pos) B X else B false) X) : Ts G F d own σ (.BoolOp .And (a :: rest) pos) B X := by
  intro A g L Z₀ Z s m lv st
  refine isTrue_and (wpAny_mono (h A g L Z₀ Z s m lv st) (fun c s₁ q => ?_) fun _ _ q => q)
  obtain ⟨Z₁, k₁, l₁, q₁, h₁⟩ := q
  cases c with
  | true => exact isTrue_bo (back_B k₁ q₁ (h₁ A g L Z₀ Z₁ s₁ m l₁ (st.mono k₁)))
  | false => exact ⟨Z₁, k₁, l₁, q₁, h₁⟩
theorem ts_or {a : Expr} {rest : List Expr} {pos : Pos} (h : Ts G F d own σ a (fun c => if c then B true else Ts G F d own σ (.BoolOp .Or rest pos) B X) X) : Ts G F d own σ (.BoolOp .Or (a :: rest) pos) B X := by
  intro A g L Z₀ Z s m lv st
  refine isTrue_or (wpAny_mono (h A g L Z₀ Z s m lv st) (fun c s₁ q => ?_) fun _ _ q => q)
  obtain ⟨Z₁, k₁, l₁, q₁, h₁⟩ := q
  cases c with
  | false => exact isTrue_bo (back_B k₁ q₁ (h₁ A g L Z₀ Z₁ s₁ m l₁ (st.mono k₁)))
  | true => exact ⟨Z₁, k₁, l₁, q₁, h₁⟩
theorem tr_bool {b : Bool} (h : B b) : Tr G F d own (.bool b) B X := fun A g L Z₀ Z s m v l r => by cases r; exact wpAny_truthy_bool ⟨Z, .refl _, l, .refl _, h⟩
theorem tr_none (h : B false) : Tr G F d own .none B X := fun A g L Z₀ Z s m v l r => by cases r; exact truthy_none ⟨Z, .refl _, l, .refl _, h⟩

/-! ### statements -/
theorem ex_nil (h : Q .next own σ) : Ex G F d own σ [] Q X := fun A g L Z₀ Z s m lv st => wpAny_execs_nil ⟨Z, m, own, σ, .next, .refl _, lv, .refl _, st, trivial, h⟩
/-- go on behind a statement -/
def Sq (G : Glb) (F : FnLit) (d : Nat) (rest : List Stmt) (Q : FO → List (Addr × Obj) → List (Str × PV) → Prop) (X : Option Value) : FO → List (Addr × Obj) → List (Str × PV) → Prop
  | .next, own, σ => Ex G F d own σ rest Q X
  | fo, own, σ => Q fo own σ
theorem ex_cons {st : Stmt} {rest : List Stmt} (h : E1 G F d own σ st (Sq G F d rest Q X) X) : Ex G F d own σ (st :: rest) Q X := by
  intro A g L Z₀ Z s m lv st'
  refine wpAny_execs_cons (wpAny_mono (h A g L Z₀ Z s m lv st') (fun fl s₁ q => ?_) fun _ _ q => q)
  obtain ⟨Z₁, m₁, own₁, σ₁, fo, k₁, l₁, q₁, st₁, fr, h₁⟩ := q
  cases fl <;> cases fo <;> first | exact fr.elim | skip
  · exact back_D k₁ q₁ (h₁ A g L Z₀ Z₁ s₁ m₁ l₁ st₁)
  all_goals exact ⟨Z₁, m₁, own₁, σ₁, _, k₁, l₁, q₁, st₁, fr, h₁⟩

def PutR (σ : List (Str × PV)) (x : Str) (p : PV) (σ' : List (Str × PV)) : Prop := ∀ q ∈ σ', q = (x, p) ∨ (q ∈ σ ∧ q.1 ≠ x)
theorem PutR.nil {x : Str} {p : PV} : PutR [] x p [(x, p)] := fun q hq => .inl (List.mem_singleton.mp hq)
theorem PutR.hit {x : Str} {p q : PV} {σ : List (Str × PV)} (h : ∀ r ∈ σ, r.1 ≠ x) : PutR ((x, q) :: σ) x p ((x, p) :: σ) := fun r hr => by
  rcases List.mem_cons.mp hr with e | hr
  · exact .inl e
  · exact .inr ⟨.tail _ hr, h r hr⟩
theorem PutR.miss {x y : Str} {p q : PV} {σ σ' : List (Str × PV)} (hn : y ≠ x) (h : PutR σ x p σ') : PutR ((y, q) :: σ) x p ((y, q) :: σ') := fun r hr => by
  rcases List.mem_cons.mp hr with e | hr
  · exact .inr ⟨e ▸ .head _, e ▸ hn⟩
  · exact (h r hr).imp id fun ⟨a, b⟩ => ⟨.tail _ a, b⟩
theorem StR.put {x : Str} {p : PV} {v : Value} {σ' : List (Str × PV)} (st : StR Z m σ) (h : PutR σ x p σ') (r : Rd Z v p) : StR Z (fun y => if y = x then some v else m y) σ' := fun q hq => by
  rcases h q hq with e | ⟨a, b⟩
  · subst e; exact ⟨v, if_pos rfl, r⟩
  · obtain ⟨w, c, e⟩ := st q a
    exact ⟨w, (if_neg b).trans c, e⟩

/-- storing a value into a local name -/
theorem wp_store {x : Str} {v : Value} {P : Unit → Shared → Prop} {E : Value → Shared → Prop} (lv : Live G F d A g L Z₀ Z own s.heap m) (hl : F.scope.names.lookup x = some .local)
    (h : ∀ h', Live G F d A g L Z₀ Z own h' (fun y => if y = x then some v else m y) → P () { s with heap := h', toks := s.toks + 1 }) : wpAny (model G.prog G.w) A (storeName (F.env L) x v) P E s :=
  wpAny_storeName_local (by rw [F.kindOf_env]; exact hl) (by rw [F.locals_env]; exact lv.fr.ns) (fun h' hn hs => h h' (lv.store (by rw [← F.locals_env L]; exact hn) (by rw [← F.locals_env L]; exact hs))) (by rw [F.scope_env, lv.kind]; rfl)

theorem ex_assign {x : Str} {e : Expr} {rest : List Stmt} {np pos : Pos} (h : Ev G F d own σ e (fun p => ∃ σ', PutR σ x p σ' ∧ Ex G F d own σ' rest Q X) X) (hl : F.scope.names.lookup x = some .local := by rfl)
    (hs : ∀ env, swapsWith e (some (.Name x np)) pos.line env = pure false := by intro _; rfl) : Ex G F d own σ (.Assign [.Name x np] e pos :: rest) Q X := by
  intro A g L Z₀ Z s m lv st
  refine wpAny_execs_cons (wpAny_Assign_Name (wpAny_mono (h A g L Z₀ Z s m lv st) (fun v s₁ q => ?_) fun _ _ q => q) (hs _))
  obtain ⟨Z₁, p, k₁, l₁, q₁, r₁, σ', hp, h₁⟩ := q
  refine wp_store l₁ hl fun h' l' => ?_
  exact back_D (s₁ := ⟨h', s₁.gens, s₁.drawn, s₁.toks + 1, s₁.os⟩) k₁ (q₁.trans ⟨rfl, .refl _⟩) (h₁ A g L Z₀ Z₁ _ _ l' ((st.mono k₁).put hp r₁))
theorem ex_if {t : Expr} {a b rest : List Stmt} {pos : Pos} (h : Ts G F d own σ t (fun c => if c then Ex G F d own σ a (Sq G F d rest Q X) X else Ex G F d own σ b (Sq G F d rest Q X) X) X) : Ex G F d own σ (.If t a b pos :: rest) Q X := by
  refine ex_cons fun A g L Z₀ Z s m lv st => ?_
  refine wpAny_If (wpAny_mono (h A g L Z₀ Z s m lv st) (fun c s₁ q => ?_) fun _ _ q => q)
  obtain ⟨Z₁, k₁, l₁, q₁, h₁⟩ := q
  cases c <;> exact back_D k₁ q₁ (h₁ A g L Z₀ Z₁ s₁ m l₁ (st.mono k₁))
theorem ex_ret {e : Expr} {rest : List Stmt} {pos : Pos} (h : Ev G F d own σ e (fun p => Q (.ret p) own σ) X) : Ex G F d own σ (.Return (some e) pos :: rest) Q X := by
  refine ex_cons fun A g L Z₀ Z s m lv st => ?_
  refine wpAny_Return_some (wpAny_mono (h A g L Z₀ Z s m lv st) (fun v s₁ q => ?_) fun _ _ q => q)
  obtain ⟨Z₁, p, k₁, l₁, q₁, r₁, h₁⟩ := q
  exact ⟨Z₁, m, own, σ, .ret p, k₁, l₁, q₁, st.mono k₁, r₁, h₁⟩
theorem ex_cont {rest : List Stmt} {pos : Pos} (h : Q .cont own σ) : Ex G F d own σ (.Continue pos :: rest) Q X :=
  ex_cons fun A g L Z₀ Z s m lv st => wpAny_Continue ⟨Z, m, own, σ, .cont, .refl _, lv, .refl _, st, trivial, h⟩
theorem ex_pass {rest : List Stmt} {pos : Pos} (h : Ex G F d own σ rest Q X) : Ex G F d own σ (.Pass pos :: rest) Q X :=
  ex_cons fun A g L Z₀ Z s m lv st => wpAny_Pass ⟨Z, m, own, σ, .next, .refl _, lv, .refl _, st, trivial, h⟩
theorem ex_assert {t : Expr} {msg : Option Expr} {rest : List Stmt} {pos : Pos} (h : Ts G F d own σ t (fun c => c = true ∧ Ex G F d own σ rest Q X) X) : Ex G F d own σ (.Assert t msg pos :: rest) Q X := by
  refine ex_cons fun A g L Z₀ Z s m lv st => ?_
  refine wpAny_Assert_holds (wpAny_mono (h A g L Z₀ Z s m lv st) (fun c s₁ q => ?_) fun _ _ q => q)
  obtain ⟨Z₁, k₁, l₁, q₁, hc, h₁⟩ := q
  exact ⟨hc, Z₁, m, own, σ, .next, k₁, l₁, q₁, st.mono k₁, trivial, h₁⟩
theorem Ex.mono {ss : List Stmt} {Q' : FO → List (Addr × Obj) → List (Str × PV) → Prop} (h : Ex G F d own σ ss Q X) (k : ∀ fo o τ, Q fo o τ → Q' fo o τ) : Ex G F d own σ ss Q' X :=
  fun A g L Z₀ Z s m lv st => wpAny_mono (h A g L Z₀ Z s m lv st) (fun fl s' ⟨Z', m', own', σ', fo, a, b, c, e, f, q⟩ => ⟨Z', m', own', σ', fo, a, b, c, e, f, k _ _ _ q⟩) fun _ _ q => q
/-- fewer names are said -/
theorem Ex.fewer {ss : List Stmt} {σ' : List (Str × PV)} (h : Ex G F d own σ' ss Q X) (k : ∀ q ∈ σ', q ∈ σ) : Ex G F d own σ ss Q X :=
  fun A g L Z₀ Z s m lv st => h A g L Z₀ Z s m lv fun q hq => st q (k q hq)
theorem ex_augassign {x : Str} {e : Expr} {op : Operator} {p : PV} {rest : List Stmt} {np pos : Pos} (hm : (x, p) ∈ σ)
    (h : Ev G F d own σ e (fun b => D2 G F d own (inplaceOp op) p b (fun r => ∃ σ', PutR σ x r σ' ∧ Ex G F d own σ' rest Q X) X) X) (hl : F.scope.names.lookup x = some .local := by rfl) :
    Ex G F d own σ (.AugAssign (.Name x np) op e pos :: rest) Q X := by
  intro A g L Z₀ Z s m lv st
  obtain ⟨v, hv, rv⟩ := st _ hm
  refine wpAny_execs_cons (wpAny_AugAssign_Name (wpAny_loadName_local (by rw [F.scope_env]; exact lv.kind) (by rw [F.kindOf_env]; exact hl) (by rw [F.locals_env]; exact lv.fr.ns) hv (wpAny_mono (h A g L Z₀ Z s m lv st) (fun w s₁ q => ?_) fun _ _ q => q)))
  obtain ⟨Z₁, p₁, k₁, l₁, q₁, r₁, h₁⟩ := q
  refine wpAny_mono (h₁ A g L Z₀ Z₁ s₁ m v w l₁ (rv.mono k₁) r₁) (fun c s₂ q => ?_) fun _ _ q => q.back k₁ q₁
  obtain ⟨Z₂, p₂, k₂, l₂, q₂, r₂, σ', hp, h₂⟩ := q
  refine wp_store l₂ hl fun h' l' => ?_
  exact back_D (s₁ := ⟨h', s₂.gens, s₂.drawn, s₂.toks + 1, s₂.os⟩) (k₁.trans k₂) ((q₁.trans q₂).trans ⟨rfl, .refl _⟩) (h₂ A g L Z₀ Z₂ _ _ l' ((st.mono (k₁.trans k₂)).put hp r₂))
end
end Mine

namespace Mine
open PySem PySem.W PySem.Calls PyProof.Rows

theorem wp_leave {M : Model} {A : Around} {s : Shared} {base : Heap} {env : Env} {l : List Env} {L : Addr} {C v : Value} {P : Unit → Shared → Prop} {E : Value → Shared → Prop} (hA : A.frames = some (env :: l)) (hf : env.frame = some L)
    (x : InFl base (env :: l) C v s.heap) (h : ∀ h', InFl base l C v h' → s.heap.UpToSlots h' → P () { s with heap := h' }) : wpAny M A (leaving env v) P E s := by
  obtain ⟨e, a0, rfl, st, hn, ff, q⟩ := x
  have fin : ∀ h', Heap.LeftW base (env :: l) e C a0 s.heap h' → P () { s with heap := h' } := fun h' ⟨a, b, c, u⟩ => h h' ⟨e, a0, rfl, a, hn, b.2.2, .inr (.inl c)⟩ u
  rcases q with ⟨oe, vs, he, hc, hd, h0, h1⟩ | t | ⟨env', r, L', el, hf', t⟩
  · subst hc
    exact wpAny_leaving_firstW hA ff hf he st hn hd h1 h0 fin
  · exact wpAny_leaving_nextW hA ff hf t st hn fin
  · cases el
    rw [hf] at hf'
    cases hf'
    unfold leaving
    refine wpAny_bind (wpAny_noteFrame_againW hf t ?_)
    exact wpAny_setFlight_noneW st ff t fun h' k1 k2 k3 k4 => h h' ⟨e, a0, rfl, k1, hn, k2.2.2, .inr (.inl k3)⟩ fun b o hb hn' => ⟨o.slots, k4 b o hb hn'⟩

/-- the flight marked with the frame's own number -/
theorem wp_flightSome {M : Model} {A : Around} {s : Shared} {base : Heap} {l : List Env} {e L : Addr} {C a0 fl : Value} {P : Unit → Shared → Prop} {E : Value → Shared → Prop} (st : base.StaysIn s.heap) (ff : s.heap.FunFrames base l) (t : s.heap.TracedAtW base e C a0 fl)
    (h : ∀ h', base.StaysIn h' → h'.FunFrames base l → h'.TracedAtW base e C a0 (rawInt L) → s.heap.UpToSlots h' → P () { s with heap := h' }) : wpAny M A (setFlight (.ref e) (some L)) P E s := by
  obtain ⟨oe, vs, T, oT, ts, he, hcls, hd, h1, hnT, hTe, hT, hdT, h3⟩ := t
  have hsz3 : 3 < ts.size := (Array.getElem?_eq_some_iff.mp h3).1
  have other : ∀ b, b ≠ T → (s.heap.update T (Obj.mapFields (·.setIfInBounds 3 ((some L : Option Addr).elim Value.none fun f => rawInt f)))).get? b = s.heap.get? b := fun b hb => Heap.get?_update_other _ _ (Ne.symm hb)
  have noRec : ∀ b o, s.heap.get? b = some o → (∀ vs, o.data ≠ .fields vs) → b ≠ T := fun b o hb hnf q => by
    rw [q, hT] at hb; injection hb with hb; subst hb; exact hnf ts hdT
  unfold setFlight
  refine wpAny_bind (wpAny_field he hd h1 ?_)
  rw [if_pos (show (Value.ref T != Value.none) = true from by simp)]
  refine wpAny_setField hT hdT hsz3 (h _ (fun b o hbo => (other b fun q => by rw [q, hnT] at hbo; cases hbo).trans (st b o hbo))
    (ff.of_keeps fun b o hb hnf => ⟨o, (other b (noRec b o hb hnf)).trans hb, rfl⟩) ?_ fun b o hb hnf => ⟨o.slots, (other b (noRec b o hb hnf)).trans hb⟩)
  exact ⟨oe, vs, T, _, _, (other e (Ne.symm hTe)).trans he, hcls, hd, h1, hnT, hTe, Heap.get?_update_self _ hT (Obj.isFreed_of_fields (Obj.data_mapFields hdT _)), Obj.data_mapFields hdT _, by simp [hsz3]⟩

/-- an exception notes the frame -/
theorem wp_note {M : Model} {A : Around} {s : Shared} {base : Heap} {env : Env} {l : List Env} {L : Addr} {C v : Value} {P : Unit → Shared → Prop} {E : Value → Shared → Prop} (hA : A.frames = some (env :: l)) (hf : env.frame = some L)
    (x : InFl base (env :: l) C v s.heap) (h : ∀ h' e a0, v = .ref e → base.StaysIn h' → base.get? e = none → h'.FunFrames base (env :: l) → h'.TracedAtW base e C a0 (rawInt L) → s.heap.UpToSlots h' → P () { s with heap := h' }) : wpAny M A (noteFrame v env) P E s := by
  obtain ⟨e, a0, rfl, st, hn, ff, q⟩ := x
  have fin : ∀ h', Heap.NotedW base (env :: l) e C a0 (rawInt L) s.heap h' → P () { s with heap := h' } := fun h' ⟨a, b, c, u⟩ => h h' e a0 rfl a hn b c u
  rcases q with ⟨oe, vs, he, hc, hd, h0, h1⟩ | t | ⟨env', r, L', el, hf', t⟩
  · subst hc
    unfold noteFrame
    simp only [hf]
    refine wpAny_bind (wpAny_field he hd h1 ?_)
    rw [if_neg (by decide)]
    exact wpAny_entryW hA ff hf he st hn hd (Array.getElem?_eq_some_iff.mp h1).1 h0 fin
  · exact wpAny_noteFrame_onW hA ff hf t st hn fin
  · cases el
    rw [hf] at hf'
    cases hf'
    exact wpAny_noteFrame_againW hf t (h _ e a0 rfl st hn ff t (.refl _))

theorem FnLit.top_env {F : FnLit} (h : F.host = none) (L : Addr) : F.top L = F.env L := by unfold FnLit.top; rw [h]
theorem FnLit.frame_env {F : FnLit} (h : F.host = none) (L : Addr) : (F.env L).frame = some L := by unfold FnLit.env; rw [h]
theorem passes_env {G : Glb} {A : Around} {env : Env} {L : Addr} {o : List Env} {X : Option Value} {g : Heap} {s : Shared} (hf : env.frame = some L) (hA : A.frames = some (env :: o)) : PassesOwn (model G.prog G.w) A env (ThrA G A X g s) := by
  intro v s' q
  obtain ⟨C, l, hX, hl, t⟩ := q
  obtain rfl : l = env :: o := Option.some.inj (hl.symm.trans hA)
  refine wp_note hA hf t.fl fun h' e a0 ev st hn ff tr u => ?_
  subst ev
  have tr' := tr
  obtain ⟨oe, vs, T, oT, ts, he, hcls, hd, h1, hnT, hTe, hT, hdT, h3⟩ := tr'
  refine wpAny_bind (wpAny_field (s := { s' with heap := h' }) he hd h1 ?_)
  rw [if_neg (by simp)]
  rw [hf]
  refine wp_flightSome (s := { s' with heap := h' }) st ff tr fun h'' k1 k2 k3 k4 => ?_
  exact ⟨C, _, hX, hA, ⟨e, a0, rfl, k1, hn, k2, .inr (.inr ⟨_, _, L, rfl, hf, k3⟩)⟩, t.ss.trans ⟨rfl, .refl _⟩, (t.up.trans u).trans k4⟩
theorem passes {G : Glb} {A : Around} {F : FnLit} {L : Addr} {o : List Env} {X : Option Value} {g : Heap} {s : Shared} (hh : F.host = none) (hA : A.frames = some (F.env L :: o)) : PassesOwn (model G.prog G.w) A (F.env L) (ThrA G A X g s) :=
  passes_env (FnLit.frame_env hh L) hA

/-- bound names and what is said of them -/
inductive BR (Z : FZ) : List (Str × Value) → List (Str × PV) → Prop
  | nil : BR Z [] []
  | cons {x : Str} {v : Value} {p : PV} {bs : List (Str × Value)} {ps : List (Str × PV)} : Rd Z v p → BR Z bs ps → BR Z ((x, v) :: bs) ((x, p) :: ps)
theorem BR.mem {Z : FZ} : ∀ {bs : List (Str × Value)} {ps : List (Str × PV)}, BR Z bs ps → ∀ q ∈ ps, ∃ v, (q.1, v) ∈ bs ∧ Rd Z v q.2
  | _, _, .cons r b, q, hq => by
    rcases List.mem_cons.mp hq with e | hq
    · subst e; exact ⟨_, .head _, r⟩
    · obtain ⟨v, a, c⟩ := b.mem q hq; exact ⟨v, .tail _ a, c⟩
theorem BR.names {Z : FZ} : ∀ {bs : List (Str × Value)} {ps : List (Str × PV)}, BR Z bs ps → bs.map (·.1) = ps.map (·.1)
  | _, _, .nil => rfl
  | _, _, .cons _ b => by simp [b.names]
theorem lookup_nodup {bs : List (Str × Value)} (hn : (bs.map (·.1)).Nodup) {x : Str} {v : Value} (h : (x, v) ∈ bs) : bs.lookup x = some v := by
  induction bs with
  | nil => cases h
  | cons b r ih =>
    obtain ⟨y, w⟩ := b
    rw [List.map_cons, List.nodup_cons] at hn
    rw [List.lookup_cons]
    rcases List.mem_cons.mp h with e | h
    · cases e; simp
    · have : (x == y) = false := beq_eq_false_iff_ne.mpr fun q => hn.1 (q ▸ List.mem_map_of_mem (f := (·.1)) h)
      rw [this]; exact ih hn.2 h

/-- the arguments bind to ps -/
def Bnds (G : Glb) (fd : FuncData) (as : List PV) (kws ps : List (Str × PV)) : Prop :=
  ∀ (s : Shared) (Z : FZ) (vs : List Value) (kvs : List (Str × Value)), G.K.In s.heap → RdL Z vs as → kvs.map (·.1) = kws.map (·.1) → RdL Z (kvs.map (·.2)) (kws.map (·.2)) → ∃ bs, BindsTo s fd ⟨vs, kvs⟩ bs ∧ BR Z bs ps

/-- a body's end -/
def RetP (R : PV → Prop) : FO → List (Addr × Obj) → List (Str × PV) → Prop
  | .ret p, _, _ => R p
  | .next, _, _ => R .none
  | _, _, _ => False

theorem fn_intro {G : Glb} (O : G.Ok) {f : Addr} {name qual : Str} {params : Arguments} {body : List Stmt} {scope : Scope} {dV kV doc pm cdv ct oc : Value} {an od : Option Addr} {osl : Array (Option Value)} {d : Nat} {as : List PV} {kws ps : List (Str × PV)} {R : PV → Prop} {X : Option Value}
    (ho : G.K.lookup f = some ⟨oc, od, .func (fnOf name qual params body scope dV kV doc pm an cdv ct), osl⟩) (hcd : codeIn G.K cdv qual = true)
    (hb : Bnds G (fnOf name qual params body scope dV kV doc pm an cdv ct) as kws ps)
    (h : Ex G ⟨qual, scope, f, cdv, true, [], none⟩ d [] ps body (RetP R) X)
    (hloc : (ps.all fun q => scope.names.lookup q.1 == some .local) = true) (hnd : (ps.map (·.1)).Nodup)
    (hcell : (scope.names.all fun q => q.2 != .cell) = true) (hco : scope.isCoroutine = false) (hgen : scope.isGenerator = false) (hk : scope.kind = .function) : Fn G (d + 1) (.ref f) as kws R X := by
  intro A l s Z vs kvs c sub r hkn rk
  have Xs := O.kin.keeps c.stay
  obtain ⟨bs, hbt, br⟩ := hb s Z vs kvs Xs r hkn rk
  refine codeAny_call_def (fd := fnOf name qual params body scope dV kV doc pm an cdv ct) (body := body) (binds := bs) (by have := c.room; omega) (Xs _ _ ho) rfl (O.top.nolimit.keeps c.stay) (codeRec_of Xs hcd) rfl hbt ?_ ?_ (fun h₁ hns hk₁ => ?_) hco hgen hk
  · intro x hx
    have := List.all_eq_true.mp hcell x hx
    simpa using this
  · intro x hx
    obtain ⟨q, hq, e⟩ : ∃ q ∈ ps, q.1 = x.1 := by
      have : x.1 ∈ ps.map (·.1) := br.names ▸ List.mem_map_of_mem hx
      obtain ⟨q, hq, e⟩ := List.mem_map.mp this
      exact ⟨q, hq, e⟩
    have := List.all_eq_true.mp hloc q hq
    rw [e] at this
    exact beq_iff_eq.mp this
  have hL : h₁.get? s.heap.objs.size ≠ none := by obtain ⟨o, _, _, ho, _⟩ := hns; rw [ho]; exact fun q => by cases q
  have bn : G.base.get? s.heap.objs.size = none := by
    cases q : G.base.get? s.heap.objs.size with
    | none => rfl
    | some o => exact absurd (Nat.lt_of_lt_of_le (Heap.lt_size q) c.bs) (Nat.lt_irrefl _)
  have lv : Live G ⟨qual, scope, f, cdv, true, [], none⟩ d (A.deeper (envOf qual scope s.heap.objs.size f cdv)) s.heap s.heap.objs.size Z Z [] h₁ (fun x => bs.reverse.lookup x) := {
    fr := ⟨hns, fun b o e => hk₁ b o (c.stay b o e), c.bs⟩
    up := Heap.UpToSlots.of_keeps hk₁
    ek := fun _ => hk₁
    og := fun _ hp => nomatch hp
    sz := Nat.le_refl _
    sub := sub.keeps hk₁
    zL := sub.none_at
    z0 := fun _ _ => rfl
    nw := fun _ hp => nomatch hp
    zo := fun _ hp => nomatch hp
    hd := c.hd
    stk := ⟨l, Around.frames_deeper c.fr, Heap.FunFrames.cons (by show scope.kind ≠ .module; rw [hk]; decide) rfl hns bn (c.ff.of_keeps fun b o e _ => ⟨o, hk₁ b o e, rfl⟩)⟩
    room := by have := c.room; show A.depth + 1 + d < _; omega
    unit := by have := c.unit; show A.units + 3 + 10 * d < _; omega
    kind := hk
    cel := fun _ hq => nomatch hq }
  have st : StR Z (fun x => bs.reverse.lookup x) ps := fun q hq => by
    obtain ⟨v, a, b⟩ := br.mem q hq
    refine ⟨v, ?_, b⟩
    have : (bs.reverse.map (·.1)).Nodup := by rw [List.map_reverse, br.names]; exact List.pairwise_reverse.mpr (hnd.imp fun h => Ne.symm h)
    exact lookup_nodup this (List.mem_reverse.mpr a)
  refine wpAny_mono (h _ s.heap s.heap.objs.size Z Z { s with heap := h₁, toks := s.toks + bs.length } _ lv st) (fun fl s' q => ?_) fun e s' q => ?_
  · obtain ⟨Z', m', own', σ', fo, k₁, l₁, q₁, st₁, fr, hQ⟩ := q
    obtain ⟨o', ho', ff'⟩ := l₁.stk
    have eo' : o' = l := by
      have : some (envOf qual scope s.heap.objs.size f cdv :: l) = some (envOf qual scope s.heap.objs.size f cdv :: o') := (Around.frames_deeper (env := envOf qual scope s.heap.objs.size f cdv) c.fr).symm.trans ho'
      injection this with this
      injection this with _ this
      exact this.symm
    have bk : Back G l Z Z' s s' := ⟨k₁, l₁.sub, l₁.ek rfl, l₁.z0, (SS.mk rfl (.refl _) : SS s { s with heap := h₁, toks := s.toks + bs.length }).trans q₁, eo' ▸ ff'.2.2, l₁.fr.keep⟩
    cases fl <;> cases fo <;> first | exact fr.elim | exact hQ.elim | skip
    · exact ⟨Z', .none, bk, .none, hQ⟩
    · exact ⟨Z', _, bk, fr, hQ⟩
  · obtain ⟨C, l', hX, hA, t⟩ := q
    have e' : envOf qual scope s.heap.objs.size f cdv :: l = l' := by
      have := (Around.frames_deeper (env := envOf qual scope s.heap.objs.size f cdv) c.fr).symm.trans hA
      exact Option.some.inj this
    subst e'
    refine wp_leave (Around.frames_deeper c.fr) rfl t.fl fun h' fl' u => ?_
    exact ⟨C, hX, fl', ((SS.mk rfl (.refl _) : SS s { s with heap := h₁, toks := s.toks + bs.length }).trans t.ss).trans ⟨rfl, .refl _⟩, t.up.trans u⟩
end Mine

namespace Mine
open PySem PySem.W PySem.Calls PyProof.Rows

/-! ## Arguments, calls, attributes, subscripts -/
def GotL (G : Glb) (F : FnLit) (d : Nat) (A : Around) (g : Heap) (L : Addr) (Z₀ Z : FZ) (own : List (Addr × Obj)) (m : Str → Option Value) (R : List PV → Prop) (s : Shared) (vs : List Value) (s' : Shared) : Prop :=
  ∃ Z' ps, FLe Z Z' ∧ Live G F d A g L Z₀ Z' own s'.heap m ∧ SS s s' ∧ RdL Z' vs ps ∧ R ps
def Evs (G : Glb) (F : FnLit) (d : Nat) (own : List (Addr × Obj)) (σ : List (Str × PV)) (es : List Expr) (R : List PV → Prop) (X : Option Value) : Prop :=
  ∀ A g L Z₀ Z s m pos, Live G F d A g L Z₀ Z own s.heap m → StR Z m σ →
    wpAny (model G.prog G.w) A (spliced (backTo pos (starEach es (F.env L)))) (GotL G F d A g L Z₀ Z own m R s) (ThrA G A X g s) s
def Evk (G : Glb) (F : FnLit) (d : Nat) (own : List (Addr × Obj)) (σ : List (Str × PV)) (ks : List Keyword) (R : List PV → Prop) (X : Option Value) : Prop :=
  ∀ A g L Z₀ Z s m pos, Live G F d A g L Z₀ Z own s.heap m → StR Z m σ →
    wpAny (model G.prog G.w) A (evalAll ((backToKw pos (keywordEach ks (F.env L))).map (·.2))) (GotL G F d A g L Z₀ Z own m R s) (ThrA G A X g s) s
/-- calling a value -/
def Cl (G : Glb) (F : FnLit) (d : Nat) (own : List (Addr × Obj)) (f : PV) (as : List PV) (ks : List (Str × PV)) (R : PV → Prop) (X : Option Value) : Prop :=
  ∀ A g L Z₀ Z s m fv vs kvs, Live G F d A g L Z₀ Z own s.heap m → Rd Z fv f → RdL Z vs as → kvs.map (·.1) = ks.map (·.1) → RdL Z (kvs.map (·.2)) (ks.map (·.2)) →
    wpAny (model G.prog G.w) A (call fv vs kvs) (Got G F d A g L Z₀ Z own m R s) (ThrA G A X g s) s
/-- what keeps the arguments of a call of f -/
def Kp (G : Glb) (f : PV) : Prop := ∀ Z h v, G.K.In h → Sub Z h → Rd Z v f → ∃ k, (k = Keeper.frame ∨ k = Keeper.machine ∨ k = Keeper.boundFrame) ∧ Looks (model G.prog G.w) h (keeperOf v) k
theorem kp_fn {G : Glb} {a : Addr} (h : keepIn G.K (.ref a) = true) : Kp G (.raw (.ref a)) := fun Z hh v x _ r => by cases r; exact keeps_K h hh x
theorem kp_bi {G : Glb} {id : String} : Kp G (.raw (.builtin id)) := fun Z hh v x _ r => by cases r; exact ⟨_, .inr (.inl rfl), .now⟩
theorem kp_ty {G : Glb} {T : String} : Kp G (.raw (.type T)) := fun Z hh v x _ r => by cases r; exact ⟨_, .inr (.inl rfl), .now⟩

/-- finding a method -/
def Mt (G : Glb) (F : FnLit) (d : Nat) (own : List (Addr × Obj)) (name : Str) (p : PV) (R : PV → List PV → Prop) (X : Option Value) : Prop :=
  ∀ A g L Z₀ Z s m v pl, Live G F d A g L Z₀ Z own s.heap m → Rd Z v p →
    wpAny (model G.prog G.w) A (getMethod v name pl) (fun fx s' => ∃ Z' f as, FLe Z Z' ∧ Live G F d A g L Z₀ Z' own s'.heap m ∧ SS s s' ∧ Rd Z' fx.1 f ∧ RdL Z' fx.2 as ∧ R f as) (ThrA G A X g s) s

theorem RdL.app {Z : FZ} : ∀ {vs : List Value} {l : List PV}, RdL Z vs l → ∀ {ws : List Value} {k : List PV}, RdL Z ws k → RdL Z (vs ++ ws) (l ++ k)
  | _, _, .nil, _, _, y => y
  | _, _, .cons a b, _, _, y => .cons a (b.app y)
theorem RdL.len {Z : FZ} : ∀ {vs : List Value} {l : List PV}, RdL Z vs l → vs.length = l.length
  | _, _, .nil => rfl
  | _, _, .cons _ b => by simp [b.len]

section
variable {G : Glb} {F : FnLit} {d : Nat} {own : List (Addr × Obj)} {σ : List (Str × PV)} {R : PV → Prop} {X : Option Value} {Rs : List PV → Prop}
  {A : Around} {g : Heap} {L : Addr} {Z₀ Z Z₁ : FZ} {s s₁ : Shared} {m : Str → Option Value}
theorem GotL.back {vs : List Value} {s' : Shared} (k : FLe Z Z₁) (q : SS s s₁) (x : GotL G F d A g L Z₀ Z₁ own m Rs s₁ vs s') : GotL G F d A g L Z₀ Z own m Rs s vs s' := by
  obtain ⟨Z', p, a, b, c, e⟩ := x
  exact ⟨Z', p, k.trans a, b, q.trans c, e⟩
theorem back_L {t : Sem (List Value)} (k : FLe Z Z₁) (q : SS s s₁) (x : wpAny (model G.prog G.w) A t (GotL G F d A g L Z₀ Z₁ own m Rs s₁) (ThrA G A X g s₁) s₁) :
    wpAny (model G.prog G.w) A t (GotL G F d A g L Z₀ Z own m Rs s) (ThrA G A X g s) s₁ := wpAny_mono x (fun _ _ z => z.back k q) fun _ _ z => z.back k q

theorem evs_nil (h : Rs []) : Evs G F d own σ [] Rs X := fun A g L Z₀ Z s m pos lv st => spliced_none ⟨Z, [], .refl _, lv, .refl _, .nil, h⟩
theorem evs_cons {e : Expr} {rest : List Expr} (h : Ev G F d own σ e (fun p => Evs G F d own σ rest (fun ps => Rs (p :: ps)) X) X) (he : ∀ env, starEach (e :: rest) env = (false, eval e env) :: starEach rest env := by intro _; rfl) : Evs G F d own σ (e :: rest) Rs X := by
  intro A g L Z₀ Z s m pos lv st
  refine spliced_more (wpAny_mono (h A g L Z₀ Z s m lv st) (fun v s₁ q => ?_) fun _ _ q => q) (he _)
  obtain ⟨Z₁, p, k₁, l₁, q₁, r₁, h₁⟩ := q
  refine wpAny_mono (h₁ A g L Z₀ Z₁ s₁ m pos l₁ (st.mono k₁)) (fun vs s₂ q => ?_) fun _ _ q => q.back k₁ q₁
  obtain ⟨Z₂, ps, k₂, l₂, q₂, r₂, h₂⟩ := q
  exact ⟨Z₂, p :: ps, k₁.trans k₂, l₂, q₁.trans q₂, .cons (r₁.mono k₂) r₂, h₂⟩
theorem evk_nil (h : Rs []) : Evk G F d own σ [] Rs X := fun A g L Z₀ Z s m pos lv st => wpAny_evalAll_nil ⟨Z, [], .refl _, lv, .refl _, .nil, h⟩
theorem evk_cons {n : Str} {e : Expr} {kp : Pos} {rest : List Keyword} (h : Ev G F d own σ e (fun p => Evk G F d own σ rest (fun ps => Rs (p :: ps)) X) X) : Evk G F d own σ (⟨some n, e, kp⟩ :: rest) Rs X := by
  intro A g L Z₀ Z s m pos lv st
  refine wpAny_evalAll_cons (wpAny_bind (wpAny_mono (h A g L Z₀ Z s m lv st) (fun v s₁ q => ?_) fun _ _ q => q))
  obtain ⟨Z₁, p, k₁, l₁, q₁, r₁, h₁⟩ := q
  refine wpAny_bind (wpAny_standAt (wpAny_pure ?_))
  refine wpAny_mono (h₁ A g L Z₀ Z₁ s₁ m pos l₁ (st.mono k₁)) (fun vs s₂ q => ?_) fun _ _ q => q.back k₁ q₁
  obtain ⟨Z₂, ps, k₂, l₂, q₂, r₂, h₂⟩ := q
  exact ⟨Z₂, p :: ps, k₁.trans k₂, l₂, q₁.trans q₂, .cons (r₁.mono k₂) r₂, h₂⟩

theorem wp_evalArgs {M : Model} {A : Around} {E : Value → Shared → Prop} {f : Value} {args : List (Bool × Sem Value)} {kws : List (Option Str × Sem Value)} {Q : Args → Shared → Prop} (hs : args.all (fun a => !a.1) = true) (hk : kws.all (·.1.isSome) = true)
    (h : wpAny M A (spliced args) (fun vs s₁ => wpAny M A (evalAll (kws.map (·.2))) (fun ks s₂ => Q ⟨vs, (kws.filterMap (·.1)).zip ks⟩ s₂) E s₁) E s) : wpAny M A (evalArgs f true args kws) Q E s := by
  rcases args with _ | ⟨⟨b, x⟩, rest⟩
  · exact evalArgs_kw_nil hk fun Γ p hΓ => h Γ p hΓ Γ p hΓ
  · rw [List.all_cons] at hs
    obtain ⟨h1, h2⟩ := Bool.and_eq_true_iff.mp hs
    cases b with
    | true => cases h1
    | false => exact evalArgs_kw hk h

/-- the names of keywords -/
def kwNames (ks : List Keyword) : List Str := ks.filterMap (·.arg)
theorem kw_names {env : Env} {pos : Pos} : ∀ ks : List Keyword, (backToKw pos (keywordEach ks env)).filterMap (·.1) = kwNames ks
  | [] => rfl
  | ⟨n, e, p⟩ :: r => by
    have := kw_names (env := env) (pos := pos) r
    show List.filterMap (·.1) ((n, _) :: backToKw pos (keywordEach r env)) = _
    unfold kwNames
    rw [List.filterMap_cons, List.filterMap_cons, this]
    rfl
theorem kw_some {env : Env} {pos : Pos} : ∀ ks : List Keyword, (backToKw pos (keywordEach ks env)).all (·.1.isSome) = ks.all (·.arg.isSome)
  | [] => rfl
  | ⟨n, e, p⟩ :: r => by
    have := kw_some (env := env) (pos := pos) r
    show List.all ((n, _) :: backToKw pos (keywordEach r env)) _ = _
    rw [List.all_cons, List.all_cons, this]
def plainArgs : List Expr → Bool
  | [] => true
  | .Starred _ _ :: _ => false
  | _ :: r => plainArgs r
theorem plain_star {env : Env} {pos : Pos} : ∀ {es : List Expr}, plainArgs es = true → (backTo pos (starEach es env)).all (fun a => !a.1) = true
  | [], _ => rfl
  | e :: r, h => by
    cases e <;> first | cases h | exact (Bool.and_eq_true_iff (x := true)).mpr ⟨rfl, plain_star (es := r) h⟩

theorem all_some_none {α : Type} (l : List (Option α × Sem Value)) (h : l.all (·.1.isSome) = true) : l.any (·.1.isNone) = false := by
  rw [List.any_eq_false]
  intro x hx
  have := List.all_eq_true.mp h x hx
  cases q : x.1 <;> simp_all
theorem all_false_any (l : List (Bool × Sem Value)) (h : l.all (fun a => !a.1) = true) : l.any (·.1) = false := by
  rw [List.any_eq_false]
  intro x hx
  have := List.all_eq_true.mp h x hx
  simpa using this

theorem zip_fst {Z : FZ} : ∀ {ws : List Value} {ps : List PV}, RdL Z ws ps → ∀ {ns : List Str}, ((ns.zip ws).map (·.1) = (ns.zip ps).map (·.1))
  | _, _, .nil, ns => by simp
  | _, _, .cons a b, [] => rfl
  | _, _, .cons a b, n :: ns => by simp [zip_fst b (ns := ns)]
theorem zip_snd {Z : FZ} : ∀ {ws : List Value} {ps : List PV}, RdL Z ws ps → ∀ {ns : List Str}, RdL Z ((ns.zip ws).map (·.2)) ((ns.zip ps).map (·.2))
  | _, _, .nil, ns => by simp; exact .nil
  | _, _, .cons a b, [] => .nil
  | _, _, .cons a b, n :: ns => .cons a (zip_snd b (ns := ns))

/-- callWith, from a frame -/
theorem wp_callWith (O : G.Ok) {pos : Pos} {fv : Value} {f : PV} {first : List Value} {ps : List PV} {args : List Expr} {kws : List Keyword} (hp : plainArgs args = true) (hk : kws.all (·.arg.isSome) = true)
    (lv : Live G F d A g L Z₀ Z own s.heap m) (st : StR Z m σ) (rf : Rd Z fv f) (r0 : RdL Z first ps) (kp : Kp G f)
    (h : Evs G F d own σ args (fun as => Evk G F d own σ kws (fun ks => Cl G F d own f (ps ++ as) ((kwNames kws).zip ks) R X) X) X) :
    wpAny (model G.prog G.w) A (callWith pos fv first (backTo pos (starEach args (F.env L))) (backToKw pos (keywordEach kws (F.env L)))) (Got G F d A g L Z₀ Z own m R s) (ThrA G A X g s) s := by
  have hs := plain_star (env := F.env L) (pos := pos) hp
  have hks : (backToKw pos (keywordEach kws (F.env L))).all (·.1.isSome) = true := by rw [kw_some]; exact hk
  refine callWith_of (P := fun hh => G.K.In hh ∧ ∃ Z', Sub Z' hh ∧ Rd Z' fv f) (by rw [all_false_any _ hs, all_some_none _ hks]; rfl) (fun hh ⟨a, Z', b, c⟩ => kp Z' hh fv a b c) ?_
  refine wp_evalArgs hs hks (wpAny_mono (h A g L Z₀ Z s m pos lv st) (fun vs s₁ q => ?_) fun _ _ q => q)
  obtain ⟨Z₁, as, k₁, l₁, q₁, r₁, h₁⟩ := q
  refine wpAny_mono (h₁ A g L Z₀ Z₁ s₁ m pos l₁ (st.mono k₁)) (fun ws s₂ q => ?_) fun _ _ q => q.back k₁ q₁
  obtain ⟨Z₂, ks, k₂, l₂, q₂, r₂, h₂⟩ := q
  refine ⟨⟨O.kin.keeps l₂.fr.keep, Z₂, l₂.sub, (rf.mono k₁).mono k₂⟩, ?_⟩
  rw [kw_names]
  exact back_G (k₁.trans k₂) (q₁.trans q₂) (h₂ A g L Z₀ Z₂ s₂ m fv _ _ l₂ ((rf.mono k₁).mono k₂) (((r0.mono k₁).mono k₂).app (r₁.mono k₂)) (zip_fst r₂) (zip_snd r₂))

theorem ev_call (O : G.Ok) {func : Expr} {args : List Expr} {kws : List Keyword} {pos : Pos}
    (h : Ev G F d own σ func (fun f => Kp G f ∧ Evs G F d own σ args (fun as => Evk G F d own σ kws (fun ks => Cl G F d own f as ((kwNames kws).zip ks) R X) X) X) X)
    (hp : plainArgs args = true := by rfl) (hk : kws.all (·.arg.isSome) = true := by rfl)
    (he : ∀ env, eval (.Call func args kws pos) env = (do callWith pos (← eval func env) [] (backTo pos (starEach args env)) (backToKw pos (keywordEach kws env))) := by intro _; rfl) :
    Ev G F d own σ (.Call func args kws pos) R X := by
  intro A g L Z₀ Z s m lv st
  rw [he]
  refine wpAny_bind (wpAny_mono (h A g L Z₀ Z s m lv st) (fun fv s₁ q => ?_) fun _ _ q => q)
  obtain ⟨Z₁, f, k₁, l₁, q₁, r₁, kp, h₁⟩ := q
  exact back_G k₁ q₁ (wp_callWith (ps := []) O hp hk l₁ (st.mono k₁) r₁ .nil kp h₁)

theorem ev_meth (O : G.Ok) {o : Expr} {name : Str} {args : List Expr} {kws : List Keyword} {apos pos : Pos}
    (h : Ev G F d own σ o (fun p => Mt G F d own name p (fun f as₀ => Kp G f ∧ Evs G F d own σ args (fun as => Evk G F d own σ kws (fun ks => Cl G F d own f (as₀ ++ as) ((kwNames kws).zip ks) R X) X) X) X) X)
    (hp : plainArgs args = true := by rfl) (hk : kws.all (·.arg.isSome) = true := by rfl)
    (he : ∀ env, ∃ pl : Sem Bool, eval (.Call (.Attribute o name apos) args kws pos) env = (do
      let ov ← eval o env
      standAt apos.atName
      let (f, first) ← holding [ov] (getMethod ov name pl)
      callWith pos f first (backTo pos (starEach args env)) (backToKw pos (keywordEach kws env))) := by intro _; exact ⟨_, rfl⟩) :
    Ev G F d own σ (.Call (.Attribute o name apos) args kws pos) R X := by
  intro A g L Z₀ Z s m lv st
  obtain ⟨pl, e⟩ := he (F.env L)
  refine methodCall_KW (wpAny_mono (h A g L Z₀ Z s m lv st) (fun ov s₁ q => ?_) fun _ _ q => q) e
  obtain ⟨Z₁, p, k₁, l₁, q₁, r₁, h₁⟩ := q
  refine wpAny_mono (h₁ A g L Z₀ Z₁ s₁ m ov pl l₁ r₁) (fun fx s₂ q => ?_) fun _ _ q => q.back k₁ q₁
  obtain ⟨Z₂, f, as, k₂, l₂, q₂, rf, ra, kp, h₂⟩ := q
  exact back_G (k₁.trans k₂) (q₁.trans q₂) (wp_callWith O hp hk l₂ (st.mono (k₁.trans k₂)) rf ra kp h₂)

theorem cl_fn {d' : Nat} {f : Value} {as : List PV} {ks : List (Str × PV)} (T : Fn G d' f as ks R X) (hd : d' ≤ d) : Cl G F d own (.raw f) as ks R X := by
  intro A g L Z₀ Z s m fv vs kvs lv rf r hk rk
  cases rf
  exact wp_call T lv hd r hk rk

theorem ev_attr {e : Expr} {attr : Str} {pos : Pos} (h : Ev G F d own σ e (fun p => D1 G F d own (fun v => getAttr v attr true) p R X) X)
    (he : ∀ env, eval (.Attribute e attr pos) env = (do
      let o ← eval e env
      standAt pos.atName
      let r ← holding [o] (getAttr o attr true)
      letTemporaryGo e o r
      pure r) := by intro _; with_unfolding_all rfl) : Ev G F d own σ (.Attribute e attr pos) R X := by
  intro A g L Z₀ Z s m lv st
  refine Attribute_any_ (wpAny_mono (h A g L Z₀ Z s m lv st) (fun v s₁ q => ?_) fun _ _ q => q) (he _)
  obtain ⟨Z₁, p, k₁, l₁, q₁, r₁, h₁⟩ := q
  exact back_G k₁ q₁ (h₁ A g L Z₀ Z₁ s₁ m v l₁ r₁)
/-- a subscript's reading -/
theorem ev_sub {e i : Expr} {pos : Pos} (h : Ev G F d own σ e (fun a => Ev G F d own σ i (fun b => D2 G F d own (subscriptTail e i) a b R X) X) X) : Ev G F d own σ (.Subscript e i pos) R X := by
  intro A g L Z₀ Z s m lv st
  refine Subscript_ (wpAny_mono (h A g L Z₀ Z s m lv st) (fun v s₁ q => ?_) fun _ _ q => q)
  obtain ⟨Z₁, p, k₁, l₁, q₁, r₁, h₁⟩ := q
  refine wpAny_mono (h₁ A g L Z₀ Z₁ s₁ m l₁ (st.mono k₁)) (fun w s₂ q => ?_) fun _ _ q => q.back k₁ q₁
  obtain ⟨Z₂, p₂, k₂, l₂, q₂, r₂, h₂⟩ := q
  exact back_G (k₁.trans k₂) (q₁.trans q₂) (h₂ A g L Z₀ Z₂ s₂ m v w l₂ (r₁.mono k₂) r₂)

/-- an attribute of an instance's own -/
theorem InstAt.of_rd {Z : FZ} {h : Heap} {a C : Addr} {fs : List (Str × PV)} (S : Sub Z h) (r : Rd Z (.ref a) (.inst C fs)) :
    ∃ ox od es n, InstAt h a ox C (some od) ∧ od.data = .dict es n ∧ RdF Z es.toList fs ∧ (∃ dx, ox.dict = some dx ∧ h.get? dx = some od) := by
  cases r with
  | @inst _ _ dx o od es n _ h1 h2 h3 h4 h5 h6 h7 =>
    have e1 := S _ _ h1
    have e2 := S _ _ h5
    refine ⟨_, od, _, _, ⟨e1, h2, ?_, ?_⟩, h6, by simpa using h7, _, h3, e2⟩
    · unfold notCls; rw [h4]
    · rw [h3]; exact e2
theorem RdF.get {Z : FZ} {x : Str} {p : PV} : ∀ {es : List DictEntry} {fs : List (Str × PV)}, RdF Z es fs → fs.lookup x = some p → ∃ e v, es.find? (·.key.isStr x) = some e ∧ e.val = v ∧ Rd Z v p ∧ handedIn v = true
  | _, _, .cons (x := y) hk hh hr hs, hl => by
    rw [List.lookup_cons] at hl
    rw [List.find?_cons]
    by_cases q : x = y
    · subst q
      simp only [beq_self_eq_true, Option.some.injEq] at hl
      subst hl
      rw [hk]
      simp only [Value.isStr, beq_self_eq_true]
      exact ⟨_, _, rfl, rfl, hr, hh⟩
    · have : (x == y) = false := beq_eq_false_iff_ne.mpr q
      rw [this] at hl
      rw [hk]
      have q2 : (y == x) = false := beq_eq_false_iff_ne.mpr (Ne.symm q)
      simp only [Value.isStr, q2]
      exact hs.get hl
theorem RdF.none {Z : FZ} {x : Str} : ∀ {es : List DictEntry} {fs : List (Str × PV)}, RdF Z es fs → fs.lookup x = .none → es.find? (·.key.isStr x) = Option.none
  | _, _, .nil, _ => rfl
  | _, _, .cons (x := y) hk hh hr hs, hl => by
    rw [List.lookup_cons] at hl
    rw [List.find?_cons, hk]
    by_cases q : x = y
    · subst q; simp at hl
    · have : (x == y) = false := beq_eq_false_iff_ne.mpr q
      rw [this] at hl
      have q2 : (y == x) = false := beq_eq_false_iff_ne.mpr (Ne.symm q)
      simp only [Value.isStr, q2]
      exact hs.none hl
theorem RdF.strs {Z : FZ} : ∀ {es : List DictEntry} {fs : List (Str × PV)}, RdF Z es fs → es.any (·.refKey) = false
  | _, _, .nil => rfl
  | _, _, .cons hk _ _ hs => by
    rw [List.any_cons, hs.strs, Bool.or_false]
    unfold DictEntry.refKey; rw [hk]

theorem d1_field (O : G.Ok) {C : Addr} {fs : List (Str × PV)} {name : Str} {p : PV} {attr : Option Value} (hl : fs.lookup name = some p) (h : R p)
    (hg : plainGet G.K C name = true) (hh : hasDictIn G.K C = true) (ha : findIn G.K (.ref C) name = some attr) (hn : noGet G.K attr = true) : D1 G F d own (fun v => getAttr v name true) (.inst C fs) R X := by
  intro A g L Z₀ Z s m v lv r
  obtain ⟨a, rfl⟩ : ∃ a, v = .ref a := by cases r; exact ⟨_, rfl⟩
  obtain ⟨ox, od, es, n, I, hd, rf, _⟩ := InstAt.of_rd lv.sub r
  obtain ⟨e, v, hf, hv, hr, hhd⟩ := rf.get hl
  refine get_value (O.kin.keeps lv.fr.keep) I (plainGet_of hg).1 (findObj_own hh ha hn ?_) hhd ⟨Z, p, .refl _, lv, .tk _, hr, h⟩
  unfold lookIn
  rw [hd]
  dsimp only
  rw [hf, ← hv]
theorem mt_inst (O : G.Ok) {C : Addr} {fs : List (Str × PV)} {name : Str} {f : Addr} {Rm : PV → List PV → Prop} (hl : fs.lookup name = none) (h : Rm (.raw (.ref f)) [.inst C fs])
    (hg : plainGet G.K C name = true) (hf : findIn G.K (.ref C) name = some (some (.ref f))) (ht : isFn G.K (.ref f) = true) : Mt G F d own name (.inst C fs) Rm X := by
  intro A g L Z₀ Z s m v pl lv r
  obtain ⟨a, rfl⟩ : ∃ a, v = .ref a := by cases r; exact ⟨_, rfl⟩
  obtain ⟨ox, od, es, n, I, hd, rf, _⟩ := InstAt.of_rd lv.sub r
  refine method_fn (O.kin.keeps lv.fr.keep) I (plainGet_of hg).1 (plainGet_of hg).2 hf (beq_iff_eq.mp ht) ?_ ⟨Z, _, _, .refl _, lv, .refl _, .raw _, .cons r .nil, h⟩
  show (lookIn name od).map _ = _
  unfold lookIn
  rw [hd]
  dsimp only
  rw [rf.none hl]
  dsimp only
  rw [rf.strs]
  rfl
end
end Mine

namespace Mine
open PySem PySem.W PySem.Calls PyProof.Rows

/-! ## Operations on values -/
section
variable {G : Glb} {F : FnLit} {d : Nat} {own : List (Addr × Obj)} {σ : List (Str × PV)} {R : PV → Prop} {X : Option Value} {B : Bool → Prop} {a b : Int} {x y : Str}

theorem got_tk {A : Around} {g : Heap} {L : Addr} {Z₀ Z : FZ} {s : Shared} {m : Str → Option Value} {v : Value} {p : PV} {t : Nat} (l : Live G F d A g L Z₀ Z own s.heap m) (r : Rd Z v p) (h : R p) : Got G F d A g L Z₀ Z own m R s v { s with toks := t } := ⟨Z, p, .refl _, l, .tk _, r, h⟩
theorem gotB_now {A : Around} {g : Heap} {L : Addr} {Z₀ Z : FZ} {s : Shared} {m : Str → Option Value} {b : Bool} (l : Live G F d A g L Z₀ Z own s.heap m) (h : B b) : GotB G F d A g L Z₀ Z own m B s b s := ⟨Z, .refl _, l, .refl _, h⟩

theorem d2_add (h : R (.int (a + b))) : D2 G F d own (binaryOp .Add) (.int a) (.int b) R X := by
  intro A g L Z₀ Z s m v w lv r r'; cases r; cases r'; with_reducible refine add_int ?_; exact got_tk lv (.int _ _) h
theorem d2_sub (h : R (.int (a - b))) : D2 G F d own (binaryOp .Sub) (.int a) (.int b) R X := by
  intro A g L Z₀ Z s m v w lv r r'; cases r; cases r'; with_reducible refine sub_int ?_; exact got_tk lv (.int _ _) h
theorem d2_mul (h : R (.int (a * b))) (hm : IntMulOk a b) : D2 G F d own (binaryOp .Mult) (.int a) (.int b) R X := by
  intro A g L Z₀ Z s m v w lv r r'; cases r; cases r'; with_reducible refine mul_int ?_ hm; exact got_tk lv (.int _ _) h
theorem d2_mod (h : R (.int (a.fmod b))) (hb : b ≠ 0) : D2 G F d own (binaryOp .Mod) (.int a) (.int b) R X := by
  intro A g L Z₀ Z s m v w lv r r'; cases r; cases r'; with_reducible refine mod_int' hb ?_; exact got_tk lv (.int _ _) h
theorem d2_pow (h : R (.int (a ^ b.toNat))) (hn : 0 ≤ b) (hs : (Builtin.Int.intBits a : Int) * b ≤ 2 ^ 27) : D2 G F d own (binaryOp .Pow) (.int a) (.int b) R X := by
  intro A g L Z₀ Z s m v w lv r r'; cases r; cases r'; with_reducible refine pow_int hn hs ?_; exact got_tk lv (.int _ _) h
theorem d2_iadd (h : R (.int (a + b))) : D2 G F d own (inplaceOp .Add) (.int a) (.int b) R X := by
  intro A g L Z₀ Z s m v w lv r r'; cases r; cases r'; with_reducible refine iadd_int ?_; exact got_tk lv (.int _ _) h
theorem d1_neg (h : R (.int (-a))) : D1 G F d own (unaryOp .USub) (.int a) R X := by
  intro A g L Z₀ Z s m v lv r; cases r; with_reducible refine neg_int ?_; exact got_tk lv (.int _ _) h
theorem d2_lt (h : R (.bool (decide (a < b)))) : D2 G F d own (compareOp .Lt) (.int a) (.int b) R X := by
  intro A g L Z₀ Z s m v w lv r r'; cases r; cases r'; with_reducible refine lt_int ?_; exact Got.of lv (.bool _) h
theorem d2_gt (h : R (.bool (decide (b < a)))) : D2 G F d own (compareOp .Gt) (.int a) (.int b) R X := by
  intro A g L Z₀ Z s m v w lv r r'; cases r; cases r'; with_reducible refine gt_int ?_; exact Got.of lv (.bool _) h
theorem d2_le (h : R (.bool (decide (a ≤ b)))) : D2 G F d own (compareOp .LtE) (.int a) (.int b) R X := by
  intro A g L Z₀ Z s m v w lv r r'; cases r; cases r'; with_reducible refine le_int ?_; exact Got.of lv (.bool _) h
theorem d2_ge (h : R (.bool (decide (b ≤ a)))) : D2 G F d own (compareOp .GtE) (.int a) (.int b) R X := by
  intro A g L Z₀ Z s m v w lv r r'; cases r; cases r'; with_reducible refine ge_int ?_; exact Got.of lv (.bool _) h
theorem d2_eq (h : R (.bool (a == b))) : D2 G F d own (compareOp .Eq) (.int a) (.int b) R X := by
  intro A g L Z₀ Z s m v w lv r r'; cases r; cases r'; with_reducible refine eq_int ?_; exact Got.of lv (.bool _) h
theorem d2_ne (h : R (.bool (a != b))) : D2 G F d own (compareOp .NotEq) (.int a) (.int b) R X := by
  intro A g L Z₀ Z s m v w lv r r'; cases r; cases r'; with_reducible refine ne_int ?_; exact Got.of lv (.bool _) h
theorem d2_fdiv (O : G.Ok) (h : R (.int (a.fdiv b))) (hb : b ≠ 0) (hd : 100 ≤ d) (hg : F.scope.isGenerator = false := by rfl) (hc : F.scope.isCoroutine = false := by rfl) (hh : F.host = none := by rfl) : D2 G F d own (binaryOp .FloorDiv) (.int a) (.int b) R X := by
  intro A g L Z₀ Z s m v w lv r r'; cases r; cases r'
  obtain ⟨o, hA, ff⟩ := lv.stk
  rw [FnLit.top_env hh] at hA ff
  refine floordiv_int hb (got_tk lv (.int _ _) h) (.inr (PySem.PylongRoom.of (O.top.nolimit.keeps lv.fr.keep) (by have := lv.room; show A.depth + 100 < _; omega) (PySem.SeerAt.of ((O.top.seer O.imp).keeps lv.fr.keep) O.notree hA (by rw [F.scope_env]; exact hg) (by rw [F.scope_env]; exact hc) (F.builtins_env L) (F.globals_env L))))
theorem tr_int (h : B (a != 0)) : Tr G F d own (.int a) B X := by
  intro A g L Z₀ Z s m v lv r; cases r; with_reducible refine PySem.P.truthy_int ?_; exact gotB_now lv h
theorem d2_sadd (h : R (.str (x ++ y))) (hs : x.length + y.length ≤ sizeLine) : D2 G F d own (binaryOp .Add) (.str x) (.str y) R X := by
  intro A g L Z₀ Z s m v w lv r r'; cases r; cases r'; with_reducible refine add_str (fun t tk => ?_) hs; exact got_tk lv (.str _ _) h
theorem d2_seq (h : R (.bool (x == y))) : D2 G F d own (compareOp .Eq) (.str x) (.str y) R X := by
  intro A g L Z₀ Z s m v w lv r r'; cases r; cases r'; with_reducible refine eq_str ?_; exact Got.of lv (.bool _) h
theorem d2_sne (h : R (.bool (x != y))) : D2 G F d own (compareOp .NotEq) (.str x) (.str y) R X := by
  intro A g L Z₀ Z s m v w lv r r'; cases r; cases r'; with_reducible refine ne_str ?_; exact Got.of lv (.bool _) h
theorem d2_sin (h : R (.bool !(Builtin.Str.occurrences x y 0 x.length 1).isEmpty)) : D2 G F d own (compareOp .In) (.str y) (.str x) R X := by
  intro A g L Z₀ Z s m v w lv r r'; cases r; cases r'; with_reducible refine in_str ?_; exact Got.of lv (.bool _) h
theorem cl_abs (h : R (.int (if a < 0 then -a else a))) : Cl G F d own (.raw (.builtin "abs")) [.int a] [] R X := by
  intro A g L Z₀ Z s m fv vs kvs lv rf r hk rk
  obtain rfl : kvs = [] := by simpa using hk
  cases rf; cases r with | cons r r' => cases r; cases r'; with_reducible refine call_abs_int fun u tk => ?_; exact got_tk lv (.int _ _) h
end
end Mine

namespace Mine
open PySem PySem.W PySem.Calls PyProof.Rows

section
variable {G : Glb} {F : FnLit} {d : Nat} {own : List (Addr × Obj)} {σ : List (Str × PV)} {R : PV → Prop} {X : Option Value} {B : Bool → Prop} {a b : Int} {x y : Str}
theorem Rd.isList {Z : FZ} {h : Heap} {v : Value} {l : List PV} (S : Sub Z h) (r : Rd Z v (.lst l)) : ∃ a vs, v = .ref a ∧ h.IsList a vs ∧ RdL Z vs.toList l := by
  cases r with
  | lst h1 h2 h3 h4 => exact ⟨_, _, rfl, ⟨_, S _ _ h1, h2, _, h3⟩, h4⟩
theorem Rd.isTup {Z : FZ} {h : Heap} {v : Value} {l : List PV} (S : Sub Z h) (r : Rd Z v (.tup l)) : ∃ a vs n, v = .ref a ∧ h.get? a = some { cls := .type "tuple", data := .seq vs n } ∧ RdL Z vs.toList l := by
  cases r with
  | tup h1 h2 => exact ⟨_, _, _, rfl, S _ _ h1, h2⟩
theorem RdL.get {Z : FZ} : ∀ {vs : List Value} {l : List PV} {i : Nat} {p : PV}, RdL Z vs l → l[i]? = some p → ∃ v, vs[i]? = some v ∧ Rd Z v p
  | _, _, 0, _, .cons a b, e => by cases e; exact ⟨_, rfl, a⟩
  | _, _, i + 1, _, .cons a b, e => by simp only [List.getElem?_cons_succ] at e ⊢; exact b.get e

theorem cl_lenL {l : List PV} (h : R (.int l.length)) (hs : l.length < 2 ^ 60) : Cl G F d own (.raw (.builtin "len")) [.lst l] [] R X := by
  intro A g L Z₀ Z s m fv vs kvs lv rf r hk rk
  obtain rfl : kvs = [] := by simpa using hk
  cases rf
  cases r with | cons r r' =>
  cases r'
  obtain ⟨a, vs, rfl, hl, rl⟩ := r.isList lv.sub
  have e : vs.size = l.length := by rw [← rl.len, Array.length_toList]
  refine call_len_list hl (by rw [e]; omega) ?_
  rw [e]
  exact got_tk lv (.int _ _) h
theorem cl_lenS (h : R (.int x.length)) (hs : x.length < 2 ^ 60) : Cl G F d own (.raw (.builtin "len")) [.str x] [] R X := by
  intro A g L Z₀ Z s m fv vs kvs lv rf r hk rk
  obtain rfl : kvs = [] := by simpa using hk
  cases rf
  cases r with | cons r r' =>
  cases r'
  cases r
  exact PyProof.Rows.len_str (by omega) (got_tk lv (.int _ _) h)
theorem slot_sub {value slice : Expr} {o i : Value} {T id : String} {A : Around} {E : Value → Shared → Prop} {s : Shared} {Q : Value → Shared → Prop} (hT : s.TypeIs o T) (hl : typeLookup (.type T) "__getitem__" = pure (some (.builtin id))) (hg : wpAny (model G.prog G.w) A (getItem o i) Q E s)
    (hs : ∃ ops, subscripted slice false o i = operate ops (getItem o i)) : wpAny (model G.prog G.w) A (subscriptTail value slice o i) Q E s := by
  obtain ⟨ops, e⟩ := hs
  exact tail_any hT hl hg e
/-- an item of a list at an index in its bounds -/
theorem d2_itemL {e i : Expr} {l : List PV} {k : Int} {p : PV} (h0 : 0 ≤ k) (hk : k < 2 ^ 60) (hp : l[k.toNat]? = some p) (h : R p) (hs : ∀ o i', ∃ ops, subscripted i false o i' = operate ops (getItem o i') := by intro _ _; exact ⟨_, rfl⟩) : D2 G F d own (subscriptTail e i) (.lst l) (.int k) R X := by
  intro A g L Z₀ Z s m v w lv r r'
  cases r'
  obtain ⟨a, vs, rfl, hl, rl⟩ := r.isList lv.sub
  obtain ⟨v, hv, rv⟩ := rl.get hp
  exact slot_sub hl.typeIs slot_list_getitem.lookup (wpAny_getItem_list hl h0 (by omega) (by rw [← Array.getElem?_toList]; exact hv) (Got.of lv rv h)) (hs _ _)
theorem d2_itemT {e i : Expr} {l : List PV} {k : Int} {p : PV} (h0 : 0 ≤ k) (hk : k < 2 ^ 60) (hp : l[k.toNat]? = some p) (h : R p) (hs : ∀ o i', ∃ ops, subscripted i false o i' = operate ops (getItem o i') := by intro _ _; exact ⟨_, rfl⟩) : D2 G F d own (subscriptTail e i) (.tup l) (.int k) R X := by
  intro A g L Z₀ Z s m v w lv r r'
  cases r'
  obtain ⟨a, vs, n, rfl, hl, rl⟩ := r.isTup lv.sub
  obtain ⟨v, hv, rv⟩ := rl.get hp
  have it : IsTup s.heap a vs := ⟨_, hl, rfl, _, rfl⟩
  have hv' : vs[k.toNat]? = some v := by rw [← Array.getElem?_toList]; exact hv
  have hlt : k.toNat < vs.size := (Array.getElem?_eq_some_iff.mp hv').1
  refine slot_sub it.typeIs slot_tuple_getitem.lookup (PyProof.Rows.getItem_tuple (j := k.toNat) it (by omega) (by omega) ?_ hv' (Got.of lv rv h)) (hs _ _)
  unfold seqIndex?
  rw [if_neg (show ¬ k < 0 by omega)]
  have : (decide (0 ≤ k) && decide (k < (vs.size : Int))) = true := by
    rw [Bool.and_eq_true_iff, decide_eq_true_eq, decide_eq_true_eq]; omega
  simp only [this, if_true]
theorem cl_int (h : R (.int a)) : Cl G F d own (.raw (.type "int")) [.int a] [] R X := by
  intro A g L Z₀ Z s m fv vs kvs lv rf r hk rk
  obtain rfl : kvs = [] := by simpa using hk
  cases rf
  cases r with | cons r r' =>
  cases r'
  cases r
  exact PySem.call_int_int (Got.of lv (.int _ _) h)
end
end Mine

namespace Mine
open PySem PySem.W PySem.Calls PyProof.Rows

/-! ## Loops -/
/-- a turn's end -/
def LoopQ {α : Type} (G : Glb) (F : FnLit) (d : Nat) (own : List (Addr × Obj)) (τ : α → List (Str × PV)) (W : α → Prop) (μ : α → Nat) (a : α) (rest : List Stmt) (Q : FO → List (Addr × Obj) → List (Str × PV) → Prop) (X : Option Value) : FO → List (Addr × Obj) → List (Str × PV) → Prop
  | .next, o, σ => o = own ∧ ∃ b, W b ∧ μ b < μ a ∧ ∀ q ∈ τ b, q ∈ σ
  | .cont, o, σ => o = own ∧ ∃ b, W b ∧ μ b < μ a ∧ ∀ q ∈ τ b, q ∈ σ
  | .brk, o, σ => Ex G F d o σ rest Q X
  | .ret p, o, σ => Q (.ret p) o σ

section
variable {G : Glb} {F : FnLit} {d : Nat} {own : List (Addr × Obj)} {σ : List (Str × PV)} {R : PV → Prop} {X : Option Value} {B : Bool → Prop} {Q : FO → List (Addr × Obj) → List (Str × PV) → Prop}

theorem ex_while {α : Type} {test : Expr} {body rest : List Stmt} {pos : Pos} (τ : α → List (Str × PV)) (W : α → Prop) (μ : α → Nat) (a₀ : α) (h0 : W a₀) (hσ : ∀ q ∈ τ a₀, q ∈ σ) (hh : F.host = none)
    (turn : ∀ a, W a → Ts G F d own (τ a) test (fun c => if c then Ex G F d own (τ a) body (LoopQ G F d own τ W μ a rest Q X) X else Ex G F d own (τ a) rest Q X) X) : Ex G F d own σ (.While test body [] pos :: rest) Q X := by
  refine ex_cons fun A g L Z₀ Z s m lv st => ?_
  obtain ⟨o, hA, _⟩ := lv.stk
  rw [FnLit.top_env hh] at hA
  have ps := passes (G := G) (X := X) (g := g) (s := s) hh hA
  refine wpAny_While (codeAny_whileLoop (fun n s' => ∃ a m' Z', W a ∧ μ a = n ∧ FLe Z Z' ∧ Live G F d A g L Z₀ Z' own s'.heap m' ∧ SS s s' ∧ StR Z' m' (τ a)) (fun n s' hI => ?_) (μ a₀)
    ⟨a₀, m, Z, h0, rfl, .refl _, lv, .refl _, fun q hq => st q (hσ q hq)⟩)
  obtain ⟨a, m', Z', hW, rfl, k, l', q', st'⟩ := hI
  refine wpAny_mono (turn a hW A g L Z₀ Z' s' m' l' st') (fun c s₂ q => ?_) fun e s₂ q => ps e s₂ (q.back k q')
  obtain ⟨Z₂, k₂, l₂, q₂, h₂⟩ := q
  cases c with
  | false =>
    simp only [Bool.false_eq_true, if_false] at h₂ ⊢
    exact wpAny_execs_nil ⟨Z₂, m', own, τ a, .next, k.trans k₂, l₂, q'.trans q₂, st'.mono k₂, trivial, h₂⟩
  | true =>
    simp only [if_true] at h₂ ⊢
    refine wpAny_mono (h₂ A g L Z₀ Z₂ s₂ m' l₂ (st'.mono k₂)) (fun f s₃ q => ?_) fun e s₃ q => ps e s₃ (q.back (k.trans k₂) (q'.trans q₂))
    obtain ⟨Z₃, m₃, own₃, σ₃, fo, k₃, l₃, q₃, st₃, fr, h₃⟩ := q
    cases f <;> cases fo <;> first | exact fr.elim | skip
    · obtain ⟨rfl, b, hb, hm, hs⟩ := h₃
      exact ⟨μ b, hm, b, m₃, Z₃, hb, rfl, (k.trans k₂).trans k₃, l₃, (q'.trans q₂).trans q₃, fun q hq => st₃ q (hs q hq)⟩
    · exact ⟨Z₃, m₃, own₃, σ₃, .next, (k.trans k₂).trans k₃, l₃, (q'.trans q₂).trans q₃, st₃, trivial, h₃⟩
    · obtain ⟨rfl, b, hb, hm, hs⟩ := h₃
      exact ⟨μ b, hm, b, m₃, Z₃, hb, rfl, (k.trans k₂).trans k₃, l₃, (q'.trans q₂).trans q₃, fun q hq => st₃ q (hs q hq)⟩
    · exact ⟨Z₃, m₃, own₃, σ₃, .ret _, (k.trans k₂).trans k₃, l₃, (q'.trans q₂).trans q₃, st₃, fr, h₃⟩
end
end Mine

namespace Mine
open PySem PySem.W PySem.Calls PyProof.Rows

inductive LMem : List (Str × PV) → Str → PV → Prop
  | head {x : Str} {p : PV} {σ : List (Str × PV)} : LMem ((x, p) :: σ) x p
  | tail {x : Str} {p : PV} {q : Str × PV} {σ : List (Str × PV)} : LMem σ x p → LMem (q :: σ) x p
theorem LMem.mem {σ : List (Str × PV)} {x : Str} {p : PV} (h : LMem σ x p) : (x, p) ∈ σ := by
  induction h with
  | head => exact .head _
  | tail _ ih => exact .tail _ ih
theorem PutR.drop {x : Str} {p : PV} {q : Str × PV} {σ σ' : List (Str × PV)} (h : PutR σ x p σ') : PutR (q :: σ) x p σ' := fun r hr => (h r hr).imp id fun ⟨a, b⟩ => ⟨.tail _ a, b⟩
theorem PutR.pass {x y : Str} {p q : PV} {σ σ' : List (Str × PV)} (hn : (y == x) = false) (h : PutR σ x p σ') : PutR ((y, q) :: σ) x p ((y, q) :: σ') := .miss (beq_eq_false_iff_ne.mp hn) h
/-- all of τ is said in σ -/
inductive LSub (σ : List (Str × PV)) : List (Str × PV) → Prop
  | nil : LSub σ []
  | cons {x : Str} {p : PV} {τ : List (Str × PV)} : LMem σ x p → LSub σ τ → LSub σ ((x, p) :: τ)
theorem LSub.all {σ τ : List (Str × PV)} (h : LSub σ τ) : ∀ q ∈ τ, q ∈ σ := by
  induction h with
  | nil => intro q hq; cases hq
  | cons a _ ih =>
    intro q hq
    rcases List.mem_cons.mp hq with e | hq
    · subst e; exact a.mem
    · exact ih q hq

section
variable {G : Glb} {F : FnLit} {d : Nat} {own : List (Addr × Obj)} {σ : List (Str × PV)} {R : PV → Prop} {X : Option Value} {B : Bool → Prop} {Q : FO → List (Addr × Obj) → List (Str × PV) → Prop}
theorem ev_var {x : Str} {pos : Pos} {p : PV} (hm : LMem σ x p) (hl : F.scope.names.lookup x = some .local) (hd : (x == ("__debug__" : Str)) = false) (h : R p) :
    Ev G F d own σ (.Name x pos) R X := ev_loc hm.mem h hl hd
theorem ev_top (O : G.Ok) {x : Str} {pos : Pos} {v : Value} (e : nsIn G.K mainGlobals x = some (some v)) (hl : F.scope.names.lookup x = some .globalImplicit) (hd : (x == ("__debug__" : Str)) = false) (h : R (.raw v)) :
    Ev G F d own σ (.Name x pos) R X := ev_glb O e h hl hd
theorem ev_built (O : G.Ok) {n : Str} {pos : Pos} {v : Value} (hv : bootBuiltins n = some v) (e : nsIn G.K mainGlobals n = some none) (hn : n ≠ "__name__") (hl : F.scope.names.lookup n = some .globalImplicit) (hd : (n == ("__debug__" : Str)) = false) (h : R (.raw v)) :
    Ev G F d own σ (.Name n pos) R X := ev_bi O e hv h hn hl hd
theorem ev_cl (O : G.Ok) {func : Expr} {args : List Expr} {kws : List Keyword} {pos : Pos}
    (he : ∀ env, eval (.Call func args kws pos) env = (do callWith pos (← eval func env) [] (backTo pos (starEach args env)) (backToKw pos (keywordEach kws env)))) (hp : plainArgs args = true) (hk : kws.all (·.arg.isSome) = true)
    (h : Ev G F d own σ func (fun f => Kp G f ∧ Evs G F d own σ args (fun as => Evk G F d own σ kws (fun ks => Cl G F d own f as ((kwNames kws).zip ks) R X) X) X) X) :
    Ev G F d own σ (.Call func args kws pos) R X := ev_call O h hp hk he
theorem ev_mcl (O : G.Ok) {o : Expr} {name : Str} {args : List Expr} {kws : List Keyword} {apos pos : Pos}
    (he : ∀ env, ∃ pl : Sem Bool, eval (.Call (.Attribute o name apos) args kws pos) env = (do
      let ov ← eval o env
      standAt apos.atName
      let (f, first) ← holding [ov] (getMethod ov name pl)
      callWith pos f first (backTo pos (starEach args env)) (backToKw pos (keywordEach kws env)))) (hp : plainArgs args = true) (hk : kws.all (·.arg.isSome) = true)
    (h : Ev G F d own σ o (fun p => Mt G F d own name p (fun f as₀ => Kp G f ∧ Evs G F d own σ args (fun as => Evk G F d own σ kws (fun ks => Cl G F d own f (as₀ ++ as) ((kwNames kws).zip ks) R X) X) X) X) X) :
    Ev G F d own σ (.Call (.Attribute o name apos) args kws pos) R X := ev_meth O h hp hk he
theorem ev_cl0 (O : G.Ok) {func : Expr} {args : List Expr} {pos : Pos}
    (he : ∀ env, eval (.Call func args [] pos) env = (do callWith pos (← eval func env) [] (backTo pos (starEach args env)) (backToKw pos (keywordEach [] env)))) (hp : plainArgs args = true)
    (h : Ev G F d own σ func (fun f => Kp G f ∧ Evs G F d own σ args (fun as => Cl G F d own f as [] R X) X) X) :
    Ev G F d own σ (.Call func args [] pos) R X :=
  ev_call O (h.mono fun f ⟨k, h⟩ => ⟨k, fun A g L Z₀ Z s m pos lv st => wpAny_mono (h A g L Z₀ Z s m pos lv st) (fun vs s' ⟨Z', ps, a, b, c, e, r⟩ => ⟨Z', ps, a, b, c, e, evk_nil r⟩) fun _ _ q => q⟩) hp rfl he
theorem ev_mcl0 (O : G.Ok) {o : Expr} {name : Str} {args : List Expr} {apos pos : Pos}
    (he : ∀ env, ∃ pl : Sem Bool, eval (.Call (.Attribute o name apos) args [] pos) env = (do
      let ov ← eval o env
      standAt apos.atName
      let (f, first) ← holding [ov] (getMethod ov name pl)
      callWith pos f first (backTo pos (starEach args env)) (backToKw pos (keywordEach [] env)))) (hp : plainArgs args = true)
    (h : Ev G F d own σ o (fun p => Mt G F d own name p (fun f as₀ => Kp G f ∧ Evs G F d own σ args (fun as => Cl G F d own f (as₀ ++ as) [] R X) X) X) X) :
    Ev G F d own σ (.Call (.Attribute o name apos) args [] pos) R X :=
  ev_meth O (h.mono fun p h => fun A g L Z₀ Z s m v pl lv r => wpAny_mono (h A g L Z₀ Z s m v pl lv r) (fun fx s' ⟨Z', f, as, a, b, c, e, e', k, h⟩ => ⟨Z', f, as, a, b, c, e, e', k, fun A g L Z₀ Z s m pos lv st => wpAny_mono (h A g L Z₀ Z s m pos lv st) (fun vs s' ⟨Z', ps, a, b, c, e, r⟩ => ⟨Z', ps, a, b, c, e, evk_nil r⟩) fun _ _ q => q⟩) fun _ _ q => q) hp rfl he
theorem ev_compare {l r : Expr} {op : CmpOp} {pos : Pos} (hm : behindInMarks op r = false) (h : Ev G F d own σ l (fun a => Ev G F d own σ r (fun b => D2 G F d own (compareOp op) a b R X) X) X) :
    Ev G F d own σ (.Compare l [op] [r] pos) R X := ev_cmp h hm
theorem ts_compare {l r : Expr} {op : CmpOp} {pos : Pos} (hm : behindInMarks op r = false) (h : Ev G F d own σ l (fun a => Ev G F d own σ r (fun b => D2 G F d own (compareOp op) a b (fun p => Tr G F d own p B X) X) X) X) :
    Ts G F d own σ (.Compare l [op] [r] pos) B X := ts_cmp h hm
theorem evs_more {e : Expr} {rest : List Expr} {Rs : List PV → Prop} (he : ∀ env, starEach (e :: rest) env = (false, eval e env) :: starEach rest env) (h : Ev G F d own σ e (fun p => Evs G F d own σ rest (fun ps => Rs (p :: ps)) X) X) : Evs G F d own σ (e :: rest) Rs X := evs_cons h he
theorem sq_next {rest : List Stmt} (h : Ex G F d own σ rest Q X) : Sq G F d rest Q X .next own σ := h
theorem sq_ret {rest : List Stmt} {p : PV} (h : Q (.ret p) own σ) : Sq G F d rest Q X (.ret p) own σ := h
theorem sq_brk {rest : List Stmt} (h : Q .brk own σ) : Sq G F d rest Q X .brk own σ := h
theorem sq_cont {rest : List Stmt} (h : Q .cont own σ) : Sq G F d rest Q X .cont own σ := h
theorem retp {p : PV} (h : R p) : RetP R (.ret p) own σ := h
theorem retn (h : R .none) : RetP R .next own σ := h
theorem if_b {b : Bool} {P P' : Prop} (h : b = true → P) (h' : b = false → P') : if b = true then P else P' := by cases b <;> simp_all
theorem bnds1 {fd : FuncData} {x : Str} {p : PV} (h : ∀ v, bindArgs fd ⟨[v], []⟩ = pure [(x, v)]) : Bnds G fd [p] [] [(x, p)] := by
  intro s Z vs kvs _ r hk rk
  obtain rfl : kvs = [] := by simpa using hk
  cases r with | cons r r' => cases r'; exact ⟨_, .of_eq (h _), .cons r .nil⟩
theorem bnds2 {fd : FuncData} {x y : Str} {p q : PV} (h : ∀ v w, bindArgs fd ⟨[v, w], []⟩ = pure [(x, v), (y, w)]) : Bnds G fd [p, q] [] [(x, p), (y, q)] := by
  intro s Z vs kvs _ r hk rk
  obtain rfl : kvs = [] := by simpa using hk
  cases r with | cons r r' => cases r' with | cons r' r'' => cases r''; exact ⟨_, .of_eq (h _ _), .cons r (.cons r' .nil)⟩
theorem bnds3 {fd : FuncData} {x y z : Str} {p q t : PV} (h : ∀ v w u, bindArgs fd ⟨[v, w, u], []⟩ = pure [(x, v), (y, w), (z, u)]) : Bnds G fd [p, q, t] [] [(x, p), (y, q), (z, t)] := by
  intro s Z vs kvs _ r hk rk
  obtain rfl : kvs = [] := by simpa using hk
  cases r with | cons r r' => cases r' with | cons r' r'' => cases r'' with | cons r'' r3 => cases r3; exact ⟨_, .of_eq (h _ _ _), .cons r (.cons r' (.cons r'' .nil))⟩

/-! side conditions ahead -/
theorem op_mul {a b : Int} (hm : IntMulOk a b) (h : R (.int (a * b))) : D2 G F d own (binaryOp .Mult) (.int a) (.int b) R X := d2_mul h hm
theorem op_mod {a b : Int} (hb : b ≠ 0) (h : R (.int (a.fmod b))) : D2 G F d own (binaryOp .Mod) (.int a) (.int b) R X := d2_mod h hb
theorem op_fdiv {a b : Int} (O : G.Ok) (hb : b ≠ 0) (hd : 100 ≤ d) (hg : F.scope.isGenerator = false) (hc : F.scope.isCoroutine = false) (hh : F.host = none) (h : R (.int (a.fdiv b))) : D2 G F d own (binaryOp .FloorDiv) (.int a) (.int b) R X := d2_fdiv O h hb hd hg hc hh
theorem op_item {e i : Expr} {l : List PV} {k : Int} {p : PV} (hs : ∀ o i', ∃ ops, subscripted i false o i' = operate ops (getItem o i')) (h0 : 0 ≤ k) (hk : k < 2 ^ 60) (hp : l[k.toNat]? = some p) (h : R p) : D2 G F d own (subscriptTail e i) (.lst l) (.int k) R X := d2_itemL h0 hk hp h hs
theorem op_itemT {e i : Expr} {l : List PV} {k : Int} {p : PV} (hs : ∀ o i', ∃ ops, subscripted i false o i' = operate ops (getItem o i')) (h0 : 0 ≤ k) (hk : k < 2 ^ 60) (hp : l[k.toNat]? = some p) (h : R p) : D2 G F d own (subscriptTail e i) (.tup l) (.int k) R X := d2_itemT h0 hk hp h hs
theorem op_lenL {l : List PV} (hs : l.length < 2 ^ 60) (h : R (.int l.length)) : Cl G F d own (.raw (.builtin "len")) [.lst l] [] R X := cl_lenL h hs
theorem op_lenS {x : Str} (hs : x.length < 2 ^ 60) (h : R (.int x.length)) : Cl G F d own (.raw (.builtin "len")) [.str x] [] R X := cl_lenS h hs
end
end Mine

namespace Mine
open PySem PySem.W PySem.Calls PyProof.Rows

/-! ## Displays and tuple targets -/
section
variable {G : Glb} {F : FnLit} {d : Nat} {own : List (Addr × Obj)} {σ : List (Str × PV)} {R : PV → Prop} {X : Option Value} {B : Bool → Prop} {Q : FO → List (Addr × Obj) → List (Str × PV) → Prop}

theorem wp_newTup {A : Around} {g : Heap} {L : Addr} {Z₀ Z : FZ} {s : Shared} {m : Str → Option Value} {vs : List Value} {ps : List PV} {E : Value → Shared → Prop} (l : Live G F d A g L Z₀ Z own s.heap m) (r : RdL Z vs ps) (hs : ps.length ≤ sizeLine) (h : R (.tup ps)) :
    wpAny (model G.prog G.w) A (newTuple vs) (Got G F d A g L Z₀ Z own m R s) E s := by
  obtain ⟨k, l', e⟩ := l.new (o := { cls := .type "tuple", data := .seq vs.toArray }) rfl
  exact wpAny_newTuple ⟨_, _, k, l', ⟨rfl, .refl _⟩, .tup e ((r.mono k)), h⟩ (by rw [r.len]; exact hs)
theorem wp_newLst {A : Around} {g : Heap} {L : Addr} {Z₀ Z : FZ} {s : Shared} {m : Str → Option Value} {vs : List Value} {ps : List PV} {E : Value → Shared → Prop} (l : Live G F d A g L Z₀ Z own s.heap m) (r : RdL Z vs ps) (hs : ps.length ≤ sizeLine) (h : R (.lst ps)) :
    wpAny (model G.prog G.w) A (newList vs) (Got G F d A g L Z₀ Z own m R s) E s := by
  obtain ⟨k, l', e⟩ := l.new (o := { cls := .type "list", data := .seq vs.toArray }) rfl
  exact wpAny_newList ⟨_, _, k, l', ⟨rfl, .refl _⟩, .lst e rfl rfl ((r.mono k)), h⟩ (by rw [r.len]; exact hs)
theorem ev_tup {elts : List Expr} {k : Nat} {pos : Pos} (h : Evs G F d own σ elts (fun ps => ps.length ≤ sizeLine ∧ R (.tup ps)) X) : Ev G F d own σ (.Tuple elts k pos) R X := by
  intro A g L Z₀ Z s m lv st
  refine Tuple_ (wpAny_mono (h A g L Z₀ Z s m pos lv st) (fun vs s₁ q => ?_) fun _ _ q => q)
  obtain ⟨Z₁, ps, k₁, l₁, q₁, r₁, hs, h₁⟩ := q
  exact wpAny_mono (wp_newTup l₁ r₁ hs h₁ : wpAny _ _ _ _ (ThrA G A X g s) _) (fun _ _ z => z.back k₁ q₁) fun _ _ z => z
theorem ev_lst {elts : List Expr} {pos : Pos} (h : Evs G F d own σ elts (fun ps => ps.length ≤ sizeLine ∧ R (.lst ps)) X) : Ev G F d own σ (.List elts pos) R X := by
  intro A g L Z₀ Z s m lv st
  refine List_ (wpAny_mono (h A g L Z₀ Z s m pos lv st) (fun vs s₁ q => ?_) fun _ _ q => q)
  obtain ⟨Z₁, ps, k₁, l₁, q₁, r₁, hs, h₁⟩ := q
  exact wpAny_mono (wp_newLst l₁ r₁ hs h₁ : wpAny _ _ _ _ (ThrA G A X g s) _) (fun _ _ z => z.back k₁ q₁) fun _ _ z => z

/-- what a store hands on -/
def Sto (G : Glb) (F : FnLit) (d : Nat) (A : Around) (g : Heap) (L : Addr) (Z₀ Z : FZ) (own : List (Addr × Obj)) (K : List (Str × PV) → Prop) (s : Shared) (s' : Shared) : Prop :=
  ∃ Z' m' σ', FLe Z Z' ∧ Live G F d A g L Z₀ Z' own s'.heap m' ∧ SS s s' ∧ StR Z' m' σ' ∧ K σ'
def As (G : Glb) (F : FnLit) (d : Nat) (own : List (Addr × Obj)) (σ : List (Str × PV)) (t : Env → Value → Sem Unit) (p : PV) (K : List (Str × PV) → Prop) : Prop :=
  ∀ A g L Z₀ Z s m v (E : Value → Shared → Prop), Live G F d A g L Z₀ Z own s.heap m → StR Z m σ → Rd Z v p → wpAny (model G.prog G.w) A (t (F.env L) v) (fun _ s' => Sto G F d A g L Z₀ Z own K s s') E s
def AsN (G : Glb) (F : FnLit) (d : Nat) (own : List (Addr × Obj)) (σ : List (Str × PV)) (ts : Env → List (Value → Sem Unit)) (ps : List PV) (K : List (Str × PV) → Prop) : Prop :=
  ∀ A g L Z₀ Z s m vs (E : Value → Shared → Prop), Live G F d A g L Z₀ Z own s.heap m → StR Z m σ → RdL Z vs ps → wpAny (model G.prog G.w) A (assignInOrder (ts (F.env L)) vs) (fun _ s' => Sto G F d A g L Z₀ Z own K s s') E s
theorem Sto.back {A : Around} {g : Heap} {L : Addr} {Z₀ Z Z₁ : FZ} {K : List (Str × PV) → Prop} {s s₁ s' : Shared} (k : FLe Z Z₁) (q : SS s s₁) (x : Sto G F d A g L Z₀ Z₁ own K s₁ s') : Sto G F d A g L Z₀ Z own K s s' := by
  obtain ⟨Z', m', σ', a, b, c, e⟩ := x
  exact ⟨Z', m', σ', k.trans a, b, q.trans c, e⟩
variable {K : List (Str × PV) → Prop}
theorem as_bind {x : Str} {p : PV} {σ' : List (Str × PV)} (hp : PutR σ x p σ') (hl : F.scope.names.lookup x = some .local) (h : K σ') : As G F d own σ (fun env => bindName env x) p K := by
  intro A g L Z₀ Z s m v E lv st r
  exact bindName_ (wp_store lv hl fun h' l' => ⟨Z, _, σ', .refl _, l', ⟨rfl, .refl _⟩, st.put hp r, h⟩)
theorem as_name {x : Str} {pos : Pos} {p : PV} {σ' : List (Str × PV)} (hp : PutR σ x p σ') (hl : F.scope.names.lookup x = some .local) (h : K σ') : As G F d own σ (fun env => assign (.Name x pos) env) p K := by
  intro A g L Z₀ Z s m v E lv st r
  exact assign_Name (wp_store lv hl fun h' l' => ⟨Z, _, σ', .refl _, l', ⟨rfl, .refl _⟩, st.put hp r, h⟩)
theorem asn_nil (h : K σ) : AsN G F d own σ (fun _ => []) [] K := by
  intro A g L Z₀ Z s m vs E lv st r
  exact assignInOrder_nil ⟨Z, m, σ, .refl _, lv, .refl _, st, h⟩
theorem asn_cons {t : Env → Value → Sem Unit} {ts : Env → List (Value → Sem Unit)} {p : PV} {ps : List PV} (h : As G F d own σ t p (fun σ' => AsN G F d own σ' ts ps K)) : AsN G F d own σ (fun env => t env :: ts env) (p :: ps) K := by
  intro A g L Z₀ Z s m vs E lv st r
  cases r with | cons r r' =>
  refine assignInOrder_cons (wpAny_mono (h A g L Z₀ Z s m _ E lv st r) (fun _ s₁ q => ?_) fun _ _ q => q)
  obtain ⟨Z₁, m₁, σ₁, k₁, l₁, q₁, st₁, h₁⟩ := q
  exact wpAny_mono (h₁ A g L Z₀ Z₁ s₁ m₁ _ E l₁ st₁ (r'.mono k₁)) (fun _ _ z => z.back k₁ q₁) fun _ _ z => z
theorem keep_ext {h h' : Heap} (x : Heap.ExtBut h.objs.size h h') : ∀ b o, h.get? b = some o → h'.get? b = some o := fun b o e => x b o (Nat.ne_of_lt (Heap.lt_size e)) e
theorem as_tuple {elts : List Expr} {k : Nat} {pos : Pos} {ps : List PV} (hn : ∀ env, (assignEach elts env).length = ps.length) (hstar : ∀ env, (assignEach elts env).findIdx? (·.1) = none)
    (h : AsN G F d own σ (fun env => (assignEach elts env).map (·.2)) ps K) : As G F d own σ (fun env => assign (.Tuple elts k pos) env) (.tup ps) K := by
  intro A g L Z₀ Z s m v E lv st r
  obtain ⟨a, vs, n, rfl, ht, rl⟩ := r.isTup lv.sub
  refine assign_Tuple_tuple lv.hd ⟨_, ht, rfl, _, rfl⟩ ((hn _).trans ?_) (hstar _) fun h' x => ?_
  · rw [← rl.len, Array.length_toList]
  exact wpAny_mono (h A g L Z₀ Z { s with heap := h' } m _ E (lv.keeps (keep_ext x)) st rl) (fun _ _ z => Sto.back (s := s) (s₁ := { s with heap := h' }) (.refl _) ⟨rfl, .refl _⟩ z) fun _ _ z => z
theorem as_list {elts : List Expr} {k : Nat} {pos : Pos} {ps : List PV} (hn : ∀ env, (assignEach elts env).length = ps.length) (hstar : ∀ env, (assignEach elts env).findIdx? (·.1) = none)
    (h : AsN G F d own σ (fun env => (assignEach elts env).map (·.2)) ps K) : As G F d own σ (fun env => assign (.Tuple elts k pos) env) (.lst ps) K := by
  intro A g L Z₀ Z s m v E lv st r
  obtain ⟨a, vs, rfl, ht, rl⟩ := r.isList lv.sub
  show wpAny _ _ (assign (.Tuple elts k pos) (F.env L) (.ref a)) _ _ _
  rw [assign_Tuple]
  refine wpAny_bind (wpAny_standAt ?_)
  unfold unpack
  have e : (assignEach elts (F.env L)).length = vs.size := (hn _).trans (by rw [← rl.len, Array.length_toList])
  rw [e, hstar]
  refine wpAny_bind (wpAny_holding (kun_itemsOf lv.hd ht fun h' x => ?_))
  exact wpAny_mono (h A g L Z₀ Z { s with heap := h' } m _ E (lv.keeps (keep_ext x)) st rl) (fun _ _ z => Sto.back (s := s) (s₁ := { s with heap := h' }) (.refl _) ⟨rfl, .refl _⟩ z) fun _ _ z => z

theorem ex_astuple {elts : List Expr} {k : Nat} {tpos pos : Pos} {value : Expr} {rest : List Stmt} (hs : ∀ env, swapsWithSole [.Tuple elts k tpos] value pos.line env = pure false) (hw : ∀ L, swappedStores [.Tuple elts k tpos] value (F.env L) = pure none)
    (h : Ev G F d own σ value (fun p => As G F d own σ (fun env => assign (.Tuple elts k tpos) env) p (fun σ' => Ex G F d own σ' rest Q X)) X) : Ex G F d own σ (.Assign [.Tuple elts k tpos] value pos :: rest) Q X := by
  intro A g L Z₀ Z s m lv st
  refine wpAny_execs_cons (Assign_Tuple (wpAny_mono (h A g L Z₀ Z s m lv st) (fun v s₁ q => ?_) fun _ _ q => q) (hs _) (hw _))
  obtain ⟨Z₁, p, k₁, l₁, q₁, r₁, h₁⟩ := q
  refine wpAny_mono (h₁ A g L Z₀ Z₁ s₁ m v _ l₁ (st.mono k₁) r₁) (fun _ s₂ q => ?_) fun _ _ q => q
  obtain ⟨Z₂, m₂, σ₂, k₂, l₂, q₂, st₂, h₂⟩ := q
  exact back_D (k₁.trans k₂) (q₁.trans q₂) (h₂ A g L Z₀ Z₂ s₂ m₂ l₂ st₂)
theorem RdL.rev {Z : FZ} : ∀ {vs : List Value} {l : List PV}, RdL Z vs l → RdL Z vs.reverse l.reverse
  | _, _, .nil => .nil
  | _, _, .cons a b => by rw [List.reverse_cons, List.reverse_cons]; exact b.rev.app (.cons a .nil)
/-- a swap: the names in the reverse order -/
theorem ex_swap {elts : List Expr} {k : Nat} {tpos pos : Pos} {value : Expr} {rest : List Stmt} {names : List Str} (hs : ∀ env, swapsWithSole [.Tuple elts k tpos] value pos.line env = pure false) (hw : ∀ L, swappedStores [.Tuple elts k tpos] value (F.env L) = pure (some names))
    (h : Ev G F d own σ value (fun p => ∃ ps, p = .tup ps ∧ ps.length = names.length ∧ AsN G F d own σ (fun env => names.reverse.map fun n => bindName env n) ps.reverse (fun σ' => Ex G F d own σ' rest Q X)) X) : Ex G F d own σ (.Assign [.Tuple elts k tpos] value pos :: rest) Q X := by
  intro A g L Z₀ Z s m lv st
  refine wpAny_execs_cons (Assign_Tuple_swapped (wpAny_mono (h A g L Z₀ Z s m lv st) (fun v s₁ q => ?_) fun _ _ q => q) (hs _) (hw _))
  obtain ⟨Z₁, p, k₁, l₁, q₁, r₁, ps, rfl, hlen, h₁⟩ := q
  obtain ⟨a, vs, n, rfl, ht, rl⟩ := r₁.isTup l₁.sub
  have e : names.length = vs.size := hlen.symm.trans (by rw [← rl.len, Array.length_toList])
  rw [e]
  refine unpackItems_tuple l₁.hd ⟨_, ht, rfl, _, rfl⟩ fun h' x => ?_
  refine wpAny_mono (h₁ A g L Z₀ Z₁ { s₁ with heap := h' } m _ _ (l₁.keeps (keep_ext x)) (st.mono k₁) rl.rev) (fun _ s₂ q => ?_) fun _ _ q => q
  obtain ⟨Z₂, m₂, σ₂, k₂, l₂, q₂, st₂, h₂⟩ := q
  exact back_D (k₁.trans k₂) (q₁.trans ((SS.mk rfl (.refl _) : SS s₁ { s₁ with heap := h' }).trans q₂)) (h₂ A g L Z₀ Z₂ s₂ m₂ l₂ st₂)
theorem ex_swap2 {elts : List Expr} {k : Nat} {tpos pos : Pos} {value : Expr} {rest : List Stmt} {x y : Str} (hs : ∀ env, swapsWithSole [.Tuple elts k tpos] value pos.line env = pure false) (hw : ∀ L, swappedStores [.Tuple elts k tpos] value (F.env L) = pure (some [x, y]))
    (hx : F.scope.names.lookup x = some .local) (hy : F.scope.names.lookup y = some .local)
    (h : Ev G F d own σ value (fun p => ∃ a b, p = .tup [a, b] ∧ ∃ σ₁, PutR σ y b σ₁ ∧ ∃ σ₂, PutR σ₁ x a σ₂ ∧ Ex G F d own σ₂ rest Q X) X) : Ex G F d own σ (.Assign [.Tuple elts k tpos] value pos :: rest) Q X :=
  ex_swap hs hw (h.mono fun p ⟨a, b, e, σ₁, p₁, σ₂, p₂, h⟩ => ⟨[a, b], e, rfl, asn_cons (ts := fun env => [bindName env x]) (as_bind p₁ hy (asn_cons (ts := fun _ => []) (as_bind p₂ hx (asn_nil h))))⟩)
theorem ex_tup2 {k : Nat} {xp yp tpos pos : Pos} {value : Expr} {rest : List Stmt} {x y : Str} (hs : ∀ env, swapsWithSole [.Tuple [.Name x xp, .Name y yp] k tpos] value pos.line env = pure false) (hw : ∀ L, swappedStores [.Tuple [.Name x xp, .Name y yp] k tpos] value (F.env L) = pure none)
    (hx : F.scope.names.lookup x = some .local) (hy : F.scope.names.lookup y = some .local)
    (h : Ev G F d own σ value (fun p => ∃ a b, p = .tup [a, b] ∧ ∃ σ₁, PutR σ x a σ₁ ∧ ∃ σ₂, PutR σ₁ y b σ₂ ∧ Ex G F d own σ₂ rest Q X) X) : Ex G F d own σ (.Assign [.Tuple [.Name x xp, .Name y yp] k tpos] value pos :: rest) Q X :=
  ex_astuple hs hw (h.mono fun p ⟨a, b, e, σ₁, p₁, σ₂, p₂, h⟩ => e ▸ as_tuple (fun _ => rfl) (fun _ => rfl) (asn_cons (ts := fun env => [assign (.Name y yp) env]) (as_name p₁ hx (asn_cons (ts := fun _ => []) (as_name p₂ hy (asn_nil h))))))
/-- ((a, b), (c, d)) out of a list of pairs -/
theorem ex_pairs {k k1 k2 : Nat} {ap bp cp dp p1 p2 tpos pos : Pos} {value : Expr} {rest : List Stmt} {a b c e : Str}
    (hs : ∀ env, swapsWithSole [.Tuple [.Tuple [.Name a ap, .Name b bp] k1 p1, .Tuple [.Name c cp, .Name e dp] k2 p2] k tpos] value pos.line env = pure false) (hw : ∀ L, swappedStores [.Tuple [.Tuple [.Name a ap, .Name b bp] k1 p1, .Tuple [.Name c cp, .Name e dp] k2 p2] k tpos] value (F.env L) = pure none)
    (ha : F.scope.names.lookup a = some .local) (hb : F.scope.names.lookup b = some .local) (hc : F.scope.names.lookup c = some .local) (he : F.scope.names.lookup e = some .local)
    (h : Ev G F d own σ value (fun p => ∃ pa pb pc pe, p = .lst [.tup [pa, pb], .tup [pc, pe]] ∧ ∃ σ₁, PutR σ a pa σ₁ ∧ ∃ σ₂, PutR σ₁ b pb σ₂ ∧ ∃ σ₃, PutR σ₂ c pc σ₃ ∧ ∃ σ₄, PutR σ₃ e pe σ₄ ∧ Ex G F d own σ₄ rest Q X) X) :
    Ex G F d own σ (.Assign [.Tuple [.Tuple [.Name a ap, .Name b bp] k1 p1, .Tuple [.Name c cp, .Name e dp] k2 p2] k tpos] value pos :: rest) Q X :=
  ex_astuple hs hw (h.mono fun p ⟨pa, pb, pc, pe, ep, σ₁, h₁, σ₂, h₂, σ₃, h₃, σ₄, h₄, h⟩ => ep ▸ as_list (k := k) (pos := tpos) (fun _ => rfl) (fun _ => rfl)
    (asn_cons (ts := fun env => [assign (.Tuple [.Name c cp, .Name e dp] k2 p2) env]) (as_tuple (k := k1) (pos := p1) (fun _ => rfl) (fun _ => rfl)
      (asn_cons (ts := fun env => [assign (.Name b bp) env]) (as_name h₁ ha (asn_cons (ts := fun _ => []) (as_name h₂ hb (asn_nil
        (asn_cons (ts := fun _ => []) (as_tuple (k := k2) (pos := p2) (fun _ => rfl) (fun _ => rfl)
          (asn_cons (ts := fun env => [assign (.Name e dp) env]) (as_name h₃ hc (asn_cons (ts := fun _ => []) (as_name h₄ he (asn_nil (asn_nil h))))))))))))))))
theorem ex_asg {x : Str} {e : Expr} {rest : List Stmt} {np pos : Pos} (hl : F.scope.names.lookup x = some .local) (hs : ∀ env, swapsWith e (some (.Name x np)) pos.line env = pure false)
    (h : Ev G F d own σ e (fun p => ∃ σ', PutR σ x p σ' ∧ Ex G F d own σ' rest Q X) X) : Ex G F d own σ (.Assign [.Name x np] e pos :: rest) Q X := ex_assign h hl hs
theorem ex_aug {x : Str} {e : Expr} {op : Operator} {p : PV} {rest : List Stmt} {np pos : Pos} (hm : LMem σ x p) (hl : F.scope.names.lookup x = some .local)
    (h : Ev G F d own σ e (fun b => D2 G F d own (inplaceOp op) p b (fun r => ∃ σ', PutR σ x r σ' ∧ Ex G F d own σ' rest Q X) X) X) : Ex G F d own σ (.AugAssign (.Name x np) op e pos :: rest) Q X := ex_augassign hm.mem h hl
section
variable {α : Type} {τ : α → List (Str × PV)} {W : α → Prop} {μ : α → Nat} {a : α} {rest : List Stmt}
theorem loop_next (b : α) (hW : W b) (hm : μ b < μ a) (hs : LSub σ (τ b)) : LoopQ G F d own τ W μ a rest Q X .next own σ := ⟨rfl, b, hW, hm, hs.all⟩
theorem loop_cont (b : α) (hW : W b) (hm : μ b < μ a) (hs : LSub σ (τ b)) : LoopQ G F d own τ W μ a rest Q X .cont own σ := ⟨rfl, b, hW, hm, hs.all⟩
theorem loop_ret {p : PV} (h : Q (.ret p) own σ) : LoopQ G F d own τ W μ a rest Q X (.ret p) own σ := h
theorem loop_brk (h : Ex G F d own σ rest Q X) : LoopQ G F d own τ W μ a rest Q X .brk own σ := h
end
end
end Mine

namespace Mine
open PySem PySem.W PySem.Calls PyProof.Rows

/-! ## For loops and list displays with a loop -/
theorem funFrames_upd {base h h' : Heap} {a : Addr} {o o' : Obj} (k : ∀ b x, b ≠ a → h.get? b = some x → h'.get? b = some x) (e : h.get? a = some o) (e' : h'.get? a = some o') (hd : (∀ vs, o'.data ≠ .fields vs) ∨ ∃ vs, o.data = .fields vs) : ∀ {l : List Env}, h.FunFrames base l → h'.FunFrames base l
  | [], _ => trivial
  | env :: _, ⟨hk, ⟨L', oL, hf, hn, ho, hdL⟩, hr⟩ => by
    refine ⟨hk, ?_, funFrames_upd k e e' hd hr⟩
    by_cases q : L' = a
    · subst q
      rw [e] at ho; cases ho
      rcases hd with hd | ⟨vs, hd⟩
      · exact ⟨L', o', hf, hn, e', hd⟩
      · exact absurd hd (hdL vs)
    · exact ⟨L', oL, hf, hn, k _ _ q ho, hdL⟩
theorem funFrames_drop {base h h' : Heap} {a : Addr} {o : Obj} {vs : Array Value} (k : ∀ b x, b ≠ a → h.get? b = some x → h'.get? b = some x) (e : h.get? a = some o) (hd : o.data = .fields vs) : ∀ {l : List Env}, h.FunFrames base l → h'.FunFrames base l
  | [], _ => trivial
  | env :: _, ⟨hk, ⟨L', oL, hf, hn, ho, hdL⟩, hr⟩ => by
    refine ⟨hk, ?_, funFrames_drop k e hd hr⟩
    by_cases q : L' = a
    · subst q
      rw [e] at ho; cases ho
      exact absurd hd (hdL vs)
    · exact ⟨L', oL, hf, hn, k _ _ q ho, hdL⟩
theorem funFrames_but {base h₀ h h' : Heap} {a : Addr} (k : ∀ b x, b ≠ a → h.get? b = some x → h'.get? b = some x) (e : h₀.get? a = none) : ∀ {l : List Env}, h₀.FunFrames base l → h.FunFrames base l → h'.FunFrames base l
  | [], _, _ => trivial
  | env :: _, ⟨_, ⟨L₀, o₀, hf₀, _, ho₀, _⟩, hr₀⟩, ⟨hk, ⟨L', oL, hf, hn, ho, hdL⟩, hr⟩ => by
    refine ⟨hk, ?_, funFrames_but k e hr₀ hr⟩
    rw [hf] at hf₀
    obtain rfl : L' = L₀ := Option.some.inj hf₀
    exact ⟨L', oL, hf, hn, k _ _ (fun q => by subst q; rw [ho₀] at e; cases e) ho, hdL⟩

section
variable {G : Glb} {F : FnLit} {d : Nat} {own : List (Addr × Obj)} {σ : List (Str × PV)} {R : PV → Prop} {X : Option Value} {B : Bool → Prop} {Q : FO → List (Addr × Obj) → List (Str × PV) → Prop}
  {A : Around} {g h h' : Heap} {L : Addr} {Z₀ Z : FZ} {m : Str → Option Value}
/-- own objects are news -/
theorem Live.ne (l : Live G F d A g L Z₀ Z own h m) {q : Addr × Obj} (hq : q ∈ own) : q.1 ≠ L ∧ G.base.get? q.1 = none ∧ h.get? q.1 = some q.2 := ⟨(l.nw q hq).2.1, (l.nw q hq).2.2, (l.nw q hq).1⟩
/-- an own object changes -/
theorem Live.setOwn {a : Addr} {o o' : Obj} (l : Live G F d A g L Z₀ Z ((a, o) :: own) h m) (k : ∀ b x, b ≠ a → h.get? b = some x → h'.get? b = some x) (e' : h'.get? a = some o') (hd : (∀ vs, o'.data ≠ .fields vs) ∨ ∃ vs, o.data = .fields vs) (hna : ∀ q ∈ own, q.1 ≠ a) :
    Live G F d A g L Z₀ Z ((a, o') :: own) h' m where
  fr := ⟨l.fr.ns.at' fun x e => k L x (Ne.symm (l.ne (.head _)).1) e, fun b x e => k b x (fun q => by subst q; rw [(l.ne (.head _)).2.1] at e; cases e) (l.fr.keep b x e), l.fr.above⟩
  up := fun b o hb hd => by
    obtain ⟨sl, e⟩ := l.up b o hb hd
    exact ⟨sl, k _ _ (fun q => by subst q; rw [l.og _ (.head _)] at hb; cases hb) e⟩
  ek := fun x b o hb => k _ _ (fun q => by subst q; rw [l.og _ (.head _)] at hb; cases hb) (l.ek x b o hb)
  og := fun q hq => by
    rcases List.mem_cons.mp hq with rfl | hq
    · exact l.og (a, o) (.head _)
    · exact l.og q (.tail _ hq)
  sz := l.sz
  sub := fun b x e => k b x (fun q => by subst q; rw [l.zo _ (.head _)] at e; cases e) (l.sub b x e)
  zL := l.zL
  z0 := l.z0
  nw := fun p hp => by
    rcases List.mem_cons.mp hp with rfl | hp
    · exact ⟨e', (l.ne (.head _)).1, (l.ne (.head _)).2.1⟩
    · exact ⟨k _ _ (hna p hp) (l.nw p (.tail _ hp)).1, (l.nw p (.tail _ hp)).2⟩
  zo := fun q hq => by
    rcases List.mem_cons.mp hq with rfl | hq
    · exact l.zo (a, o) (.head _)
    · exact l.zo q (.tail _ hq)
  hd := l.hd
  stk := let ⟨o'', x, y⟩ := l.stk; ⟨o'', x, funFrames_upd k (l.ne (.head _)).2.2 e' hd y⟩
  room := l.room
  unit := l.unit
  kind := l.kind
  cel := l.cel
/-- an own record goes -/
theorem Live.dropOwn {a : Addr} {o : Obj} {vs : Array Value} (l : Live G F d A g L Z₀ Z ((a, o) :: own) h m) (k : ∀ b x, b ≠ a → h.get? b = some x → h'.get? b = some x) (hd : o.data = .fields vs) (hna : ∀ q ∈ own, q.1 ≠ a) :
    Live G F d A g L Z₀ Z own h' m where
  fr := ⟨l.fr.ns.at' fun x e => k L x (Ne.symm (l.ne (.head _)).1) e, fun b x e => k b x (fun q => by subst q; rw [(l.ne (.head _)).2.1] at e; cases e) (l.fr.keep b x e), l.fr.above⟩
  up := fun b o hb hd => by
    obtain ⟨sl, e⟩ := l.up b o hb hd
    exact ⟨sl, k _ _ (fun q => by subst q; rw [l.og _ (.head _)] at hb; cases hb) e⟩
  ek := fun x b o hb => k _ _ (fun q => by subst q; rw [l.og _ (.head _)] at hb; cases hb) (l.ek x b o hb)
  og := fun q hq => l.og q (.tail _ hq)
  sz := l.sz
  sub := fun b x e => k b x (fun q => by subst q; rw [l.zo _ (.head _)] at e; cases e) (l.sub b x e)
  zL := l.zL
  z0 := l.z0
  nw := fun p hp => ⟨k _ _ (hna p hp) (l.nw p (.tail _ hp)).1, (l.nw p (.tail _ hp)).2⟩
  zo := fun q hq => l.zo q (.tail _ hq)
  hd := l.hd
  stk := let ⟨o'', x, y⟩ := l.stk; ⟨o'', x, funFrames_drop k (l.ne (.head _)).2.2 hd y⟩
  room := l.room
  unit := l.unit
  kind := l.kind
  cel := l.cel
/-- fewer own objects -/
theorem Live.less {own' : List (Addr × Obj)} (l : Live G F d A g L Z₀ Z own h m) (k : ∀ q ∈ own', q ∈ own) : Live G F d A g L Z₀ Z own' h m :=
  { l with og := fun q hq => l.og q (k q hq), nw := fun q hq => l.nw q (k q hq), zo := fun q hq => l.zo q (k q hq) }
/-- a new object of one's own -/
theorem Live.newOwn (l : Live G F d A g L Z₀ Z own h m) {o : Obj} (hf : o.isFreed = false) : Live G F d A g L Z₀ Z ((h.objs.size, o) :: own) (h.push o) m ∧ ∀ q ∈ own, q.1 ≠ h.objs.size := by
  have lt : ∀ q ∈ own, q.1 ≠ h.objs.size := fun q hq => Nat.ne_of_lt (Heap.lt_size (l.nw q hq).1)
  have l' := l.keeps (push_keeps o)
  have hb : G.base.get? h.objs.size = none := by
    cases q : G.base.get? h.objs.size with
    | none => rfl
    | some x => exact absurd (Heap.lt_size (l.fr.keep _ _ q)) (Nat.lt_irrefl _)
  refine ⟨{ l' with og := fun q hq => ?_, nw := fun q hq => ?_, zo := fun q hq => ?_ }, lt⟩
  · rcases List.mem_cons.mp hq with rfl | hq
    · show g.get? h.objs.size = none
      cases q : g.get? h.objs.size with
      | none => rfl
      | some x => exact absurd (Nat.lt_of_lt_of_le (Heap.lt_size q) l.glt) (Nat.lt_irrefl _)
    · exact l.og q hq
  · rcases List.mem_cons.mp hq with rfl | hq
    · exact ⟨Heap.get?_push_size _ hf, Nat.ne_of_gt l.lt, hb⟩
    · exact l'.nw q hq
  · rcases List.mem_cons.mp hq with rfl | hq
    · exact l.sub.none_at
    · exact l.zo q hq

/-- what can be gone through -/
def Itr (G : Glb) (p : PV) (ps : List PV) : Prop := ∀ A (s : Shared) (Z : FZ) v (Q : Value → Shared → Prop) (E : Value → Shared → Prop), A.handled = none → Sub Z s.heap → Rd Z v p →
  (∀ (oI : Obj) (fp : List Addr) (St : Nat → Heap → Prop), oI.isFreed = false → (∃ vs, oI.data = .fields vs) → Walks G.prog G.w A s.heap.objs.size fp [s.heap.objs.size] ps.length (fun i v => ∃ q, ps[i]? = some q ∧ Rd Z v q) St → St 0 (s.heap.push oI) →
    (∀ b ∈ fp, b = s.heap.objs.size ∨ ∃ o, Z b = some o) → (∀ i hh, St i hh → ∃ o vs, hh.get? s.heap.objs.size = some o ∧ o.data = .fields vs) → Q (.ref s.heap.objs.size) { s with heap := s.heap.push oI }) → wpAny (model G.prog G.w) A (pyIter v) Q E s
theorem itr_lst {ps : List PV} : Itr G (.lst ps) ps := by
  intro A s Z v Q E hh S r hQ
  cases r with
  | @lst ax o vs n l h1 h2 h3 h4 =>
    have hl : s.heap.IsList ax vs := ⟨o, S _ _ h1, h2, n, h3⟩
    have hlt : ax ≠ s.heap.objs.size := Nat.ne_of_lt (Heap.lt_size (S _ _ h1))
    have hz : vs.size = ps.length := by rw [← h4.len, Array.length_toList]
    refine wpAny_pyIter_list hl (hQ _ [s.heap.objs.size, ax] (fun i hh => hh.IsListIter s.heap.objs.size ax i ∧ hh.IsList ax vs) rfl ⟨_, rfl⟩ ?_ ⟨⟨_, Heap.get?_push_size _ rfl, rfl, rfl⟩, hl.push _⟩ ?_ ?_)
    · have W := Walks.list (prog := G.prog) (w := G.w) hh s.heap.objs.size ax hlt vs
      rw [hz] at W
      exact { sub := W.sub, frame := W.frame, done := W.done, self := W.self, item := fun i s' Q E hi st hq => W.item i s' Q E hi st fun v h' tk hP => hq v h' tk (by
        have : vs.toList[i]? = some v := by rw [Array.getElem?_toList]; exact hP
        have hi' : i < ps.length := hi
        obtain ⟨w, hw, rw'⟩ := h4.get (i := i) (p := ps[i]) (by simp [hi'])
        rw [this] at hw; cases hw
        exact ⟨_, by simp [hi'], rw'⟩) }
    · intro b hb
      rcases List.mem_cons.mp hb with rfl | hb
      · exact .inl rfl
      · rw [List.mem_singleton.mp hb]; exact .inr ⟨_, h1⟩
    · intro i h' st
      obtain ⟨o, e, _, hd⟩ := st.1
      exact ⟨o, _, e, hd⟩
theorem itr_tup {ps : List PV} : Itr G (.tup ps) ps := by
  intro A s Z v Q E hh S r hQ
  cases r with
  | @tup ax vs n l h1 h4 =>
    have hl : s.heap.IsTuple ax vs := ⟨_, S _ _ h1, rfl, n, rfl⟩
    have hlt : ax ≠ s.heap.objs.size := Nat.ne_of_lt (Heap.lt_size (S _ _ h1))
    have hz : vs.size = ps.length := by rw [← h4.len, Array.length_toList]
    refine wpAny_pyIter_tuple hl (hQ _ [s.heap.objs.size, ax] (fun i hh => hh.IsTupleIter s.heap.objs.size ax i ∧ hh.IsTuple ax vs) rfl ⟨_, rfl⟩ ?_ ⟨⟨_, Heap.get?_push_size _ rfl, rfl, rfl⟩, hl.push _⟩ ?_ ?_)
    · have W := Walks.tuple (prog := G.prog) (w := G.w) hh s.heap.objs.size ax hlt vs
      rw [hz] at W
      exact { sub := W.sub, frame := W.frame, done := W.done, self := W.self, item := fun i s' Q E hi st hq => W.item i s' Q E hi st fun v h' tk hP => hq v h' tk (by
        have : vs.toList[i]? = some v := by rw [Array.getElem?_toList]; exact hP
        have hi' : i < ps.length := hi
        obtain ⟨w, hw, rw'⟩ := h4.get (i := i) (p := ps[i]) (by simp [hi'])
        rw [this] at hw; cases hw
        exact ⟨_, by simp [hi'], rw'⟩) }
    · intro b hb
      rcases List.mem_cons.mp hb with rfl | hb
      · exact .inl rfl
      · rw [List.mem_singleton.mp hb]; exact .inr ⟨_, h1⟩
    · intro i h' st
      obtain ⟨o, e, _, hd⟩ := st.1
      exact ⟨o, _, e, hd⟩
theorem itr_rng {n : Nat} (hn : n < 2 ^ 62) : Itr G (.rng n) ((List.range n).map fun (i : Nat) => PV.int (i : Int)) := by
  intro A s Z v Q E hh S r hQ
  cases r with
  | @rng ax _ t u v h1 =>
    have e : Builtin.Range.rangeSize 0 (n : Int) 1 = ((n : Nat) : Int) := by
      unfold Builtin.Range.rangeSize
      rw [if_pos (by decide)]
      split <;> omega
    refine wpAny_pyIter_range (a := 0) (b := (n : Int)) (c := 1) (S _ _ h1) (by unfold Builtin.Range.small; rw [e]; have f : ∀ x : Int, 0 ≤ x → x < 2 ^ 62 → Builtin.Range.rangeFitsLong x = true := fun x a b => by { unfold Builtin.Range.rangeFitsLong; rw [Bool.and_eq_true_iff]; exact ⟨decide_eq_true (by omega), decide_eq_true (by omega)⟩ }; simp [f 0 (by omega) (by omega), f 1 (by omega) (by omega), f n (by omega) (by omega)]) (hQ _ [s.heap.objs.size] (fun i hh => IsRangeIter hh s.heap.objs.size (0 + (i : Nat) * 1) (((n : Nat) : Int) - (i : Nat)) 1) rfl ⟨_, rfl⟩ ?_ ?_ ?_ ?_)
    · have W := (Walks.range (prog := G.prog) (w := G.w) hh s.heap.objs.size 0 1 n).bound
      rw [List.length_map, List.length_range]
      exact { sub := W.sub, frame := W.frame, done := W.done, self := W.self, item := fun i s' Q E hi st hq => W.item i s' Q E hi st fun v h' tk hP => hq v h' tk (by
        obtain ⟨hi', t, rfl⟩ := hP
        refine ⟨.int i, by simp [hi'], ?_⟩
        have : (0 : Int) + i * 1 = i := by omega
        rw [this]; exact .int _ _) }
    · rw [e]; simpa using Heap.get?_push_size _ rfl
    · intro b hb; exact .inl (List.mem_singleton.mp hb)
    · intro i h' st; exact ⟨_, _, st, rfl⟩
end
end Mine

namespace Mine
open PySem PySem.W PySem.Calls PyProof.Rows

theorem ThrA.no {G : Glb} {A : Around} {g : Heap} {s : Shared} {v : Value} {s' : Shared} (h : ThrA G A none g s v s') : False := by
  obtain ⟨C, l, e, _⟩ := h; cases e

section
variable {G : Glb} {F : FnLit} {d : Nat} {own : List (Addr × Obj)} {σ : List (Str × PV)} {R : PV → Prop} {X : Option Value} {B : Bool → Prop} {Q : FO → List (Addr × Obj) → List (Str × PV) → Prop}
  {A : Around} {g h h' : Heap} {L : Addr} {Z₀ Z Z' : FZ} {m : Str → Option Value}

theorem Ex.lift {ss : List Stmt} (h : Ex G F d own σ ss Q none) : Ex G F d own σ ss Q X := fun A g L Z₀ Z s m lv st => wpAny_mono (h A g L Z₀ Z s m lv st) (fun _ _ q => q) fun _ _ q => q.no.elim
theorem Ev.lift {e : Expr} (h : Ev G F d own σ e R none) : Ev G F d own σ e R X := fun A g L Z₀ Z s m lv st => wpAny_mono (h A g L Z₀ Z s m lv st) (fun _ _ q => q) fun _ _ q => q.no.elim

/-- a walk's state in another heap -/
theorem st_move {A' : Around} {I : Addr} {fp : List Addr} {n : Nat} {P : Nat → Value → Prop} {St : Nat → Heap → Prop} (W : Walks G.prog G.w A' I fp [I] n P St) {F₁ F₂ : FnLit} {d₁ d₂ : Nat} {A₁ A₂ : Around} {g₁ g₂ : Heap} {L₁ L₂ : Addr} {Y₁ Y₂ : FZ} {Z₁ Z₂ : FZ} {o : Obj} {own₁ own₂ : List (Addr × Obj)} {m₁ m₂ : Str → Option Value} {h₁ h₂ : Heap}
    (l₁ : Live G F₁ d₁ A₁ g₁ L₁ Y₁ Z₁ own₁ h₁ m₁) (l₂ : Live G F₂ d₂ A₂ g₂ L₂ Y₂ Z₂ own₂ h₂ m₂) (k : FLe Z₁ Z₂) (m₁' : (I, o) ∈ own₁) (m₂' : (I, o) ∈ own₂) (hfp : ∀ b ∈ fp, b = I ∨ ∃ x, Z₁ b = some x) {i : Nat} (st : St i h₁) : St i h₂ :=
  W.frame i h₁ h₂ st fun b hb x e => by
    rcases hfp b hb with rfl | ⟨y, hy⟩
    · have e1 := (l₁.nw _ m₁').1
      have e2 := (l₂.nw _ m₂').1
      dsimp only at e1 e2
      rw [e1] at e; cases e; exact e2
    · have e1 := l₁.sub _ _ hy
      rw [e1] at e; cases e
      exact l₂.sub _ _ (k _ _ hy)

/-- a turn's end of a for loop -/
def ForQ {α : Type} (own : List (Addr × Obj)) (τ : Nat → α → List (Str × PV)) (W : Nat → α → Prop) (i : Nat) (e : Addr × Obj) (Q : FO → List (Addr × Obj) → List (Str × PV) → Prop) : FO → List (Addr × Obj) → List (Str × PV) → Prop
  | .next, o, σ => o = e :: own ∧ ∃ b, W (i + 1) b ∧ ∀ q ∈ τ (i + 1) b, q ∈ σ
  | .cont, o, σ => o = e :: own ∧ ∃ b, W (i + 1) b ∧ ∀ q ∈ τ (i + 1) b, q ∈ σ
  | .brk, _, _ => False
  | .ret p, o, σ => Q (.ret p) o σ

theorem ex_for {α : Type} {x : Str} {px pos : Pos} {iter : Expr} {body rest : List Stmt} (τ : Nat → α → List (Str × PV)) (W : Nat → α → Prop) (a₀ : α) (hx : F.scope.names.lookup x = some .local) (hs : ∀ env v, foldedSetIterable iter env v = pure v)
    (h : Ev G F d own σ iter (fun p => ∃ ps, Itr G p ps ∧ W 0 a₀ ∧ (∀ q ∈ τ 0 a₀, q ∈ σ) ∧ (∀ i a q, ps[i]? = some q → W i a → ∃ σ₁, PutR (τ i a) x q σ₁ ∧ ∀ e, Ex G F d (e :: own) σ₁ body (ForQ own τ W i e Q) none) ∧ (∀ a, W ps.length a → Ex G F d own (τ ps.length a) rest Q none)) none) :
    Ex G F d own σ (.For (.Name x px) iter body [] pos :: rest) Q none := by
  refine ex_cons fun A g L Z₀ Z s m lv st => ?_
  refine wpAny_For (wpAny_mono (h A g L Z₀ Z s m lv st) (fun v s₁ q => ?_) fun _ _ q => q.no.elim) (hs _)
  obtain ⟨Z₁, p, k₁, l₁, q₁, r₁, ps, it, h0, hτ, step, fin⟩ := q
  refine it A s₁ Z₁ v _ _ l₁.hd l₁.sub r₁ fun oI fp St hf hfd Wk st0 hfp hrec => ?_
  obtain ⟨l₂, hne⟩ := l₁.newOwn hf
  generalize hI : s₁.heap.objs.size = I at *
  refine codeAny_forLoop (fun k s' => ∃ i a Z' m' o', k = ps.length + 1 - i ∧ i ≤ ps.length ∧ W i a ∧ FLe Z₁ Z' ∧ Live G F d A g L Z₀ Z' ((I, o') :: own) s'.heap m' ∧ SS s s' ∧ StR Z' m' (τ i a) ∧ St i s'.heap) (fun k s' hinv => ?_) (ps.length + 1)
    ⟨0, a₀, Z₁, m, oI, rfl, Nat.zero_le _, h0, .refl _, l₂, q₁.trans ⟨rfl, .refl _⟩, fun q hq => (st.mono k₁) q (hτ q hq), st0⟩
  obtain ⟨i, a, Z', m', o', rfl, hi, hW, k', l', q', st', hSt⟩ := hinv
  have hfp' : ∀ b ∈ fp, b = I ∨ ∃ x, Z' b = some x := fun b hb => (hfp b hb).imp id fun ⟨x, e⟩ => ⟨x, k' _ _ e⟩
  have ofld : ∃ vs, o'.data = .fields vs := by
    obtain ⟨o, vs, e, hd⟩ := hrec i _ hSt
    have := (l'.nw _ (.head _)).1
    dsimp only at this
    rw [this] at e; cases e; exact ⟨vs, hd⟩
  by_cases hlt : i < ps.length
  · refine Wk.item i _ _ _ hlt hSt fun v h₁ tk hP hSt₁ hk₁ => ?_
    obtain ⟨q, hq, rq⟩ := hP
    obtain ⟨o₁, vs₁, e₁, hd₁⟩ := hrec (i + 1) _ hSt₁
    have l₃ := l'.setOwn (fun b x hb e => hk₁ b x (by simpa using hb) e) e₁ (.inr ofld) hne
    obtain ⟨σ₁, hp, body⟩ := step i a q hq hW
    refine wpAny_assign_Name (wp_store (s := { s' with heap := h₁, toks := tk }) l₃ hx fun h₂ l₄ => ?_)
    have hSt₂ : St (i + 1) h₂ := st_move Wk l₃ l₄ (.refl _) (.head _) (.head _) hfp' hSt₁
    refine wpAny_mono (body _ A g L Z₀ Z' { s' with heap := h₂, toks := tk + 1 } _ l₄ (st'.put hp (rq.mono k'))) (fun fl s₃ z => ?_) fun _ _ z => z.no.elim
    obtain ⟨Z₃, m₃, own₃, σ₃, fo, k₃, l₅, q₃, st₃, fr, h₃⟩ := z
    have qq : SS s s₃ := (q'.trans (SS.mk rfl (.refl _) : SS s' { s' with heap := h₂, toks := tk + 1 })).trans q₃
    cases fl <;> cases fo <;> first | exact fr.elim | exact h₃.elim | skip
    · obtain ⟨rfl, b, hb, hs⟩ := h₃
      exact ⟨ps.length + 1 - (i + 1), by omega, i + 1, b, Z₃, m₃, o₁, rfl, hlt, hb, k'.trans k₃, l₅, qq, fun q hq => st₃ q (hs q hq), st_move Wk l₄ l₅ k₃ (.head _) (.head _) hfp' hSt₂⟩
    · obtain ⟨rfl, b, hb, hs⟩ := h₃
      exact ⟨ps.length + 1 - (i + 1), by omega, i + 1, b, Z₃, m₃, o₁, rfl, hlt, hb, k'.trans k₃, l₅, qq, fun q hq => st₃ q (hs q hq), st_move Wk l₄ l₅ k₃ (.head _) (.head _) hfp' hSt₂⟩
    · exact ⟨Z₃, m₃, own₃, σ₃, .ret _, (k₁.trans k').trans k₃, l₅, qq, st₃, fr, h₃⟩
  · obtain rfl : i = ps.length := Nat.le_antisymm hi (Nat.not_lt.mp hlt)
    obtain ⟨vs, hvs⟩ := ofld
    refine Wk.done _ _ _ hSt fun h₁ tk hk₁ => ?_
    have l₃ := l'.dropOwn (h' := h₁) (fun b x hb e => hk₁ b x (by simpa using hb) e) hvs hne
    exact wpAny_execs_nil ⟨Z', m', own, τ ps.length a, .next, k₁.trans k', l₃, q'.trans ⟨rfl, .refl _⟩, st', trivial, fin a hW⟩

/-! ### the inner frame of a list display with a loop -/
def cmpLit (F : FnLit) (L : Addr) (sc : Scope) (cl : List (Str × Addr × PV)) : FnLit := ⟨Str.empty, sc, 0, F.cd, F.ex, cl, some (F.env L)⟩
theorem Live.enter (l : Live G F d A g L Z₀ Z own h m) (hh : F.host = none) {sc : Scope} {cl : List (Str × Addr × PV)} (hcl : ∀ q ∈ cl, q ∈ F.cells) (hsc : sc.kind = .function) {h₁ : Heap} {mC : Str → Option Value} (k : ∀ b o, h.get? b = some o → h₁.get? b = some o) (hn : h₁.Ns h.objs.size mC) :
    ∃ oL, Live G (cmpLit F L sc cl) d A g h.objs.size Z₀ Z ((L, oL) :: own) h₁ mC ∧ LCg.NsObj oL m := by
  obtain ⟨oL, es, ep, ho, hd, r⟩ := l.fr.ns
  have lk := l.keeps k
  refine ⟨oL, ?_, es, ep, hd, r⟩
  exact { fr := ⟨hn, lk.fr.keep, Nat.le_trans l.fr.above (Nat.le_of_lt l.lt)⟩
          up := lk.up, ek := lk.ek
          og := fun q hq => by
            rcases List.mem_cons.mp hq with rfl | hq
            · show g.get? L = none
              cases q : g.get? L with
              | none => rfl
              | some x => exact absurd (Nat.lt_of_lt_of_le (Heap.lt_size q) l.sz) (Nat.lt_irrefl _)
            · exact l.og q hq
          sz := l.glt, sub := lk.sub, zL := l.sub.none_at, z0 := lk.z0
          nw := fun q hq => by
            rcases List.mem_cons.mp hq with rfl | hq
            · refine ⟨k _ _ ho, Nat.ne_of_lt l.lt, ?_⟩
              show G.base.get? L = none
              exact Heap.get?_none_of_le l.fr.above
            · exact ⟨(lk.nw q hq).1, Nat.ne_of_lt (Heap.lt_size (l.nw q hq).1), (l.nw q hq).2.2⟩
          zo := fun q hq => by
            rcases List.mem_cons.mp hq with rfl | hq
            · exact l.zL
            · exact l.zo q hq
          hd := l.hd
          stk := by
            obtain ⟨o, x, y⟩ := lk.stk
            rw [FnLit.top_env hh] at x y
            exact ⟨o, x, y⟩
          room := l.room, unit := l.unit, kind := hsc
          cel := fun q hq => l.cel q (hcl q hq) }
theorem Live.leave (l : Live G F d A g L Z₀ Z own h m) (hh : F.host = none) {sc : Scope} {cl : List (Str × Addr × PV)} {C : Addr} {oL : Obj} {own' : List (Addr × Obj)} {mC : Str → Option Value} (l' : Live G (cmpLit F L sc cl) d A g C Z₀ Z' ((L, oL) :: own') h' mC) (n : LCg.NsObj oL m) (k : FLe Z Z') (hL : ∀ q ∈ own', q.1 ≠ L) :
    Live G F d A g L Z₀ Z' own' h' m := by
  have e := (l'.nw _ (.head _)).1
  exact { fr := ⟨n.ns e, l'.fr.keep, l.fr.above⟩
          up := l'.up, ek := l'.ek, og := fun q hq => l'.og q (.tail _ hq)
          sz := l.sz, sub := l'.sub, zL := l'.zo _ (.head _), z0 := l'.z0
          nw := fun q hq => ⟨(l'.nw q (.tail _ hq)).1, hL q hq, (l'.nw q (.tail _ hq)).2.2⟩
          zo := fun q hq => l'.zo q (.tail _ hq)
          hd := l.hd
          stk := by
            obtain ⟨o, x, y⟩ := l'.stk
            rw [FnLit.top_env hh]
            exact ⟨o, x, y⟩
          room := l.room, unit := l.unit, kind := l.kind
          cel := fun q hq => let ⟨o, v, a, b, c⟩ := l.cel q hq; ⟨o, v, k _ _ a, b, c.mono k⟩ }
/-- an own object is frozen -/
theorem Live.freeze {a : Addr} {o : Obj} (l : Live G F d A g L Z₀ Z ((a, o) :: own) h m) (ha : g.objs.size ≤ a) (hna : ∀ q ∈ own, q.1 ≠ a) : FLe Z (Z.put a o) ∧ Live G F d A g L Z₀ (Z.put a o) own h m ∧ (Z.put a o) a = some o := by
  have hz := l.zo _ (.head _)
  refine ⟨FZ.put_le hz, (l.less fun q hq => .tail _ hq).frz (FZ.put_le hz) (fun b x e => ?_) ?_ (fun b hb => ?_) (fun q hq => ?_), FZ.put_self⟩
  · unfold FZ.put at e
    by_cases q : b = a
    · rw [if_pos q] at e; cases e; rw [q]; exact (l.nw _ (.head _)).1
    · rw [if_neg q] at e; exact l.sub b x e
  · unfold FZ.put; rw [if_neg (Ne.symm (l.nw _ (.head _)).2.1)]; exact l.zL
  · unfold FZ.put; rw [if_neg (fun e => by rw [e] at hb; exact absurd hb (Nat.not_lt.mpr ha))]
  · unfold FZ.put; rw [if_neg (hna q hq)]; exact l.zo q (.tail _ hq)
/-- another's locals change -/
theorem Live.sameBut {C : Addr} (l : Live G F d A g L Z₀ Z own h m) (hs : Heap.SameBut C h h') (hCL : C ≠ L) (hZ : Z C = none) (hb : G.base.get? C = none) (hg : g.get? C = none) (ho : ∀ q ∈ own, q.1 ≠ C) {h₀ : Heap} (hC₀ : h₀.get? C = none) {o : List Env} (hA : A.frames = some (F.top L :: o)) (ff : h₀.FunFrames G.base (F.top L :: o)) :
    Live G F d A g L Z₀ Z own h' m := by
  have k : ∀ b x, b ≠ C → h.get? b = some x → h'.get? b = some x := fun b x hb e => (hs.2 b hb).trans e
  exact { fr := ⟨l.fr.ns.at' fun x e => k L x (Ne.symm hCL) e, fun b x e => k b x (fun q => by subst q; rw [hb] at e; cases e) (l.fr.keep b x e), l.fr.above⟩
          up := fun b x e hd => by
            obtain ⟨sl, e'⟩ := l.up b x e hd
            exact ⟨sl, k _ _ (fun q => by subst q; rw [hg] at e; cases e) e'⟩
          ek := fun y b x e => k _ _ (fun q => by subst q; rw [hg] at e; cases e) (l.ek y b x e)
          og := l.og, sz := l.sz
          sub := fun b x e => k _ _ (fun q => by subst q; rw [hZ] at e; cases e) (l.sub b x e)
          zL := l.zL, z0 := l.z0
          nw := fun q hq => ⟨k _ _ (ho q hq) (l.nw q hq).1, (l.nw q hq).2⟩
          zo := l.zo, hd := l.hd
          stk := by
            obtain ⟨o', x, y⟩ := l.stk
            obtain rfl : o' = o := by rw [x] at hA; injection hA with e; injection e
            exact ⟨o', x, funFrames_but k hC₀ ff y⟩
          room := l.room, unit := l.unit, kind := l.kind, cel := l.cel }
end
end Mine

namespace Mine
open PySem PySem.W PySem.Calls PyProof.Rows

section
variable {G : Glb} {F : FnLit} {d : Nat} {own : List (Addr × Obj)} {σ : List (Str × PV)} {R : PV → Prop} {Q : FO → List (Addr × Obj) → List (Str × PV) → Prop}
theorem wp_store' {A : Around} {g : Heap} {L : Addr} {Z₀ Z : FZ} {s : Shared} {m : Str → Option Value} {x : Str} {v : Value} {P : Unit → Shared → Prop} {E : Value → Shared → Prop} (lv : Live G F d A g L Z₀ Z own s.heap m) (hl : F.scope.names.lookup x = some .local)
    (h : ∀ h', Live G F d A g L Z₀ Z own h' (fun y => if y = x then some v else m y) → Heap.SameBut L s.heap h' → P () { s with heap := h', toks := s.toks + 1 }) : wpAny (model G.prog G.w) A (storeName (F.env L) x v) P E s :=
  wpAny_storeName_local (by rw [F.kindOf_env]; exact hl) (by rw [F.locals_env]; exact lv.fr.ns) (fun h' hn hs => h h' (lv.store (by rw [← F.locals_env L]; exact hn) (by rw [← F.locals_env L]; exact hs)) (by rw [← F.locals_env L]; exact hs)) (by rw [F.scope_env, lv.kind]; rfl)
/-- y = [elt for x in iter] -/
theorem ex_asgcomp {elt iter : Expr} {x y : Str} {px py : Pos} {scope sc : Scope} {cl : List (Str × Addr × PV)} {pos spos : Pos} {rest : List Stmt} (hh : F.host = none)
    (hsw : ∀ L, swapsWith (.ListComp elt [⟨.Name x px, iter, [], 0⟩] scope pos) (some (.Name y py)) spos.line (F.env L) = pure true)
    (hclos : ∀ L, closureFor scope (F.env L) = pure (cl.map fun q => (q.1, q.2.1))) (hrel : ∀ L, relabel scope (F.env L) = sc) (hcl : ∀ q ∈ cl, q ∈ F.cells)
    (hcell : ∀ z ∈ scope.names, z.2 ≠ .cell) (hkind : scope.kind = .function) (hsc : sc.kind = .function) (hnames : ∀ z ∈ scope.names, z.2 = .local → scope.names.lookup z.1 = some .local) (hx : sc.names.lookup x = some .local)
    (hy : F.scope.names.lookup y = some .local) (hs : ∀ env v, foldedSetIterable iter env v = pure v)
    (h : Ev G F d own σ iter (fun p => ∃ ps, Itr G p ps ∧ ps.length ≤ sizeLine ∧ ∃ P : Nat → PV → Prop, (∀ i q own' L, ps[i]? = some q → Ev G (cmpLit F L sc cl) d own' [(x, q)] elt (P i) none) ∧
      (∀ qs : List PV, qs.length = ps.length → (∀ i q, qs[i]? = some q → P i q) → ∃ σ', PutR σ y (.lst qs) σ' ∧ Ex G F d own σ' rest Q none)) none) :
    Ex G F d own σ (.Assign [.Name y py] (.ListComp elt [⟨.Name x px, iter, [], 0⟩] scope pos) spos :: rest) Q none := by
  refine ex_cons fun A g L Z₀ Z s m lv st => ?_
  rw [exec_Assign_Name_used _ _ _ _ (hsw L)]
  refine wpAny_bind (wpAny_standAt (wpAny_bind ?_))
  show wpAny _ A (do let _ ← comprehension (.ListComp elt [⟨.Name x px, iter, [], 0⟩] scope pos) scope (F.env L) _ (newList []) false (eval iter (F.env L)) (some (assign (.Name y py) (F.env L)))) _ _ s
  refine wpAny_bind (wpAny_mono (wpAny_comprehension_free (use := some (assign (.Name y py) (F.env L))) (Q := fun _ s' => Dn G F d A g L Z₀ Z (Sq G F d rest Q none) s .next s') rfl (hs _) (hclos L) hkind hnames
    (wpAny_mono (h A g L Z₀ Z s m lv st) (fun xv s₁ h₁ => ?_) fun _ _ e => e)) (fun _ s' hq => wpAny_pure (wpAny_pure hq)) fun _ _ e => e)
  obtain ⟨Z₁, p, k₁, l₁, q₁, r₁, ps, it, hsz, P, el, fin⟩ := h₁
  refine it A s₁ Z₁ xv _ _ l₁.hd l₁.sub r₁ fun oI fp St hf hfd Wk st0 hfp hrec => ?_
  obtain ⟨l₂, hne⟩ := l₁.newOwn hf
  have hIlt : s₁.heap.objs.size < (s₁.heap.push oI).objs.size := by rw [Heap.size_push]; exact Nat.lt_succ_self _
  generalize hI : s₁.heap.objs.size = I at *
  generalize hH : s₁.heap.push oI = H at *
  obtain ⟨l₃, hne₃⟩ := l₂.newOwn (o := LCg.lst []) rfl
  have hDg : g.objs.size ≤ H.objs.size := l₂.glt
  refine wpAny_newObj_type ?_
  refine wpAny_newFunctionEnv hcell (by intro y hy; simp at hy) (fun h₁ hns₁ hsb₁ => ?_) hkind
  dsimp only at hns₁ hsb₁ ⊢
  generalize hD : H.objs.size = D at *
  have hDC : D < (H.push (LCg.lst [])).objs.size := by rw [Heap.size_push, hD]; exact Nat.lt_succ_self _
  have old : ∀ b o, (H.push (LCg.lst [])).get? b = some o → h₁.get? b = some o := fun b o e => hsb₁.extBut b o (Nat.ne_of_lt (Heap.lt_size e)) (Heap.get?_push_of_some _ e)
  obtain ⟨oL, l₄, nso⟩ := l₃.enter hh hcl hsc old hns₁
  generalize hC : (H.push (LCg.lst [])).objs.size = C at *
  have hC₀ : (H.push (LCg.lst [])).get? C = none := by
    cases q : (H.push (LCg.lst [])).get? C with
    | none => rfl
    | some o => exact absurd (Heap.lt_size q) (by rw [hC]; exact Nat.lt_irrefl _)
  obtain ⟨outer, hA, ff⟩ := l₃.stk
  have hgC : g.get? C = none := by
    cases q : g.get? C with
    | none => rfl
    | some o => exact absurd (Nat.lt_of_lt_of_le (Heap.lt_size q) (Nat.le_of_lt (Nat.lt_of_le_of_lt hDg hDC))) (Nat.lt_irrefl _)
  have hLI : L ≠ I := Ne.symm (l₂.nw _ (.head _)).2.1
  have hLD : L ≠ D := Ne.symm (l₃.nw _ (.head _)).2.1
  have hDI : D ≠ I := fun e => hne₃ _ (.head _) e.symm
  have honL : ∀ q ∈ own, q.1 ≠ L := fun q hq => (l₁.nw q hq).2.1
  have honI : ∀ q ∈ own, q.1 ≠ I := hne
  have honD : ∀ q ∈ own, q.1 ≠ D := fun q hq => hne₃ q (.tail _ hq)
  have st₁ : St 0 h₁ := by
    refine st_move (F₁ := F) (F₂ := cmpLit F L sc cl) (o := oI) Wk l₂ l₄ (.refl _) (.head _) (.tail _ (.tail _ (.head _))) hfp st0
  -- the loop
  have loop : codeAny (model G.prog G.w) A (.compLoop (.ListComp elt [⟨.Name x px, iter, [], 0⟩] scope pos) 0 (.ref I) (.ref D) (compEnvC scope (cl.map fun q => (q.1, q.2.1)) C (F.env L)))
      (compPost (model G.prog G.w) A (ThrA G A none g s) (some (assign (.Name y py) (F.env L))) (fun _ s' => Dn G F d A g L Z₀ Z (Sq G F d rest Q none) s .next s') (.ref D) C) { s₁ with heap := h₁, toks := s₁.toks + ([] : List (Str × Value)).length } := by
    have henv : compEnvC scope (cl.map fun q => (q.1, q.2.1)) C (F.env L) = (cmpLit F L sc cl).env C := by
      have e1 : (F.env L).globals = mainGlobals := F.globals_env L
      have e2 : (F.env L).builtins = builtinsNs := F.builtins_env L
      have e3 : (cmpLit F L sc cl).env C = { scope := sc, locals := C, globals := mainGlobals, cells := cl.map fun q => (q.1, q.2.1), qual := (F.env L).qual, func := none, code := (F.env L).code, frame := (F.env L).frame, builtins := builtinsNs } := rfl
      rw [e3]
      unfold compEnvC
      rw [hrel, e1, e2]
    rw [henv]
    refine codeAny_compLoop_tests (fun k s' => ∃ i ys qs Z' mC oI', k = ps.length + 1 - i ∧ i ≤ ps.length ∧ ys.length = i ∧ FLe Z₁ Z' ∧ Live G (cmpLit F L sc cl) d A g C Z₀ Z' ((I, oI') :: (D, LCg.lst ys) :: (L, oL) :: own) s'.heap mC ∧ SS s s' ∧
        RdL Z' ys qs ∧ (∀ j q, qs[j]? = some q → P j q) ∧ St i s'.heap) (fun k s' hinv => ?_) (ps.length + 1)
      ⟨0, [], [], Z₁, _, oI, rfl, Nat.zero_le _, rfl, .refl _, l₄.less (fun q hq => ?_), q₁.trans ⟨rfl, .refl _⟩, .nil, (fun j q hj => by simp at hj), st₁⟩
    · obtain ⟨i, ys, qs, Z', mC, oI', rfl, hi, hyl, k', l', q', rd, hP, hSt⟩ := hinv
      have hfp' : ∀ b ∈ fp, b = I ∨ ∃ x, Z' b = some x := fun b hb => (hfp b hb).imp id fun ⟨x, e⟩ => ⟨x, k' _ _ e⟩
      have ofld : ∃ vs, oI'.data = .fields vs := by
        obtain ⟨o, vs, e, hd⟩ := hrec i _ hSt
        have := (l'.nw _ (.head _)).1
        dsimp only at this
        rw [this] at e; cases e; exact ⟨vs, hd⟩
      have apart : ∀ q ∈ (D, LCg.lst ys) :: (L, oL) :: own, q.1 ≠ I := fun q hq => by
        rcases List.mem_cons.mp hq with rfl | hq
        · exact hDI
        · rcases List.mem_cons.mp hq with rfl | hq
          · exact hLI
          · exact honI q hq
      by_cases hlt : i < ps.length
      · refine Wk.item i _ _ _ hlt hSt fun v h₂ tk hPv hSt₂ hk₂ => ?_
        obtain ⟨q, hq, rq⟩ := hPv
        obtain ⟨o₂, vs₂, e₂, hd₂⟩ := hrec (i + 1) _ hSt₂
        have l₅ := l'.setOwn (fun b x hb e => hk₂ b x (by simpa using hb) e) e₂ (.inr ofld) apart
        refine wpAny_assign_Name (wp_store (F := cmpLit F L sc cl) (s := { s' with heap := h₂, toks := tk }) l₅ hx fun h₃ l₆ => ?_)
        have hSt₃ : St (i + 1) h₃ := st_move Wk l₅ l₆ (.refl _) (.head _) (.head _) hfp' hSt₂
        refine wpAny_tests_nil ?_
        simp only [if_true]
        refine wpAny_mono (el i q _ L hq A g C Z₀ Z' { s' with heap := h₃, toks := tk + 1 } _ l₆ (fun z hz => by
          rw [List.mem_singleton.mp hz]; exact ⟨v, if_pos rfl, rq.mono k'⟩)) (fun yv s₄ z => ?_) fun _ _ z => z.no.elim
        obtain ⟨Z₄, p₄, k₄, l₇, q₄, r₄, hp₄⟩ := z
        have hSt₄ : St (i + 1) s₄.heap := st_move Wk l₆ l₇ k₄ (.head _) (.head _) hfp' hSt₃
        have zD := (l₇.nw (D, LCg.lst ys) (.tail _ (.head _))).1
        refine append_at (hsz := by show ys.toArray.size ≤ sizeLine; rw [List.size_toArray, hyl]; exact Nat.le_trans hi hsz) zD fun h₅ hs₅ hD₅ => ?_
        have l₈ : Live G (cmpLit F L sc cl) d A g C Z₀ Z₄ ((D, LCg.lst ys) :: (I, o₂) :: (L, oL) :: own) s₄.heap _ := l₇.less fun q hq => by
          rcases List.mem_cons.mp hq with rfl | hq
          · exact .tail _ (.head _)
          · rcases List.mem_cons.mp hq with rfl | hq
            · exact .head _
            · exact .tail _ (.tail _ hq)
        have l₉ := l₈.setOwn (h' := h₅) (o' := LCg.lst (ys ++ [yv])) (fun b x hb e => hs₅.extBut b x hb e) (hD₅.trans (congrArg some (LCg.lst_snoc ys yv))) (.inl fun vs e => by cases e) (fun q hq => by
          rcases List.mem_cons.mp hq with rfl | hq
          · exact Ne.symm hDI
          · rcases List.mem_cons.mp hq with rfl | hq
            · exact hLD
            · exact honD q hq)
        have l₁₀ : Live G (cmpLit F L sc cl) d A g C Z₀ Z₄ ((I, o₂) :: (D, LCg.lst (ys ++ [yv])) :: (L, oL) :: own) h₅ _ := l₉.less fun q hq => by
          rcases List.mem_cons.mp hq with rfl | hq
          · exact .tail _ (.head _)
          · rcases List.mem_cons.mp hq with rfl | hq
            · exact .head _
            · exact .tail _ (.tail _ hq)
        refine ⟨ps.length + 1 - (i + 1), by omega, i + 1, ys ++ [yv], qs ++ [p₄], Z₄, _, o₂, rfl, hlt, by rw [List.length_append, List.length_singleton, hyl], k'.trans k₄, l₁₀, (q'.trans (SS.mk rfl (.refl _) : SS s' { s' with heap := h₃, toks := tk + 1 })).trans (q₄.trans ⟨rfl, .refl _⟩),
          (rd.mono k₄).app (.cons r₄ .nil), fun j q hj => ?_, st_move Wk l₇ l₁₀ (.refl _) (.head _) (.head _) (fun b hb => (hfp' b hb).imp id fun ⟨x, e⟩ => ⟨x, k₄ _ _ e⟩) hSt₄⟩
        have hql : qs.length = i := rd.len.symm.trans hyl
        rcases Nat.lt_trichotomy j qs.length with hj' | hj' | hj'
        · rw [List.getElem?_append_left hj'] at hj; exact hP j q hj
        · subst hj'; simp at hj; subst hj; rw [hql]; exact hp₄
        · rw [List.getElem?_eq_none (by rw [List.length_append, List.length_singleton]; omega)] at hj; cases hj
      · obtain rfl : i = ps.length := Nat.le_antisymm hi (Nat.not_lt.mp hlt)
        obtain ⟨vs, hvs⟩ := ofld
        refine Wk.done _ _ _ hSt fun h₂ tk hk₂ => ?_
        have l₅ := l'.dropOwn (h' := h₂) (fun b x hb e => hk₂ b x (by simpa using hb) e) hvs apart
        have l₆ : Live G (cmpLit F L sc cl) d A g C Z₀ Z' ((L, oL) :: (D, LCg.lst ys) :: own) h₂ mC := l₅.less fun q hq => by
          rcases List.mem_cons.mp hq with rfl | hq
          · exact .tail _ (.head _)
          · rcases List.mem_cons.mp hq with rfl | hq
            · exact .head _
            · exact .tail _ (.tail _ hq)
        have honDL : ∀ q ∈ (D, LCg.lst ys) :: own, q.1 ≠ L := fun q hq => by
          rcases List.mem_cons.mp hq with rfl | hq
          · exact Ne.symm hLD
          · exact honL q hq
        have l₇ := l₁.leave hh l₆ nso k' honDL
        obtain ⟨kz, l₈, hz⟩ := l₇.freeze hDg honD
        obtain ⟨σ', hp, ex⟩ := fin qs (rd.len.symm.trans hyl) hP
        show wpAny _ A (assign (.Name y py) (F.env L) (.ref D)) _ _ _
        refine wpAny_assign_Name (wp_store' (s := { s' with heap := h₂, toks := tk }) l₈ hy fun h₃ l₉ hs₃ => ?_)
        have nsC : h₂.Ns C mC := l₅.fr.ns
        have hCL : C ≠ L := Ne.symm (l₅.nw (L, oL) (.tail _ (.head _))).2.1
        have hCD : C ≠ D := Ne.symm (Nat.ne_of_lt hDC)
        have hZC : (Z'.put D (LCg.lst ys)) C = none := by unfold FZ.put; rw [if_neg hCD]; exact l₅.zL
        refine ⟨mC, nsC.sameBut hs₃ hCL, fun h₄ hs₄ => ?_⟩
        have lf := l₉.sameBut (C := C) hs₄ hCL hZC (Heap.get?_none_of_le l₅.fr.above) hgC (fun q hq => (l₅.nw q (.tail _ (.tail _ hq))).2.1) hC₀ hA ff
        refine ⟨_, _, own, σ', .next, (k₁.trans k').trans kz, lf, q'.trans ⟨rfl, .refl _⟩, ((st.mono ((k₁.trans k').trans kz)).put hp (.lst hz rfl rfl (rd.mono kz))), trivial, ex⟩
    · rcases List.mem_cons.mp hq with rfl | hq
      · exact .tail _ (.tail _ (.head _))
      · rcases List.mem_cons.mp hq with rfl | hq
        · exact .tail _ (.head _)
        · rcases List.mem_cons.mp hq with rfl | hq
          · exact .head _
          · exact .tail _ (.tail _ (.tail _ hq))
  exact codeAny_compStart_list loop (Wk.self 0 _ _ _ st₁ loop)
end
end Mine

namespace Mine
open PySem PySem.W PySem.Calls PyProof.Rows

section
variable {G : Glb} {F : FnLit} {d : Nat} {own : List (Addr × Obj)} {σ : List (Str × PV)} {R : PV → Prop} {X : Option Value} {B : Bool → Prop} {Q : FO → List (Addr × Obj) → List (Str × PV) → Prop}

theorem RdL.drop {Z : FZ} : ∀ {vs : List Value} {l : List PV} (n : Nat), RdL Z vs l → RdL Z (vs.drop n) (l.drop n)
  | _, _, 0, h => h
  | _, _, n + 1, .nil => .nil
  | _, _, n + 1, .cons _ b => b.drop n
theorem RdL.take {Z : FZ} : ∀ {vs : List Value} {l : List PV} (n : Nat), RdL Z vs l → RdL Z (vs.take n) (l.take n)
  | _, _, 0, h => .nil
  | _, _, n + 1, .nil => .nil
  | _, _, n + 1, .cons a b => .cons a (b.take n)

/-! ### slices -/
theorem wp_newSlc {A : Around} {g : Heap} {L : Addr} {Z₀ Z : FZ} {s : Shared} {m : Str → Option Value} {vl vu : Value} {lo hi : Option Int} (l : Live G F d A g L Z₀ Z own s.heap m) (pl : IsPart vl lo) (pu : IsPart vu hi) (h : R (.slc lo hi)) :
    Got G F d A g L Z₀ Z own m R s (.ref s.heap.objs.size) { s with heap := s.heap.push { cls := .type "slice", data := .fields #[vl, vu, .none] } } := by
  obtain ⟨k, l', e⟩ := l.new (o := { cls := .type "slice", data := .fields #[vl, vu, .none] }) rfl
  exact ⟨_, _, k, l', ⟨rfl, .refl _⟩, .slc e pl pu, h⟩
theorem ev_slcTo {e : Expr} {pos : Pos} (h : Ev G F d own σ e (fun p => ∃ i, p = .int i ∧ R (.slc none (some i))) X) : Ev G F d own σ (.Slice none (some e) none pos) R X := by
  intro A g L Z₀ Z s m lv st
  refine wpAny_Slice (wpAny_evalPart_none (wpAny_evalPart_some (wpAny_mono (h A g L Z₀ Z s m lv st) (fun v s₁ q => ?_) fun _ _ q => q)))
  obtain ⟨Z₁, p, k₁, l₁, q₁, r₁, i, rfl, h₁⟩ := q
  cases r₁
  exact wpAny_evalPart_none ((wp_newSlc l₁ .none (.int _ _) h₁).back k₁ q₁)
theorem ev_slcFrom {e : Expr} {pos : Pos} (h : Ev G F d own σ e (fun p => ∃ i, p = .int i ∧ R (.slc (some i) none)) X) : Ev G F d own σ (.Slice (some e) none none pos) R X := by
  intro A g L Z₀ Z s m lv st
  refine wpAny_Slice (wpAny_evalPart_some (wpAny_mono (h A g L Z₀ Z s m lv st) (fun v s₁ q => ?_) fun _ _ q => q))
  obtain ⟨Z₁, p, k₁, l₁, q₁, r₁, i, rfl, h₁⟩ := q
  cases r₁
  exact wpAny_evalPart_none (wpAny_evalPart_none ((wp_newSlc l₁ (.int _ _) .none h₁).back k₁ q₁))
theorem ev_slcBoth {e f : Expr} {pos : Pos} (h : Ev G F d own σ e (fun p => ∃ i, p = .int i ∧ Ev G F d own σ f (fun q => ∃ j, q = .int j ∧ R (.slc (some i) (some j))) X) X) : Ev G F d own σ (.Slice (some e) (some f) none pos) R X := by
  intro A g L Z₀ Z s m lv st
  refine wpAny_Slice (wpAny_evalPart_some (wpAny_mono (h A g L Z₀ Z s m lv st) (fun v s₁ q => ?_) fun _ _ q => q))
  obtain ⟨Z₁, p, k₁, l₁, q₁, r₁, i, rfl, h₁⟩ := q
  cases r₁
  refine wpAny_evalPart_some (wpAny_mono (h₁ A g L Z₀ Z₁ s₁ m l₁ (st.mono k₁)) (fun w s₂ q => ?_) fun _ _ q => q.back k₁ q₁)
  obtain ⟨Z₂, p₂, k₂, l₂, q₂, r₂, j, rfl, h₂⟩ := q
  cases r₂
  exact wpAny_evalPart_none ((wp_newSlc l₂ (.int _ _) (.int _ _) h₂).back (k₁.trans k₂) (q₁.trans q₂))

theorem op_sliceL {e i : Expr} {l : List PV} {lo hi : Option Int} (hs : ∀ o i', ∃ ops, subscripted i false o i' = operate ops (getItem o i')) (hz : l.length ≤ sizeLine) (h : R (.lst ((l.drop (kms_lo lo l.length)).take (kms_hi hi l.length - kms_lo lo l.length)))) :
    D2 G F d own (subscriptTail e i) (.lst l) (.slc lo hi) R X := by
  intro A g L Z₀ Z s m v w lv r r'
  obtain ⟨a, vs, rfl, hl, rl⟩ := r.isList lv.sub
  cases r' with | slc h1 pl pu =>
  have e1 := lv.sub _ _ h1
  have hn : vs.toList.length = l.length := rl.len
  refine slot_sub hl.typeIs slot_list_getitem.lookup (wpAny_getItem_list_slice hl ⟨_, e1, rfl, rfl⟩ pl pu .none (by simp) ?_ (by rw [← Array.length_toList, hn]; exact hz)) (hs _ _)
  obtain ⟨k, l', ez⟩ := lv.new (o := { cls := .type "list", data := .seq (slicePick vs lo hi none) }) rfl
  refine ⟨_, _, k, l', ⟨rfl, .refl _⟩, .lst ez rfl rfl ?_, h⟩
  have ep : (slicePick vs lo hi none).toList = (vs.toList.drop (kms_lo lo l.length)).take (kms_hi hi l.length - kms_lo lo l.length) := by
    rw [kms_pick_eq]
    show kms_pick vs.toList lo hi = _
    unfold kms_pick
    rw [hn]
  rw [ep]
  exact (((rl.mono k)).drop _).take _
theorem op_sliceT {e i : Expr} {l : List PV} {a : Nat} (hs : ∀ o i', ∃ ops, subscripted i false o i' = operate ops (getItem o i')) (h1 : 1 ≤ a) (ha : a ≤ l.length) (hz : l.length ≤ sizeLine) (h : R (.tup (l.drop a))) :
    D2 G F d own (subscriptTail e i) (.tup l) (.slc (some (a : Int)) none) R X := by
  intro A g L Z₀ Z s m v w lv r r'
  obtain ⟨t, vs, n, rfl, ht, rl⟩ := r.isTup lv.sub
  cases r' with | slc h2 pl pu =>
  cases pl; cases pu
  have e1 := lv.sub _ _ h2
  have hn : vs.toList.length = l.length := rl.len
  rw [Array.length_toList] at hn
  have it : IsTup s.heap t vs := ⟨_, ht, rfl, _, rfl⟩
  refine slot_sub it.typeIs slot_tuple_getitem.lookup (getItem_tuple_from it ⟨_, e1, rfl, rfl⟩ h1 (by rw [hn]; exact ha) ?_ (by rw [hn]; exact hz)) (hs _ _)
  obtain ⟨k, l', ez⟩ := lv.new (o := { cls := .type "tuple", data := .seq (vs.toList.drop a).toArray }) rfl
  exact ⟨_, _, k, l', ⟨rfl, .refl _⟩, .tup ez ((rl.mono k).drop a), h⟩
theorem part_tok {v : Value} {o : Option Int} (p : IsPart v o) : ∃ q : Option (Int × Tok), v = partValue q ∧ q.map (·.1) = o := by
  cases p with
  | none => exact ⟨none, rfl, rfl⟩
  | int i t => exact ⟨some (i, t), rfl, rfl⟩
theorem op_sliceS {e i : Expr} {x : Str} {lo hi : Option Int} (hs : ∀ o i', ∃ ops, subscripted i false o i' = operate ops (getItem o i')) (hz : x.length ≤ sizeLine) (h : R (.str (Txt.slice x lo hi))) :
    D2 G F d own (subscriptTail e i) (.str x) (.slc lo hi) R X := by
  intro A g L Z₀ Z s m v w lv r r'
  cases r
  cases r' with | slc h2 pl pu =>
  have e1 := lv.sub _ _ h2
  obtain ⟨ql, rfl, rfl⟩ := part_tok pl
  obtain ⟨qu, rfl, rfl⟩ := part_tok pu
  refine slot_sub (typeIs_str _ _ _) PySem.F.slot_str_getitem.lookup (wpAny_getItem_str_slice (l := ql) (u := qu) (st := none) ⟨_, e1, rfl, rfl⟩ rfl ?_) (hs _ _)
  exact post_val_or_str ⟨Nat.le_trans (Txt.slice_le x _ _) hz, fun t' k => got_tk lv (.str _ _) h⟩
theorem op_itemS {e i : Expr} {x : Str} {k : Nat} {c : Nat} (hs : ∀ o i', ∃ ops, subscripted i false o i' = operate ops (getItem o i')) (hk : k < 2 ^ 60) (hc : x.cps[k]? = some c) (h : R (.str ⟨#[c]⟩)) :
    D2 G F d own (subscriptTail e i) (.str x) (.int (k : Int)) R X := by
  intro A g L Z₀ Z s m v w lv r r'
  cases r; cases r'
  refine slot_sub (typeIs_str _ _ _) PySem.F.slot_str_getitem.lookup (PySem.P.getItem_str (c := c) ?_ ?_ (got_tk lv (.str _ _) h)) (hs _ _)
  · rw [decide_eq_false (by omega), decide_eq_false (by omega)]; rfl
  · have hlt : k < x.cps.size := (Array.getElem?_eq_some_iff.mp hc).1
    have : seqIndex? (k : Int) x.length = some k := by
      unfold seqIndex?
      rw [if_neg (show ¬ (k : Int) < 0 by omega)]
      have hb : (decide (0 ≤ (k : Int)) && decide ((k : Int) < (x.length : Int))) = true := by
        rw [Bool.and_eq_true_iff, decide_eq_true_eq, decide_eq_true_eq]
        have : x.length = x.cps.size := rfl
        omega
      simp only [hb, if_true]
      simp
    rw [this]; exact hc

/-! ### joining lists -/
theorem op_cat {l r : List PV} (hz : l.length + r.length ≤ sizeLine) (h : R (.lst (l ++ r))) : D2 G F d own (binaryOp .Add) (.lst l) (.lst r) R X := by
  intro A g L Z₀ Z s m v w lv rv rw'
  obtain ⟨a, vs, rfl, hl, rl⟩ := rv.isList lv.sub
  obtain ⟨b, ws, rfl, hb, rb⟩ := rw'.isList lv.sub
  have n1 : vs.size = l.length := by rw [← rl.len, Array.length_toList]
  have n2 : ws.size = r.length := by rw [← rb.len, Array.length_toList]
  obtain ⟨k, l', ez⟩ := lv.new (o := { cls := .type "list", data := .seq (vs ++ ws) }) rfl
  obtain ⟨⟨cls, dd, data, sl⟩, ho, hc, n, hd⟩ := id hl
  obtain ⟨⟨cls2, dd2, data2, sl2⟩, ho2, hc2, n2', hd2⟩ := id hb
  simp only at hc hd hc2 hd2
  subst hc hd hc2 hd2
  refine concat_meets ⟨_, ho, rfl⟩ ⟨_, ho2, rfl⟩ noFill_list_add seq_list_add PySem.F.slot_list_add PySem.F.entry_list_add (PySem.F.args_list_add_2 _ _) (list_addW a b vs ws n n2' dd dd2 sl sl2 (by rw [n1, n2]; exact hz)) ⟨ho, ho2, ?_⟩
  exact ⟨_, _, k, l', ⟨rfl, .refl _⟩, .lst ez rfl rfl (by rw [Array.toList_append]; exact (rl.mono k).app (rb.mono k)), h⟩
/-! ### str, is, in -/
theorem op_strInt {a : Int} (ha : a.natAbs < 2 ^ 64) (h : R (.str (Str.ofString (toString a)))) : Cl G F d own (.raw (.type "str")) [.int a] [] R X := by
  intro A g L Z₀ Z s m fv vs kvs lv rf r hk rk
  obtain rfl : kvs = [] := by simpa using hk
  cases rf
  cases r with | cons r r' =>
  cases r'; cases r
  refine PySem.P.str_of_int ?_ (got_tk lv (.str _ _) h)
  rcases Nat.eq_zero_or_pos a.natAbs with h0 | hp
  · rw [h0]; decide
  · have := (Nat.log2_lt (Nat.ne_of_gt hp)).mpr ha
    omega
def PV.isNone : PV → Bool
  | .none => true
  | _ => false
def PV.solid : PV → Bool
  | .raw _ => false
  | _ => true
theorem isNone_of {Z : FZ} {v : Value} {p : PV} (r : Rd Z v p) (hs : p.solid = true) : (v == .none) = p.isNone := by
  cases r <;> first | rfl | cases hs
theorem op_is {p : PV} (hs : p.solid = true) (h : R (.bool p.isNone)) : D2 G F d own (compareOp .Is) p .none R X := by
  intro A g L Z₀ Z s m v w lv r r'
  cases r'
  refine is_none_gen ?_
  rw [isNone_of r hs]
  exact Got.of lv (.bool _) h
theorem op_isnot {p : PV} (hs : p.solid = true) (h : R (.bool !p.isNone)) : D2 G F d own (compareOp .IsNot) p .none R X := by
  intro A g L Z₀ Z s m v w lv r r'
  cases r'
  refine isnot_none_gen ?_
  rw [isNone_of r hs]
  exact Got.of lv (.bool _) h

def strEq (x : Str) (v : Value) : Bool := match v with
  | .str y _ => y == x
  | _ => false
theorem any_strs {Z : FZ} {x : Str} : ∀ {vs : List Value} {l : List Str}, RdL Z vs (l.map PV.str) → vs.any (strEq x) = l.any (· == x)
  | _, [], .nil => rfl
  | _, a :: l, .cons r b => by
    cases r
    rw [List.any_cons, List.any_cons, any_strs b]
    rfl
theorem strs_eq {Z : FZ} {x : Str} {t : Tok} {A : Around} {s : Shared} : ∀ {vs : List Value} {l : List Str}, RdL Z vs (l.map PV.str) → ∀ y ∈ vs, SeqAt.EqAt A s y (.str x t) (strEq x y)
  | _, [], .nil, y, h => nomatch h
  | _, a :: l, .cons r b, y, h => by
    rcases List.mem_cons.mp h with rfl | h
    · cases r; exact SeqAt.EqAt.str_str _ _ _ _
    · exact strs_eq b y h
theorem op_inS {x : Str} {ps : List PV} (l : List Str) (e : ps = l.map PV.str) (h : R (.bool (l.any (· == x)))) : D2 G F d own (compareOp .In) (.str x) (.tup ps) R X := by
  subst e
  intro A g L Z₀ Z s m v w lv r r'
  cases r
  obtain ⟨a, vs, n, rfl, ht, rl⟩ := r'.isTup lv.sub
  refine SeqAt.in_tupleAt (strEq x) ⟨_, ht, rfl, _, rfl⟩ (fun y hy => strs_eq rl y (Array.mem_toList_iff.mpr hy)) ?_
  rw [← Array.any_toList, any_strs rl]
  exact Got.of lv (.bool _) h
theorem op_notinS {x : Str} {ps : List PV} (l : List Str) (e : ps = l.map PV.str) (h : R (.bool !(l.any (· == x)))) : D2 G F d own (compareOp .NotIn) (.str x) (.tup ps) R X := by
  subst e
  intro A g L Z₀ Z s m v w lv r r'
  cases r
  obtain ⟨a, vs, n, rfl, ht, rl⟩ := r'.isTup lv.sub
  refine SeqAt.notIn_tupleAt (strEq x) ⟨_, ht, rfl, _, rfl⟩ (fun y hy => strs_eq rl y (Array.mem_toList_iff.mpr hy)) ?_
  rw [← Array.any_toList, any_strs rl]
  exact Got.of lv (.bool _) h
/-- None in a list of tuples and Nones -/
inductive TupN : List PV → Prop
  | nil : TupN []
  | none {l : List PV} : TupN l → TupN (.none :: l)
  | tup {t l : List PV} : TupN l → TupN (.tup t :: l)
theorem any_none {Z : FZ} : ∀ {vs : List Value} {l : List PV}, TupN l → RdL Z vs l → vs.any (· == Value.none) = l.any PV.isNone
  | _, _, .nil, .nil => rfl
  | _, _, .none h, .cons r b => by cases r; rw [List.any_cons, List.any_cons, any_none h b]; rfl
  | _, _, .tup h, .cons r b => by cases r; rw [List.any_cons, List.any_cons, any_none h b]; rfl
theorem none_eq {Z : FZ} {A : Around} {s : Shared} (S : Sub Z s.heap) (hu : A.units < cLine) : ∀ {vs : List Value} {l : List PV}, TupN l → RdL Z vs l → ∀ y ∈ vs, SeqAt.EqAt A s y .none (y == Value.none)
  | _, _, .nil, .nil, y, h => nomatch h
  | _, _, .none q, .cons r b, y, h => by
    rcases List.mem_cons.mp h with rfl | h
    · cases r; exact SeqAt.EqAt.same _
    · exact none_eq S hu q b y h
  | _, _, .tup q, .cons r b, y, h => by
    rcases List.mem_cons.mp h with rfl | h
    · obtain ⟨a, vs, n, rfl, ht, rl⟩ := r.isTup S
      exact SeqAt.EqAt.tuple_none ⟨_, ht, rfl, _, rfl⟩ hu
    · exact none_eq S hu q b y h
theorem op_noneIn {l : List PV} (hl : TupN l) (hd : 1 ≤ d) (h : R (.bool (l.any PV.isNone))) : D2 G F d own (compareOp .In) .none (.lst l) R X := by
  intro A g L Z₀ Z s m v w lv r r'
  cases r
  obtain ⟨a, vs, rfl, ht, rl⟩ := r'.isList lv.sub
  refine SeqAt.in_listAt (· == Value.none) ht (fun y hy => none_eq lv.sub (by have := lv.unit; show A.units + 1 < _; omega) hl rl y (Array.mem_toList_iff.mpr hy)) ?_
  rw [← Array.any_toList, any_none hl rl]
  exact Got.of lv (.bool _) h
theorem op_range {n : Nat} (h : R (.rng n)) : Cl G F d own (.raw (.type "range")) [.int (n : Int)] [] R X := by
  intro A g L Z₀ Z s m fv vs kvs lv rf r hk rk
  obtain rfl : kvs = [] := by simpa using hk
  cases rf
  cases r with | cons r r' =>
  cases r'; cases r
  refine PySem.call_range_1 ?_
  obtain ⟨k, l', ez⟩ := lv.new (o := { cls := .type "range", data := .fields #[.int 0 s.toks, .int n _, .int 1 (s.toks + 1)] }) rfl
  exact ⟨_, _, k, l', ⟨rfl, .refl _⟩, .rng ez, h⟩
end
end Mine

namespace Mine
open PySem PySem.W PySem.Calls PyProof.Rows

/-! ## A function of one parameter that is kept in a cell -/
theorem fn_intro_cell {G : Glb} (O : G.Ok) {f : Addr} {name qual : Str} {params : Arguments} {body : List Stmt} {scope : Scope} {dV kV doc pm cdv ct oc : Value} {an od : Option Addr} {osl : Array (Option Value)} {d : Nat} {p : PV} {x : Str} {R : PV → Prop} {X : Option Value}
    (ho : G.K.lookup f = some ⟨oc, od, .func (fnOf name qual params body scope dV kV doc pm an cdv ct), osl⟩) (hcd : codeIn G.K cdv qual = true)
    (hb : ∀ v, bindArgs (fnOf name qual params body scope dV kV doc pm an cdv ct) ⟨[v], []⟩ = pure [(x, v)])
    (h : ∀ c, Ex G ⟨qual, scope, f, cdv, true, [(x, c, p)], none⟩ d [] [] body (RetP R) X)
    (hx : scope.names.lookup x = some .cell) (hcf : ∀ n, cellsFrom n scope.names [] = [(x, n)])
    (hco : scope.isCoroutine = false) (hgen : scope.isGenerator = false) (hk : scope.kind = .function) : Fn G (d + 1) (.ref f) [p] [] R X := by
  intro A l s Z vs kvs c sub r hkn rk
  obtain rfl : kvs = [] := by simpa using hkn
  cases r with | @cons v _ _ _ rv r' =>
  cases r'
  have Xs := O.kin.keeps c.stay
  refine codeAny_call_function (fd := fnOf name qual params body scope dV kV doc pm an cdv ct) (body := body) (by have := c.room; omega) (Xs _ _ ho) rfl hco hgen rfl (codeRec_of Xs hcd) ?_
  refine BindsTo.of_eq (hb v) _ _ _ _ ?_
  refine wpAny_newFunctionEnv_cells hk (fun z hz => ?_) fun env' he s' xx => ?_
  · rw [List.mem_singleton.mp hz]
    exact .inr ⟨hx, by rw [hcf]; simp⟩
  subst he
  have nl : s'.heap.NoLimit := (O.top.nolimit.keeps c.stay).keeps xx.toInCall.keep
  refine ⟨nl, codeAny_func ?_⟩
  obtain ⟨h₁, tk, rfl, _⟩ := xx.done
  have hk₁ : ∀ b o, s.heap.get? b = some o → h₁.get? b = some o := xx.toInCall.keep
  have hns := xx.toInCall.ns
  have e1 : (newEnv scope s.heap.objs.size mainGlobals (cellsFrom (s.heap.objs.size + 1) scope.names []) (qual ++ ".<locals>.") (some f) cdv none builtinsNs) = (FnLit.env ⟨qual, scope, f, cdv, true, [(x, s.heap.objs.size + 1, p)], none⟩ s.heap.objs.size) := by
    rw [hcf]; rfl
  have hcell : h₁.IsCell (s.heap.objs.size + 1) (some v) := by
    have := xx.cell x (s.heap.objs.size + 1) (by show (cellsFrom (s.heap.objs.size + 1) scope.names []).lookup x = _; rw [hcf]; simp)
    have e2 : bindC (Env.kindOf (newEnv scope s.heap.objs.size mainGlobals (cellsFrom (s.heap.objs.size + 1) scope.names []) (qual ++ ".<locals>.") (some f) cdv none builtinsNs)) [(x, v)] (fun _ => none) x = some v := by
      have hkk : Env.kindOf (newEnv scope s.heap.objs.size mainGlobals (cellsFrom (s.heap.objs.size + 1) scope.names []) (qual ++ ".<locals>.") (some f) cdv none builtinsNs) x = some .cell := hx
      unfold bindC bindC
      rw [hkk]
      simp
    rw [← e2]; exact this
  obtain ⟨oc', hoc, hdc⟩ := hcell
  have bn : G.base.get? s.heap.objs.size = none := Heap.get?_none_of_le c.bs
  have zn : Z (s.heap.objs.size + 1) = none := by
    cases q : Z (s.heap.objs.size + 1) with
    | none => rfl
    | some o => exact absurd (Heap.lt_size (sub _ o q)) (Nat.not_lt.mpr (Nat.le_succ _))
  have ple := FZ.put_le (o := oc') zn
  have lv : Live G ⟨qual, scope, f, cdv, true, [(x, s.heap.objs.size + 1, p)], none⟩ d (A.deeper (FnLit.env ⟨qual, scope, f, cdv, true, [(x, s.heap.objs.size + 1, p)], none⟩ s.heap.objs.size)) s.heap s.heap.objs.size Z (Z.put (s.heap.objs.size + 1) oc') [] h₁ (bindL (Env.kindOf (newEnv scope s.heap.objs.size mainGlobals (cellsFrom (s.heap.objs.size + 1) scope.names []) (qual ++ ".<locals>.") (some f) cdv none builtinsNs)) [(x, v)] fun _ => none) := {
    fr := ⟨hns, fun b o e => hk₁ b o (c.stay b o e), c.bs⟩
    up := Heap.UpToSlots.of_keeps hk₁
    ek := fun _ => hk₁
    og := fun _ hp => nomatch hp
    sz := Nat.le_refl _
    sub := fun a o e => by
      unfold FZ.put at e
      by_cases q : a = s.heap.objs.size + 1
      · rw [if_pos q] at e; cases e; rw [q]; exact hoc
      · rw [if_neg q] at e; exact hk₁ _ _ (sub a o e)
    zL := by unfold FZ.put; rw [if_neg (show s.heap.objs.size ≠ s.heap.objs.size + 1 from Nat.ne_of_lt (Nat.lt_succ_self _))]; exact sub.none_at
    z0 := fun a ha => by unfold FZ.put; rw [if_neg (Nat.ne_of_lt (Nat.lt_succ_of_lt ha))]
    nw := fun _ hp => nomatch hp
    zo := fun _ hp => nomatch hp
    hd := c.hd
    stk := ⟨l, Around.frames_deeper c.fr, Heap.FunFrames.cons (by show scope.kind ≠ .module; rw [hk]; decide) rfl hns bn (c.ff.of_keeps fun b o e _ => ⟨o, hk₁ b o e, rfl⟩)⟩
    room := by have := c.room; show A.depth + 1 + d < _; omega
    unit := by have := c.unit; show A.units + 3 + 10 * d < _; omega
    kind := hk
    cel := fun q hq => by rw [List.mem_singleton.mp hq]; exact ⟨oc', v, FZ.put_self, hdc, rv.mono ple⟩ }
  show wpAny (model G.prog G.w) (A.deeper (newEnv scope s.heap.objs.size mainGlobals (cellsFrom (s.heap.objs.size + 1) scope.names []) (qual ++ ".<locals>.") (some f) cdv none builtinsNs)) (execs body (newEnv scope s.heap.objs.size mainGlobals (cellsFrom (s.heap.objs.size + 1) scope.names []) (qual ++ ".<locals>.") (some f) cdv none builtinsNs)) _ _ _
  rw [e1]
  generalize hE : FnLit.env ⟨qual, scope, f, cdv, true, [(x, s.heap.objs.size + 1, p)], none⟩ s.heap.objs.size = env
  refine wpAny_mono (hE ▸ h (s.heap.objs.size + 1) _ s.heap s.heap.objs.size Z _ { s with heap := h₁, toks := tk } _ lv (fun q hq => nomatch hq)) (fun fl s' q => ?_) fun e s' q => ?_
  · obtain ⟨Z', m', own', σ', fo, k₁, l₁, q₁, st₁, fr, hQ⟩ := q
    obtain ⟨o', ho', ff'⟩ := l₁.stk
    have htop : FnLit.top ⟨qual, scope, f, cdv, true, [(x, s.heap.objs.size + 1, p)], none⟩ s.heap.objs.size = env := hE
    rw [htop] at ho' ff'
    have eo' : o' = l := by
      have : some (env :: l) = some (env :: o') := (Around.frames_deeper c.fr).symm.trans ho'
      injection this with this
      injection this with _ this
      exact this.symm
    have bk : Back G l Z Z' s s' := ⟨ple.trans k₁, l₁.sub, l₁.ek rfl, fun a ha => (l₁.z0 a ha), (SS.mk rfl (.refl _) : SS s { s with heap := h₁, toks := tk }).trans q₁, eo' ▸ ff'.2.2, l₁.fr.keep⟩
    cases fl <;> cases fo <;> first | exact fr.elim | exact hQ.elim | skip
    · exact ⟨Z', .none, bk, .none, hQ⟩
    · exact ⟨Z', _, bk, fr, hQ⟩
  · obtain ⟨C, l', hX, hA, t⟩ := q
    have e' : env :: l = l' := by
      have := (Around.frames_deeper c.fr).symm.trans hA
      exact Option.some.inj this
    subst e'
    refine wp_leave (Around.frames_deeper c.fr) (by rw [← hE]; rfl) t.fl fun h' fl' u => ?_
    exact ⟨C, hX, fl', ((SS.mk rfl (.refl _) : SS s { s with heap := h₁, toks := tk }).trans t.ss).trans ⟨rfl, .refl _⟩, t.up.trans u⟩
end Mine

namespace Mine
open PySem PySem.W PySem.Calls PyProof.Rows

/-! ## The trees of the law -/
inductive Op | add | sub | mul | div | jux | pow
  deriving DecidableEq
inductive T
  | num (k : Nat)
  | neg (t : T)
  | bin (o : Op) (a b : T)
def Op.word : Op → Str
  | .add => "+"
  | .sub => "-"
  | .mul => "*"
  | .div => "/"
  | .jux => ""
  | .pow => "**"
def T.enc : T → PV
  | .num k => .tup [.str "num", .int k]
  | .neg t => .tup [.str "neg", t.enc]
  | .bin o a b => .tup [.str o.word, a.enc, b.enc]
def T.leaves : T → Nat
  | .num _ => 1
  | .neg t => t.leaves
  | .bin _ a b => a.leaves + b.leaves
def T.size : T → Nat
  | .num _ => 1
  | .neg t => t.size + 1
  | .bin _ a b => a.size + b.size + 1
def T.wf : T → Prop
  | .num k => k ≤ 9
  | .neg t => t.wf
  | .bin .pow a b => a.wf ∧ ∃ e, e ≤ 3 ∧ b = .num e
  | .bin _ a b => a.wf ∧ b.wf
theorem T.leaves_pos : ∀ t : T, 1 ≤ t.leaves
  | .num _ => Nat.le_refl _
  | .neg t => t.leaves_pos
  | .bin _ a b => Nat.le_trans a.leaves_pos (Nat.le_add_right _ _)
theorem T.size_pos : ∀ t : T, 1 ≤ t.size
  | .num _ => Nat.le_refl _
  | .neg t => Nat.le_add_left _ _
  | .bin _ a b => Nat.le_add_left _ _
def sumBy (f : T → Nat) : List T → Nat
  | [] => 0
  | t :: r => f t + sumBy f r
theorem sumBy_append (f : T → Nat) : ∀ a b : List T, sumBy f (a ++ b) = sumBy f a + sumBy f b
  | [], b => by simp [sumBy]
  | t :: r, b => by simp [sumBy, sumBy_append f r b, Nat.add_assoc]
/-- two neighbours give way to one -/
theorem sum_join (f : T → Nat) (ts : List T) (k : Nat) (h : k + 1 < ts.length) (n : T) : sumBy f (ts.take k ++ [n] ++ ts.drop (k + 2)) + f (ts[k]'(by omega)) + f (ts[k+1]'h) = sumBy f ts + f n := by
  have e : ts = ts.take k ++ ([ts[k]'(by omega)] ++ ([ts[k+1]'h] ++ ts.drop (k + 2))) := by
    conv => lhs; rw [← List.take_append_drop k ts, List.drop_eq_getElem_cons (by omega), List.drop_eq_getElem_cons h]
    simp
  have e2 : sumBy f ts = sumBy f (ts.take k) + (f (ts[k]'(by omega)) + (f (ts[k+1]'h) + sumBy f (ts.drop (k + 2)))) := by
    conv => lhs; rw [e]
    rw [sumBy_append, sumBy_append, sumBy_append]
    simp [sumBy]
  rw [e2, sumBy_append, sumBy_append]
  simp [sumBy]
  omega

theorem pv_to (l : List PV) (k : Nat) : (l.drop (kms_lo none l.length)).take (kms_hi (some (k : Int)) l.length - kms_lo none l.length) = l.take k := by
  have e1 : kms_lo none l.length = 0 := rfl
  have e2 : kms_hi (some (k : Int)) l.length = min k l.length := by
    show (if (k : Int) < 0 then l.length - (-(k : Int)).toNat else min (k : Int).toNat l.length) = _
    rw [if_neg (show ¬ ((k : Int) < 0) by omega)]; simp
  rw [e1, e2, List.drop_zero, Nat.sub_zero]
  rcases Nat.le_total k l.length with h | h
  · rw [Nat.min_eq_left h]
  · rw [Nat.min_eq_right h, List.take_length, List.take_of_length_le h]
theorem pv_from (l : List PV) (k : Nat) : (l.drop (kms_lo (some (k : Int)) l.length)).take (kms_hi none l.length - kms_lo (some (k : Int)) l.length) = l.drop k := by
  have e1 : kms_hi none l.length = l.length := rfl
  have e2 : kms_lo (some (k : Int)) l.length = min k l.length := by
    show (if (k : Int) < 0 then l.length - (-(k : Int)).toNat else min (k : Int).toNat l.length) = _
    rw [if_neg (show ¬ ((k : Int) < 0) by omega)]; simp
  rw [e1, e2]
  rcases Nat.le_total k l.length with h | h
  · rw [Nat.min_eq_left h, List.take_of_length_le (by simp)]
  · rw [Nat.min_eq_right h, List.drop_length, Nat.sub_self, List.take_zero, List.drop_eq_nil_of_le h]

section
variable {G : Glb} {F : FnLit} {d : Nat} {own : List (Addr × Obj)} {σ : List (Str × PV)} {R : PV → Prop} {X : Option Value}
theorem op_modN {a b : Int} (hb : 0 < b) (h : ∀ k : Nat, (k : Int) = a.fmod b → (k : Int) < b → R (.int k)) : D2 G F d own (binaryOp .Mod) (.int a) (.int b) R X := by
  refine op_mod (by omega) ?_
  have h1 := Int.fmod_nonneg_of_pos a hb
  have h2 := Int.fmod_lt_of_pos a hb
  have := h (a.fmod b).toNat (by omega) (by omega)
  rwa [Int.toNat_of_nonneg h1] at this
theorem op_rangeI {i : Int} (hi : 0 ≤ i) (h : ∀ n : Nat, (n : Int) = i → R (.rng n)) : Cl G F d own (.raw (.type "range")) [.int i] [] R X := by
  have := op_range (G := G) (F := F) (d := d) (own := own) (X := X) (n := i.toNat) (h _ (Int.toNat_of_nonneg hi))
  rwa [Int.toNat_of_nonneg hi] at this
theorem ev_cel {x : Str} {pos : Pos} {c : Addr} {p : PV} (hl : F.scope.names.lookup x = some .cell) (hd : (x == ("__debug__" : Str)) = false) (hc : (F.cells.map fun q => (q.1, q.2.1)).lookup x = some c) (hm : (x, c, p) ∈ F.cells) (h : R p) :
    Ev G F d own σ (.Name x pos) R X := ev_cell hc hm h hl hd
theorem Cl.mono {f : PV} {as : List PV} {ks : List (Str × PV)} {R' : PV → Prop} (x : Cl G F d own f as ks R X) (h : ∀ p, R p → R' p) : Cl G F d own f as ks R' X :=
  fun A g L Z₀ Z s m fv vs kvs lv rf r hk rk => wpAny_mono (x A g L Z₀ Z s m fv vs kvs lv rf r hk rk) (fun _ _ q => q.mono h) fun _ _ q => q
theorem Cl.lift {f : PV} {as : List PV} {ks : List (Str × PV)} (x : Cl G F d own f as ks R none) : Cl G F d own f as ks R X :=
  fun A g L Z₀ Z s m fv vs kvs lv rf r hk rk => wpAny_mono (x A g L Z₀ Z s m fv vs kvs lv rf r hk rk) (fun _ _ q => q) fun _ _ q => q.no.elim
theorem cl_use {d' : Nat} {f : Value} {as : List PV} {ks : List (Str × PV)} {R' : PV → Prop} (T : Fn G d' f as ks R' X) (hd : d' ≤ d) (h : ∀ p, R' p → R p) : Cl G F d own (.raw f) as ks R X := (cl_fn T hd).mono h
theorem cl_use0 {d' : Nat} {f : Value} {as : List PV} {ks : List (Str × PV)} {R' : PV → Prop} (T : Fn G d' f as ks R' none) (hd : d' ≤ d) (h : ∀ p, R' p → R p) : Cl G F d own (.raw f) as ks R X := ((cl_fn T hd).mono h).lift
theorem op_atI {e i : Expr} {l : List PV} {k : Int} {p : PV} (n : Nat) (hs : ∀ o i', ∃ ops, subscripted i false o i' = operate ops (getItem o i')) (hn : k = n) (hk : n < 2 ^ 59) (hp : l[n]? = some p) (h : R p) : D2 G F d own (subscriptTail e i) (.lst l) (.int k) R X := by
  subst hn; exact op_item hs (by omega) (by omega) (by simpa using hp) h
/-- an item of the list at k -/
theorem op_at {e i : Expr} {l : List PV} {k : Nat} {p : PV} (hs : ∀ o i', ∃ ops, subscripted i false o i' = operate ops (getItem o i')) (hk : k < 2 ^ 59) (hp : l[k]? = some p) (h : R p) : D2 G F d own (subscriptTail e i) (.lst l) (.int (k : Int)) R X :=
  op_item hs (by omega) (by omega) (by simpa using hp) h
theorem op_atT {e i : Expr} {l : List PV} {k : Nat} {p : PV} (hs : ∀ o i', ∃ ops, subscripted i false o i' = operate ops (getItem o i')) (hk : k < 2 ^ 59) (hp : l[k]? = some p) (h : R p) : D2 G F d own (subscriptTail e i) (.tup l) (.int (k : Int)) R X :=
  op_itemT hs (by omega) (by omega) (by simpa using hp) h
end

theorem join_ok {us : List T} {k sp : Nat} {n : T} (w1 : 1 ≤ us.length) (w2 : us.length + k ≤ 7) (w3 : ∀ u ∈ us, u.wf) (w4 : sumBy T.leaves us ≤ 7) (w5 : sumBy T.size us + 2 * us.length ≤ 21) (h : sp + 1 < us.length) (hw : n.wf)
    (hl : n.leaves ≤ (us[sp]'(by omega)).leaves + (us[sp+1]'h).leaves) (hs : n.size ≤ (us[sp]'(by omega)).size + (us[sp+1]'h).size + 2) :
    (1 ≤ (us.take sp ++ [n] ++ us.drop (sp + 2)).length ∧ (us.take sp ++ [n] ++ us.drop (sp + 2)).length + (k + 1) ≤ 7 ∧ (∀ u ∈ us.take sp ++ [n] ++ us.drop (sp + 2), u.wf) ∧ sumBy T.leaves (us.take sp ++ [n] ++ us.drop (sp + 2)) ≤ 7 ∧
      sumBy T.size (us.take sp ++ [n] ++ us.drop (sp + 2)) + 2 * (us.take sp ++ [n] ++ us.drop (sp + 2)).length ≤ 21) ∧ (us.take sp ++ [n] ++ us.drop (sp + 2)).length < us.length := by
  have len : (us.take sp ++ [n] ++ us.drop (sp + 2)).length = us.length - 1 := by simp; omega
  have s1 := sum_join T.leaves us sp h n
  have s2 := sum_join T.size us sp h n
  refine ⟨⟨by omega, by omega, ?_, by omega, by omega⟩, by omega⟩
  intro u hu
  rcases List.mem_append.mp hu with hu | hu
  · rcases List.mem_append.mp hu with hu | hu
    · exact w3 u (List.mem_of_mem_take hu)
    · rw [List.mem_singleton.mp hu]; exact hw
  · exact w3 u (List.mem_of_mem_drop hu)
theorem enc_join (us : List T) (sp : Nat) (n : T) : (us.map T.enc).take sp ++ [n.enc] ++ (us.map T.enc).drop (sp + 2) = (us.take sp ++ [n] ++ us.drop (sp + 2)).map T.enc := by
  simp [List.map_take, List.map_drop]
end Mine

namespace Mine
open PySem PySem.W PySem.Calls PyProof.Rows PySem.Spec

section
variable {G : Glb} {F : FnLit} {d : Nat} {own : List (Addr × Obj)} {σ : List (Str × PV)} {R : PV → Prop} {X : Option Value} {B : Bool → Prop} {Q : FO → List (Addr × Obj) → List (Str × PV) → Prop}
  {A : Around} {g h : Heap} {L : Addr} {Z₀ Z : FZ} {m : Str → Option Value}

/-- a new object at a is frozen -/
theorem Live.putNew {a : Addr} {o : Obj} {h₁ : Heap} (l : Live G F d A g L Z₀ Z own h m) (k : ∀ b x, h.get? b = some x → h₁.get? b = some x) (ha : h.objs.size ≤ a) (ho : h₁.get? a = some o) : FLe Z (Z.put a o) ∧ Live G F d A g L Z₀ (Z.put a o) own h₁ m ∧ (Z.put a o) a = some o := by
  have hz : Z a = none := by
    cases q : Z a with
    | none => rfl
    | some x => exact absurd (Heap.lt_size (l.sub _ _ q)) (Nat.not_lt.mpr ha)
  refine ⟨FZ.put_le hz, (l.keeps k).frz (FZ.put_le hz) (fun b x e => ?_) ?_ (fun b hb => ?_) (fun q hq => ?_), FZ.put_self⟩
  · unfold FZ.put at e
    by_cases q : b = a
    · rw [if_pos q] at e; cases e; rw [q]; exact ho
    · rw [if_neg q] at e; exact k _ _ (l.sub b x e)
  · unfold FZ.put; rw [if_neg (fun e : L = a => absurd l.lt (Nat.not_lt.mpr (by rw [e]; exact ha)))]; exact l.zL
  · unfold FZ.put; rw [if_neg (fun e => by subst e; exact absurd (Nat.lt_of_lt_of_le hb l.glt) (Nat.not_lt.mpr ha))]
  · unfold FZ.put; rw [if_neg (fun e : q.1 = a => absurd (Heap.lt_size (l.nw q hq).1) (Nat.not_lt.mpr (by rw [e]; exact ha)))]; exact l.zo q hq

/-- {literals}[i] -/
theorem ev_dictsub {keys : List (Option Expr)} {values : List Expr} {i : Expr} {p1 pos : Pos} (D : List (PyData × PyData)) (hD : litPairs keys values = some D) (hs : strKeyed D = true) (hn : (strKeysOf D).Nodup)
    (hall : keys.all (·.isSome) = true) (hl : keys.length = values.length) (h0 : keys ≠ []) (hlen : keys.length ≤ 15) (hsub : ∀ o i', ∃ ops, subscripted i false o i' = operate ops (getItem o i'))
    (h : Ev G F d own σ i (fun b => ∃ x, b = .str x ∧ ∃ n, Spec.lookup (.str x) D = some (.int n) ∧ R (.int n)) X) :
    Ev G F d own σ (.Subscript (.Dict keys values p1) i pos) R X := by
  intro A g L Z₀ Z s m lv st
  refine Subscript_ (Dict_lits_str hD hs hn hall hl h0 hlen fun a o h₁ tk ha ho hT hk => ?_)
  obtain ⟨k₁, l₁, hz⟩ := lv.putNew hk ha ho
  refine wpAny_mono (h A g L Z₀ _ { s with heap := h₁, toks := tk } m l₁ (st.mono k₁)) (fun v s₂ q => ?_) fun _ _ q => ThrA.back (Z := Z) (Z' := Z) (s := s) (s₁ := { s with heap := h₁, toks := tk }) (.refl _) ⟨rfl, .refl _⟩ q
  obtain ⟨Z₂, p₂, k₂, l₂, q₂, r₂, x, rfl, n, hx, h₂⟩ := q
  cases r₂
  have ho₂ := l₂.sub _ _ (k₂ _ _ hz)
  obtain ⟨kvs, hdo, hf⟩ := hT
  obtain ⟨v, hv, hfl⟩ := hf.of_lookup PyProof.V.same_str hx
  obtain ⟨t, rfl⟩ := hfl.int_inv
  have hdict : s₂.heap.DictOf (strKind G.prog G.w) a kvs := Heap.dictOf_iff.mpr ⟨o, ho₂, hdo⟩
  have q' : SS s { s with heap := h₁, toks := tk } := ⟨rfl, .refl _⟩
  exact slot_sub hdict.typeIs slot_dict_getitem.lookup (wpAny_getItem_of (strKind_is G.prog G.w x _) hdict.mapOf hv ⟨Z₂, _, k₁.trans k₂, l₂, (q'.trans q₂).trans ⟨rfl, .refl _⟩, .int _ _, h₂⟩) (hsub _ _)
end
end Mine

namespace Mine
open PySem PySem.W PySem.Calls PyProof.Rows

/-! ## What is written -/
def T.bind : T → Nat
  | .num _ => 9
  | .neg _ => 2
  | .bin .pow _ _ => 3
  | .bin .mul _ _ => 1
  | .bin .div _ _ => 1
  | .bin .jux _ _ => 1
  | .bin .add _ _ => 0
  | .bin .sub _ _ => 0
def T.isNum : T → Bool
  | .num _ => true
  | _ => false
def T.head : T → Str
  | .num _ => "num"
  | .neg _ => "neg"
  | .bin o _ _ => o.word
/-- a product without a sign -/
def T.bare : T → Bool
  | .bin .jux a b => b.isNum && ((["num", "*", "/", "", "neg", "**"] : List Str).any (· == a.head))
  | _ => false
def T.digit : T → Str
  | .num k => Str.ofString (toString (k : Int))
  | _ => ""
def wrap (t : T) (lvl : Nat) (w : Bool) (x : Str) : Str := if (decide (t.bind < lvl) || (w && !t.isNum)) = true then "(" ++ x ++ ")" else x
def T.txt (w : Bool) : T → Str
  | .num k => Str.ofString (toString (k : Int))
  | .neg a => "-" ++ wrap a 3 w (a.txt w)
  | .bin .pow a b => wrap a 4 w (a.txt w) ++ " ** " ++ wrap b 3 w (b.txt w)
  | .bin .jux a b => if T.bare (.bin .jux a b) = true then wrap a 1 w (a.txt w) ++ " " ++ b.digit else wrap a 1 w (a.txt w) ++ " * " ++ wrap b 2 w (b.txt w)
  | .bin o a b => wrap a (T.bind (.bin o a b)) w (a.txt w) ++ " " ++ o.word ++ " " ++ wrap b (T.bind (.bin o a b) + 1) w (b.txt w)
def T.told : T → Str
  | .num k => Str.ofString (toString (k : Int))
  | .neg a => "(- " ++ a.told ++ ")"
  | .bin o a b => "(" ++ a.told ++ (if T.bare (.bin o a b) = true then (" " : Str) else (" " : Str) ++ (if o ≠ .jux then o.word else ("*" : Str)) ++ (" " : Str)) ++ b.told ++ ")"

theorem digit_len : ∀ k : Nat, k ≤ 9 → (Str.ofString (toString (k : Int))).length = 1
  | 0, _ => by decide
  | 1, _ => by decide
  | 2, _ => by decide
  | 3, _ => by decide
  | 4, _ => by decide
  | 5, _ => by decide
  | 6, _ => by decide
  | 7, _ => by decide
  | 8, _ => by decide
  | 9, _ => by decide
  | n + 10, h => by omega
theorem wrap_len (t : T) (l : Nat) (w : Bool) (x : Str) : (wrap t l w x).length ≤ x.length + 2 := by
  unfold wrap
  split
  · rw [strLen_append, strLen_append]
    have : (Str.ofString "(").length = 1 := by decide
    have : (Str.ofString ")").length = 1 := by decide
    omega
  · omega
theorem l1 : (Str.ofString "-").length = 1 := by decide
theorem l2 : (Str.ofString " ** ").length = 4 := by decide
theorem l3 : (Str.ofString " * ").length = 3 := by decide
theorem l4 : (Str.ofString " ").length = 1 := by decide
theorem l5 : (Str.ofString "(").length = 1 := by decide
theorem l6 : (Str.ofString ")").length = 1 := by decide
theorem l7 : (Str.ofString "(- ").length = 3 := by decide
theorem l8 : (Str.ofString "*").length = 1 := by decide
theorem word_len (o : Op) : o.word.length ≤ 2 := by cases o <;> decide
theorem T.wf_a {o : Op} {a b : T} (h : (T.bin o a b).wf) : a.wf := by cases o <;> exact h.1
theorem T.wf_b {o : Op} {a b : T} (h : (T.bin o a b).wf) : b.wf := by
  cases o
  case pow => obtain ⟨_, e, he, rfl⟩ := h; exact Nat.le_trans he (by decide)
  all_goals exact h.2
theorem txt_len (w : Bool) : ∀ t : T, t.wf → (t.txt w).length + 2 ≤ 8 * t.size
  | .num k, h => by
    have e : (T.txt w (.num k)).length = 1 := digit_len k h
    rw [e]; simp [T.size]
  | .neg a, h => by
    have i := txt_len w a h
    have e := wrap_len a 3 w (a.txt w)
    show ("-" ++ wrap a 3 w (a.txt w)).length + 2 ≤ 8 * (a.size + 1)
    rw [strLen_append, l1]; omega
  | .bin o a b, h => by
    have i := txt_len w a (T.wf_a h)
    have j := txt_len w b (T.wf_b h)
    have ea := fun l => wrap_len a l w (a.txt w)
    have eb := fun l => wrap_len b l w (b.txt w)
    have hd : b.digit.length ≤ 1 := by
      cases b with
      | num k => exact Nat.le_of_eq (digit_len k (T.wf_b h))
      | neg _ => show (Str.ofString "").length ≤ 1; decide
      | bin _ _ _ => show (Str.ofString "").length ≤ 1; decide
    have step : ∀ (x y z : Str), x.length ≤ (a.txt w).length + 2 → y.length ≤ 4 → z.length ≤ (b.txt w).length + 2 → (x ++ y ++ z).length + 2 ≤ 8 * (a.size + b.size + 1) := fun x y z h1 h2 h3 => by
      rw [strLen_append, strLen_append]; omega
    have gen : ∀ (o : Op) (l l' : Nat), (wrap a l w (a.txt w) ++ " " ++ o.word ++ " " ++ wrap b l' w (b.txt w)).length + 2 ≤ 8 * (a.size + b.size + 1) := fun o l l' => by
      rw [strLen_append, strLen_append, strLen_append, strLen_append, l4]
      have h1 := ea l
      have h2 := eb l'
      have h3 := word_len o
      omega
    cases o
    case pow => exact step _ _ _ (ea 4) (by rw [l2]; omega) (eb 3)
    case jux =>
      show (if _ then _ else _ : Str).length + 2 ≤ _
      split
      · exact step _ _ _ (ea 1) (by rw [l4]; omega) (Nat.le_trans hd (by omega))
      · exact step _ _ _ (ea 1) (by rw [l3]; omega) (eb 2)
    all_goals exact gen _ _ _
theorem wtxt_len (w : Bool) (l : Nat) (t : T) (h : t.wf) : (wrap t l w (t.txt w)).length ≤ 8 * t.size := Nat.le_trans (wrap_len _ _ _ _) (txt_len w t h)

section
variable {G : Glb} {F : FnLit} {d : Nat} {own : List (Addr × Obj)} {σ : List (Str × PV)} {R : PV → Prop} {X : Option Value}
theorem op_headNum {e i : Expr} {k : Nat} (hs : ∀ o i', ∃ ops, subscripted i false o i' = operate ops (getItem o i')) (h : R (.str "num")) : D2 G F d own (subscriptTail e i) (T.enc (.num k)) (.int 0) R X := op_atT (k := 0) hs (by decide) rfl h
theorem op_headNeg {e i : Expr} {a : T} (hs : ∀ o i', ∃ ops, subscripted i false o i' = operate ops (getItem o i')) (h : R (.str "neg")) : D2 G F d own (subscriptTail e i) (T.enc (.neg a)) (.int 0) R X := op_atT (k := 0) hs (by decide) rfl h
theorem op_headBin {e i : Expr} {o : Op} {a b : T} (hs : ∀ o i', ∃ ops, subscripted i false o i' = operate ops (getItem o i')) (h : R (.str o.word)) : D2 G F d own (subscriptTail e i) (T.enc (.bin o a b)) (.int 0) R X := op_atT (k := 0) hs (by decide) rfl h
theorem op_head {e i : Expr} {t : T} (hs : ∀ o i', ∃ ops, subscripted i false o i' = operate ops (getItem o i')) (h : R (.str t.head)) : D2 G F d own (subscriptTail e i) t.enc (.int 0) R X := by
  cases t <;> exact op_atT (k := 0) hs (by decide) rfl h
theorem op_num1 {e i : Expr} {k : Nat} (hs : ∀ o i', ∃ ops, subscripted i false o i' = operate ops (getItem o i')) (h : R (.int (k : Int))) : D2 G F d own (subscriptTail e i) (T.enc (.num k)) (.int 1) R X := op_atT (k := 1) hs (by decide) rfl h
theorem op_neg1 {e i : Expr} {a : T} (hs : ∀ o i', ∃ ops, subscripted i false o i' = operate ops (getItem o i')) (h : R a.enc) : D2 G F d own (subscriptTail e i) (T.enc (.neg a)) (.int 1) R X := op_atT (k := 1) hs (by decide) rfl h
theorem op_bin1 {e i : Expr} {o : Op} {a b : T} (hs : ∀ o i', ∃ ops, subscripted i false o i' = operate ops (getItem o i')) (h : R a.enc) : D2 G F d own (subscriptTail e i) (T.enc (.bin o a b)) (.int 1) R X := op_atT (k := 1) hs (by decide) rfl h
theorem op_bin2 {e i : Expr} {o : Op} {a b : T} (hs : ∀ o i', ∃ ops, subscripted i false o i' = operate ops (getItem o i')) (h : R b.enc) : D2 G F d own (subscriptTail e i) (T.enc (.bin o a b)) (.int 2) R X := op_atT (k := 2) hs (by decide) rfl h
theorem if_t {b : Bool} {P P' : Prop} (h : b = true) (k : P) : if b = true then P else P' := by rw [h]; simpa using k
theorem if_f {b : Bool} {P P' : Prop} (h : b = false) (k : P') : if b = true then P else P' := by rw [h]; simpa using k
end
end Mine

namespace Mine
open PySem PySem.W PySem.Calls PyProof.Rows Builtin Builtin.ObjectAttr

/-! ## Instances made -/
example (A : Around) (C : Addr) (vals : List Value) (kw : List (Str × Value)) : (A.under (.builtin "type.__call__" ⟨.ref C :: vals, kw⟩)).depth = A.depth + 1 := rfl
theorem hd_under (A : Around) (C : Addr) (vals : List Value) (kw : List (Str × Value)) : (A.under (.builtin "type.__call__" ⟨.ref C :: vals, kw⟩)).handled = A.handled := rfl
theorem un_under (A : Around) (C : Addr) (vals : List Value) (kw : List (Str × Value)) : (A.under (.builtin "type.__call__" ⟨.ref C :: vals, kw⟩)).units = A.units + 1 := rfl
theorem fr_under (A : Around) (C : Addr) (vals : List Value) (kw : List (Str × Value)) {l : List Env} (h : A.frames = some l) : (A.under (.builtin "type.__call__" ⟨.ref C :: vals, kw⟩)).frames = some l := by
  show pushEnvs (Code.envs (.builtin "type.__call__" ⟨.ref C :: vals, kw⟩)) A.frames = some l
  rw [h]; rfl

section
variable {prog : Program} {w : World} {A : Around} {K : Frag} {C x : Addr} {s : Shared} {E : Value → Shared → Prop}
theorem osa_dictU {ox od od' : Obj} {dx : Addr} {name : Str} {tk : Tok} {v : Value} {es : List DictEntry} {n : Nat} {R : Result → Shared → Prop} (X : K.In s.heap)
    (I : InstAt s.heap x ox C (some od)) (hd : ox.dict = some dx) (hp : plainOver K C = true) (ht : takerIn K C name = some none) (hh : (clsIn K C).any (·.hasDict) = true)
    (hl : (lookIn name od).isSome = true) (e : Obj.putName name (PyData.keyHash w.params name) (.str name s.toks) v od = od') (e' : od'.data = .dict es.toArray n) (hz : es.length ≤ 1000)
    (h : ∀ h', Heap.SameBut dx s.heap h' → h'.get? dx = some od' → R (.ok (.ret .none)) { s with heap := h', toks := s.toks + 1 }) :
    codeAny (model prog w) A (.call (.builtin "object.__setattr__") ⟨[.ref x, .str name tk, v], []⟩) R s := by
  refine osa_open X I hp ht fun b => ?_
  obtain ⟨cd, hc, hd'⟩ := any_some hh
  obtain ⟨hx, hcl, hn, hdd⟩ := I
  obtain ⟨oc, odi, oda, osl⟩ := ox
  dsimp only at hcl hd
  subst hcl hd
  have D : s.heap.get? dx = some od := hdd
  have hf : od'.isFreed = false := by obtain ⟨_, _, dd, _⟩ := od'; cases e'; rfl
  have D' : (s.heap.update dx (Obj.putName name (PyData.keyHash w.params name) (.str name s.toks) v)).get? dx = some od' := by rw [Heap.get?_update_self _ D (by rw [e]; exact hf), e]
  refine wpAny_bind (wpAny_pure (wpAny_bind (wpAny_bind (wpAny_loadPart hx (wpAny_bind ((looks_clsIn X hc).here ?_))))))
  rw [hd']
  refine wpAny_pure (a := some dx) (wpAny_bind (wpAny_pure (wpAny_bind ?_)))
  unfold nsSet
  refine wpAny_bind (wpAny_bind (wpAny_askSetting (wpAny_pure (wpAny_bind (wpAny_mkText (wpAny_bind (wpAny_loadPart D ?_)))))))
  unfold lookIn at hl
  split at hl
  · rename_i es₀ n₀ q
    rw [q]
    dsimp only
    have c : (!es₀.any (·.key.isStr name) && es₀.any (·.refKey)) = false := by
      rw [← Array.any_toList, ← Array.any_toList]
      split at hl
      · rename_i en he
        rw [List.any_eq_true.mpr ⟨en, List.mem_of_find?_eq_some he, List.find?_some he⟩]; rfl
      · split at hl
        · cases hl
        · rename_i z; rw [Bool.not_eq_true] at z; rw [z, Bool.and_false]
    rw [aRefKeyMayBeTheName_at, c]
    refine wpAny_updatePart D ?_
    refine wpAny_bind (wpAny_lookBehind D' (by rw [e']; exact pastItsLine_dict (by rw [List.size_toArray, sizeLine_eq]; omega)) ?_)
    exact wpAny_pure (h _ (Heap.SameBut.update ..) D')
  · cases hl
theorem setU {Q : Unit → Shared → Prop} {ox : Obj} {dx : Addr} {es : List DictEntry} {n : Nat} {name : Str} {v : Value} (X : K.In s.heap) (I : InstAt s.heap x ox C (some (dictOf es n))) (hd : ox.dict = some dx)
    (hs : findIn K (.ref C) "__setattr__" = some (some (.builtin "object.__setattr__"))) (hp : plainOver K C = true) (ht : takerIn K C name = some none) (hh : hasDictIn K C = true) (hl : (getL name es).isSome = true) (hz : es.length ≤ 900)
    (h : ∀ h' tk, Heap.SameBut dx s.heap h' → h'.get? dx = some (dictOf (putL name (PyData.keyHash w.params name) (.str name tk) v es) (putN name es n)) → Q () { s with heap := h', toks := s.toks + 2 }) :
    wpAny (model prog w) A (setAttr (.ref x) name v) Q E s := by
  have len : (putL name (PyData.keyHash w.params name) (.str name (s.toks + 1)) v es).length ≤ es.length + 1 := by
    generalize PyData.keyHash w.params name = hsh
    clear hl hz I h
    induction es with
    | nil => simp [putL]
    | cons e r ih => unfold putL; split <;> simp_all
  exact set_plain X I hs (osa_dictU (s := { s with toks := s.toks + 1 }) X I hd hp ht hh hl (by rw [putName_dict]) rfl (by show (putL name _ (Value.str name (s.toks + 1)) v es).length ≤ 1000; omega) fun h' hsb hg => h h' _ hsb hg)
end
end Mine

namespace Mine
open PySem PySem.W PySem.Calls PyProof.Rows

/-- what may stand in a field -/
def PV.hand : PV → Bool
  | .raw v => handedIn v
  | _ => true
theorem hand_of {Z : FZ} {v : Value} {p : PV} (r : Rd Z v p) (h : p.hand = true) : handedIn v = true := by
  cases r <;> first | rfl | exact h
theorem RdF.snoc {Z : FZ} {name : Str} {hsh : Int} {tk : Tok} {v : Value} {p : PV} (hv : Rd Z v p) (hh : p.hand = true) : ∀ {es : List DictEntry} {fs : List (Str × PV)}, RdF Z es fs → fs.lookup name = Option.none → RdF Z (putL name hsh (.str name tk) v es) (fs ++ [(name, p)])
  | _, _, .nil, _ => .cons rfl (hand_of hv hh) hv .nil
  | _, _, .cons (e := e) (x := y) hk h1 h2 hs, hl => by
    rw [List.lookup_cons] at hl
    by_cases q : name = y
    · subst q; simp at hl
    · have q1 : (name == y) = false := beq_eq_false_iff_ne.mpr q
      rw [q1] at hl
      have q2 : (y == name) = false := beq_eq_false_iff_ne.mpr (Ne.symm q)
      have e1 : e.key.isStr name = false := by rw [hk]; exact q2
      unfold putL
      rw [e1]
      exact .cons hk h1 h2 (hs.snoc hv hh hl)
theorem RdF.getSome {Z : FZ} (name : Str) {es : List DictEntry} {fs : List (Str × PV)} (r : RdF Z es fs) : (getL name es).isSome = true := by
  unfold getL
  cases h : es.find? (·.key.isStr name) with
  | some e => rfl
  | none => rw [r.strs]; rfl

/-- the body of an __init__ -/
def ExI (G : Glb) (F : FnLit) (d : Nat) (C x : Addr) (fs σ : List (Str × PV)) (ss : List Stmt) (R : List (Str × PV) → Prop) (X : Option Value) : Prop :=
  ∀ A g L Z₀ Z s m dx es n, Live G F d A g L Z₀ Z [(x, instObj C dx), (dx, dictOf es n)] s.heap m → x ≠ dx → es.length ≤ fs.length → RdF Z es fs → StR Z m σ →
    wpAny (model G.prog G.w) A (execs ss (F.env L)) (fun fl s' => ∃ Z' m' es' n' fs', fl = .next ∧ FLe Z Z' ∧ Live G F d A g L Z₀ Z' [(x, instObj C dx), (dx, dictOf es' n')] s'.heap m' ∧ SS s s' ∧ RdF Z' es' fs' ∧ R fs') (ThrA G A X g s) s
theorem execs_one {M : Model} {A : Around} {env : Env} {st : Stmt} {Q : Flow → Shared → Prop} {E : Value → Shared → Prop} {s : Shared} (h : wpAny M A (execs [st] env) Q E s) : wpAny M A (exec st env) Q E s := fun Γ p hΓ => by
  have := h Γ p hΓ
  rw [execs_cons, Sem.wp_bind'] at this
  exact Sem.wp_mono M Γ _ (fun f p' s' h' => by cases f <;> exact h') (fun _ _ _ h' => h') _ _ this
section
variable {G : Glb} {F : FnLit} {d : Nat} {C x : Addr} {fs σ : List (Str × PV)} {R : List (Str × PV) → Prop} {X : Option Value}
theorem exI_nil (h : R fs) : ExI G F d C x fs σ [] R X := fun A g L Z₀ Z s m dx es n lv hne hlen rf st => wpAny_execs_nil ⟨Z, m, es, n, fs, rfl, .refl _, lv, .refl _, rf, h⟩
theorem exI_set (O : G.Ok) {y name : Str} {yp ap pos : Pos} {e : Expr} {rest : List Stmt} (hy : LMem σ y (.raw (.ref x))) (hyl : F.scope.names.lookup y = some .local) (hyd : (y == ("__debug__" : Str)) = false)
    (hsw : ∀ env, swapsWith e (some (.Attribute (.Name y yp) name ap)) pos.line env = pure false)
    (hs : findIn G.K (.ref C) "__setattr__" = some (some (.builtin "object.__setattr__"))) (hp : plainOver G.K C = true) (ht : takerIn G.K C name = some none) (hh : hasDictIn G.K C = true) (hl : fs.lookup name = none) (hlen : fs.length ≤ 800)
    (h : ∀ own, Ev G F d own σ e (fun p => p.hand = true ∧ ExI G F d C x (fs ++ [(name, p)]) σ rest R X) X) : ExI G F d C x fs σ (.Assign [.Attribute (.Name y yp) name ap] e pos :: rest) R X := by
  intro A g L Z₀ Z s m dx es n lv hne hlen' rf st
  refine wpAny_execs_cons (plainObj_wpAny_Assign_Attribute (wpAny_mono (h _ A g L Z₀ Z s m lv st) (fun v s₁ q => ?_) fun _ _ q => q) (hsw _))
  obtain ⟨Z₁, p, k₁, l₁, q₁, r₁, hhand, h₁⟩ := q
  obtain ⟨vx, hvx, hrx⟩ := st _ hy.mem
  cases hrx
  refine wpAny_Name (wpAny_loadName_local (by rw [F.scope_env]; exact l₁.kind) (by rw [F.kindOf_env]; exact hyl) (by rw [F.locals_env]; exact l₁.fr.ns) hvx ?_) hyd
  have e1 := (l₁.nw (x, instObj C dx) (.head _)).1
  have e2 := (l₁.nw (dx, dictOf es n) (.tail _ (.head _))).1
  refine setU (O.kin.keeps l₁.fr.keep) (C := C) (ox := instObj C dx) (dx := dx) ⟨e1, rfl, rfl, e2⟩ rfl hs hp ht hh (rf.getSome name) (by omega) fun h' tk hsb hg => ?_
  have l₂ : Live G F d A g L Z₀ Z₁ [(dx, dictOf es n), (x, instObj C dx)] s₁.heap m := l₁.less fun q hq => by
    rcases List.mem_cons.mp hq with rfl | hq
    · exact .tail _ (.head _)
    · rw [List.mem_singleton.mp hq]; exact .head _
  have l₃ := l₂.setOwn (h' := h') (fun b o hb e => (hsb.2 b hb).trans e) hg (.inl fun vs e => by cases e) (fun q hq => by rw [List.mem_singleton.mp hq]; exact hne)
  have l₄ : Live G F d A g L Z₀ Z₁ [(x, instObj C dx), (dx, _)] h' m := l₃.less fun q hq => by
    rcases List.mem_cons.mp hq with rfl | hq
    · exact .tail _ (.head _)
    · rw [List.mem_singleton.mp hq]; exact .head _
  have rf' := (rf.mono k₁).snoc (hsh := PyData.keyHash G.w.params name) (tk := tk) r₁ hhand hl
  have len : (putL name (PyData.keyHash G.w.params name) (.str name tk) v es).length ≤ (fs ++ [(name, p)]).length := by
    have : ∀ es : List DictEntry, (putL name (PyData.keyHash G.w.params name) (.str name tk) v es).length ≤ es.length + 1 := by
      intro es
      induction es with
      | nil => simp [putL]
      | cons e r ih => unfold putL; split <;> simp_all
    rw [List.length_append, List.length_singleton]
    exact Nat.le_trans (this es) (by omega)
  refine wpAny_mono (h₁ A g L Z₀ Z₁ { s₁ with heap := h', toks := s₁.toks + 2 } m dx _ _ l₄ hne len rf' (st.mono k₁)) (fun fl s₂ q => ?_) fun _ _ q => ThrA.back (Z := Z) (Z' := Z₁) (s := s) (s₁ := { s₁ with heap := h', toks := s₁.toks + 2 }) k₁ (q₁.trans ⟨rfl, .refl _⟩) q
  obtain ⟨Z', m', es', n', fs', hfl, k, l', qs, rr, hR⟩ := q
  exact ⟨Z', m', es', n', fs', hfl, k₁.trans k, l', (q₁.trans (SS.mk rfl (.refl _) : SS s₁ { s₁ with heap := h', toks := s₁.toks + 2 })).trans qs, rr, hR⟩
/-- a statement that leaves the new instance alone -/
theorem exI_stmt {st : Stmt} {rest : List Stmt} (h : ∀ own, Ex G F d own σ [st] (fun fo o σ' => fo = .next ∧ o = own ∧ ExI G F d C x fs σ' rest R X) X) : ExI G F d C x fs σ (st :: rest) R X := by
  intro A g L Z₀ Z s m dx es n lv hne hlen rf sr
  have one : wpAny (model G.prog G.w) A (exec st (F.env L)) (fun fl s₁ => Dn G F d A g L Z₀ Z (fun fo o σ' => fo = .next ∧ o = [(x, instObj C dx), (dx, dictOf es n)] ∧ ExI G F d C x fs σ' rest R X) s fl s₁) (ThrA G A X g s) s := by
    have h1 := h _ A g L Z₀ Z s m lv sr
    exact execs_one h1
  refine wpAny_execs_cons (wpAny_mono one (fun fl s₁ q => ?_) fun _ _ q => q)
  obtain ⟨Z₁, m₁, own₁, σ₁, fo, k₁, l₁, q₁, st₁, fr, rfl, rfl, h₁⟩ := q
  cases fl <;> first | exact fr.elim | skip
  refine wpAny_mono (h₁ A g L Z₀ Z₁ s₁ m₁ dx es n l₁ hne hlen (rf.mono k₁) st₁) (fun fl s₂ q => ?_) fun _ _ q => q.back k₁ q₁
  obtain ⟨Z', m', es', n', fs', hfl, k, l', qs, rr, hR⟩ := q
  exact ⟨Z', m', es', n', fs', hfl, k₁.trans k, l', q₁.trans qs, rr, hR⟩
end

theorem fn_class {G : Glb} (O : G.Ok) {C f : Addr} {name qual : Str} {params : Arguments} {body : List Stmt} {scope : Scope} {dV kV doc pm cdv ct oc : Value} {an od : Option Addr} {osl : Array (Option Value)} {d : Nat} {as : List PV} {kws : List (Str × PV)} {ps : Addr → List (Str × PV)} {R : PV → Prop} {X : Option Value}
    (hm : makesIn G.K C = true) (hi : findIn G.K (.ref C) "__init__" = some (some (.ref f))) (hf : typeIn G.K (.ref f) = some (.type "function"))
    (ho : G.K.lookup f = some ⟨oc, od, .func (fnOf name qual params body scope dV kV doc pm an cdv ct), osl⟩) (hcd : codeIn G.K cdv qual = true)
    (hb : ∀ x, Bnds G (fnOf name qual params body scope dV kV doc pm an cdv ct) (.raw (.ref x) :: as) kws (ps x))
    (h : ∀ x, ExI G ⟨qual, scope, f, cdv, true, [], none⟩ d C x [] (ps x) body (fun fs => R (.inst C fs)) X)
    (hloc : ∀ x, ((ps x).all fun q => scope.names.lookup q.1 == some .local) = true) (hnd : ∀ x, ((ps x).map (·.1)).Nodup)
    (hcell : (scope.names.all fun q => q.2 != .cell) = true) (hco : scope.isCoroutine = false) (hgen : scope.isGenerator = false) (hk : scope.kind = .function) : Fn G (d + 2) (.ref C) as kws R X := by
  intro A l s Z vs kvs c sub r hkn rk
  obtain ⟨hh, gg, dr, tk, os⟩ := s
  have Xs : G.K.In hh := O.kin.keeps c.stay
  have hsz : G.base.objs.size ≤ hh.objs.size := c.bs
  refine make_core (makes_of Xs hm) (looks_findIn Xs hi) (fun self => bind_fn Xs self hf) (.inl rfl) ?_
  -- the heap with the new instance
  have k0 : ∀ b o, hh.get? b = some o → ((hh.push emptyDict).push (instObj C hh.objs.size)).get? b = some o := fun b o e => Heap.get?_push_of_some _ (Heap.get?_push_of_some _ e)
  have gx : ((hh.push emptyDict).push (instObj C hh.objs.size)).get? (hh.objs.size + 1) = some (instObj C hh.objs.size) := by
    have := Heap.get?_push_size (hh.push emptyDict) (o := instObj C hh.objs.size) rfl
    rwa [Heap.size_push] at this
  have gd : ((hh.push emptyDict).push (instObj C hh.objs.size)).get? hh.objs.size = some (dictOf [] 0) := Heap.get?_push_of_some _ (Heap.get?_push_size _ rfl)
  have sz2 : ((hh.push emptyDict).push (instObj C hh.objs.size)).objs.size = hh.objs.size + 2 := by rw [Heap.size_push, Heap.size_push]
  generalize hH : (hh.push emptyDict).push (instObj C hh.objs.size) = H at *
  generalize hx : hh.objs.size + 1 = x at *
  have hxd : x ≠ hh.objs.size := by rw [← hx]; exact Nat.succ_ne_self _
  have zx : Z x = none := by
    cases q : Z x with
    | none => rfl
    | some o => exact absurd (Heap.lt_size (sub _ o q)) (by rw [← hx]; exact Nat.not_lt.mpr (Nat.le_succ _))
  have zd : Z hh.objs.size = none := sub.none_at
  obtain ⟨bs, hbt, br⟩ := hb x ⟨H, gg, dr, tk, os⟩ Z (.ref x :: vs) kvs (Xs.keeps k0) (.cons (.raw _) r) hkn rk
  have hA : (A.under (.builtin "type.__call__" ⟨.ref C :: vs, kvs⟩)).frames = some l := fr_under A C vs kvs c.fr
  refine codeAny_call_def (fd := fnOf name qual params body scope dV kV doc pm an cdv ct) (body := body) (binds := bs) (by have := c.room; show A.depth + 1 < _; omega) (k0 _ _ (Xs _ _ ho)) rfl ((O.top.nolimit.keeps c.stay).keeps k0) (codeRec_of (Xs.keeps k0) hcd) rfl hbt ?_ ?_ (fun h₁ hns hk₁ => ?_) hco hgen hk
  · intro z hz
    have := List.all_eq_true.mp hcell z hz
    simpa using this
  · intro z hz
    obtain ⟨q, hq, e⟩ : ∃ q ∈ ps x, q.1 = z.1 := by
      have : z.1 ∈ (ps x).map (·.1) := br.names ▸ List.mem_map_of_mem hz
      obtain ⟨q, hq, e⟩ := List.mem_map.mp this
      exact ⟨q, hq, e⟩
    have := List.all_eq_true.mp (hloc x) q hq
    rw [e] at this
    exact beq_iff_eq.mp this
  dsimp only at hns hk₁
  have kk : ∀ b o, hh.get? b = some o → h₁.get? b = some o := fun b o e => hk₁ _ _ (k0 _ _ e)
  have bn : G.base.get? H.objs.size = none := Heap.get?_none_of_le (by rw [sz2]; exact Nat.le_trans hsz (Nat.le_add_right _ _))
  have lv : Live G ⟨qual, scope, f, cdv, true, [], none⟩ d ((A.under (.builtin "type.__call__" ⟨.ref C :: vs, kvs⟩)).deeper (envOf qual scope H.objs.size f cdv)) hh H.objs.size Z Z [(x, instObj C hh.objs.size), (hh.objs.size, dictOf [] 0)] h₁ (fun y => bs.reverse.lookup y) := {
    fr := ⟨hns, fun b o e => kk b o (c.stay b o e), by show _ ≤ H.objs.size; rw [sz2]; exact Nat.le_trans hsz (Nat.le_add_right _ _)⟩
    up := Heap.UpToSlots.of_keeps kk
    ek := fun _ => kk
    og := fun q hq => by
      rcases List.mem_cons.mp hq with rfl | hq
      · exact Heap.get?_none_of_le (by rw [← hx]; exact Nat.le_succ _)
      · rw [List.mem_singleton.mp hq]; exact Heap.get?_none_of_le (Nat.le_refl _)
    sz := by rw [sz2]; omega
    sub := sub.keeps kk
    zL := by
      cases q : Z H.objs.size with
      | none => rfl
      | some o => exact absurd (Heap.lt_size (sub _ o q)) (by rw [sz2]; exact Nat.not_lt.mpr (Nat.le_add_right _ _))
    z0 := fun _ _ => rfl
    nw := fun q hq => by
      rcases List.mem_cons.mp hq with rfl | hq
      · exact ⟨hk₁ _ _ gx, by rw [sz2, ← hx]; exact Nat.ne_of_lt (Nat.lt_succ_self _), Heap.get?_none_of_le (by rw [← hx]; exact Nat.le_trans hsz (Nat.le_succ _))⟩
      · rw [List.mem_singleton.mp hq]; exact ⟨hk₁ _ _ gd, by rw [sz2]; exact Nat.ne_of_lt (by omega), Heap.get?_none_of_le hsz⟩
    zo := fun q hq => by
      rcases List.mem_cons.mp hq with rfl | hq
      · exact zx
      · rw [List.mem_singleton.mp hq]; exact zd
    hd := c.hd
    stk := ⟨l, Around.frames_deeper hA, Heap.FunFrames.cons (by show scope.kind ≠ .module; rw [hk]; decide) rfl hns bn (c.ff.of_keeps fun b o e _ => ⟨o, kk b o e, rfl⟩)⟩
    room := by have := c.room; show A.depth + 1 + 1 + d < _; omega
    unit := by have := c.unit; show A.units + 1 + 3 + 10 * d < _; omega
    kind := hk
    cel := fun _ hq => nomatch hq }
  have st : StR Z (fun y => bs.reverse.lookup y) (ps x) := fun q hq => by
    obtain ⟨v, a, b⟩ := br.mem q hq
    refine ⟨v, ?_, b⟩
    have : (bs.reverse.map (·.1)).Nodup := by rw [List.map_reverse, br.names]; exact List.pairwise_reverse.mpr ((hnd x).imp fun h => Ne.symm h)
    exact lookup_nodup this (List.mem_reverse.mpr a)
  refine wpAny_mono (h x _ hh H.objs.size Z Z ⟨h₁, gg, dr, tk + bs.length, os⟩ _ _ _ _ lv hxd (Nat.zero_le _) .nil st) (fun fl s' q => ?_) fun e s' q => ?_
  · obtain ⟨Z', m', es', n', fs', rfl, k₁, l₁, q₁, rf, hR⟩ := q
    obtain ⟨o', ho', ff'⟩ := l₁.stk
    have eo' : o' = l := by
      have : some (envOf qual scope H.objs.size f cdv :: l) = some (envOf qual scope H.objs.size f cdv :: o') := (Around.frames_deeper (env := envOf qual scope H.objs.size f cdv) hA).symm.trans ho'
      injection this with this
      injection this with _ this
      exact this.symm
    have nx := (l₁.nw (x, instObj C hh.objs.size) (.head _)).1
    have nd := (l₁.nw (hh.objs.size, dictOf es' n') (.tail _ (.head _))).1
    have zx' : Z' x = none := l₁.zo (x, instObj C hh.objs.size) (.head _)
    have zd' : Z' hh.objs.size = none := l₁.zo (hh.objs.size, dictOf es' n') (.tail _ (.head _))
    have p1 := FZ.put_le (o := instObj C hh.objs.size) zx'
    have hz2 : (Z'.put x (instObj C hh.objs.size)) hh.objs.size = none := by unfold FZ.put; rw [if_neg (Ne.symm hxd)]; exact zd'
    have p2 := FZ.put_le (o := dictOf es' n') hz2
    refine ⟨rfl, (Z'.put x (instObj C hh.objs.size)).put hh.objs.size (dictOf es' n'), _, ⟨(k₁.trans p1).trans p2, ?_, l₁.ek rfl, fun a ha => ?_, (SS.mk rfl (.refl _) : SS ⟨hh, gg, dr, tk, os⟩ ⟨h₁, gg, dr, tk + bs.length, os⟩).trans q₁, eo' ▸ ff'.2.2, l₁.fr.keep⟩,
      .inst (p2 _ _ FZ.put_self) rfl rfl rfl FZ.put_self rfl ((rf.mono p1).mono p2), hR⟩
    · intro a o e
      unfold FZ.put at e
      by_cases q : a = hh.objs.size
      · rw [if_pos q] at e; cases e; rw [q]; exact nd
      · rw [if_neg q] at e
        by_cases q2 : a = x
        · rw [if_pos q2] at e; cases e; rw [q2]; exact nx
        · rw [if_neg q2] at e; exact l₁.sub a o e
    · have ha' : a < hh.objs.size := ha
      unfold FZ.put
      rw [if_neg (Nat.ne_of_lt ha'), if_neg (by rw [← hx]; exact Nat.ne_of_lt (Nat.lt_succ_of_lt ha'))]
      exact l₁.z0 a ha'
  · obtain ⟨Cx, l', hX, hA', t⟩ := q
    have e' : envOf qual scope H.objs.size f cdv :: l = l' := by
      have := (Around.frames_deeper (env := envOf qual scope H.objs.size f cdv) hA).symm.trans hA'
      exact Option.some.inj this
    subst e'
    refine wp_leave (Around.frames_deeper hA) rfl t.fl fun h' fl' u => ?_
    exact ⟨Cx, hX, fl', ((SS.mk rfl (.refl _) : SS ⟨hh, gg, dr, tk, os⟩ ⟨h₁, gg, dr, tk + bs.length, os⟩).trans t.ss).trans ⟨rfl, .refl _⟩, t.up.trans u⟩
end Mine

namespace Mine
open PySem PySem.W PySem.Calls PyProof.Rows

theorem kv0 {kvs : List (Str × Value)} (h : kvs.map (·.1) = []) : kvs = [] := by simpa using h
theorem kv1 {Z : FZ} {kvs : List (Str × Value)} {x : Str} {p : PV} (h : kvs.map (·.1) = [x]) (r : RdL Z (kvs.map (·.2)) [p]) : ∃ v, kvs = [(x, v)] ∧ Rd Z v p := by
  match kvs, h, r with
  | [(y, v)], h, .cons r _ => simp at h; subst h; exact ⟨v, rfl, r⟩
theorem kv2 {Z : FZ} {kvs : List (Str × Value)} {x y : Str} {p q : PV} (h : kvs.map (·.1) = [x, y]) (r : RdL Z (kvs.map (·.2)) [p, q]) : ∃ v w, kvs = [(x, v), (y, w)] ∧ Rd Z v p ∧ Rd Z w q := by
  match kvs, h, r with
  | [(a, v), (b, w)], h, .cons r (.cons r' _) => simp at h; obtain ⟨rfl, rfl⟩ := h; exact ⟨v, w, rfl, r, r'⟩
theorem kv3 {Z : FZ} {kvs : List (Str × Value)} {x y z : Str} {p q t : PV} (h : kvs.map (·.1) = [x, y, z]) (r : RdL Z (kvs.map (·.2)) [p, q, t]) : ∃ v w u, kvs = [(x, v), (y, w), (z, u)] ∧ Rd Z v p ∧ Rd Z w q ∧ Rd Z u t := by
  match kvs, h, r with
  | [(a, v), (b, w), (c, u)], h, .cons r (.cons r' (.cons r'' _)) => simp at h; obtain ⟨rfl, rfl, rfl⟩ := h; exact ⟨v, w, u, rfl, r, r', r''⟩
def fdAt (K : Frag) (f : Addr) : FuncData := match K.lookup f with
  | some ⟨_, _, .func fd, _⟩ => fd
  | _ => default
end Mine

namespace Mine
open PySem PySem.W PySem.Calls PyProof.Rows

/-- what the library asks of a plain class -/
structure PlainC (K : Frag) (D : Addr) : Prop where
  hg : plainGet K D "__class__" = true
  hdct : hasDictIn K D = true
  ha : findIn K (.ref D) "__class__" = some (some (.builtin "object.__class__"))
  hn : specialIn K (.builtin "object.__class__") "__get__" = some (some (.builtin "getset_descriptor.__get__"))
  htk : takesIn K (.builtin "object.__class__") = some true
  hm : mroIn K D (.type "object") = some true

section
variable {G : Glb} {F : FnLit} {d : Nat} {own : List (Addr × Obj)} {σ : List (Str × PV)} {R : PV → Prop} {X : Option Value} {B : Bool → Prop} {D : Addr} {fs : List (Str × PV)}
theorem op_isiInt (O : G.Ok) {a : Int} {c : Value} {b : Bool} (e : kitOne G.K (.type "int") c = some b) (h : R (.bool b)) : Cl G F d own (.raw (.builtin "isinstance")) [.int a, .raw c] [] R X := by
  intro A g L Z₀ Z s m fv vs kvs lv rf r hk rk
  obtain rfl : kvs = [] := by simpa using hk
  cases rf
  cases r with | cons r r' =>
  cases r' with | cons r' r'' =>
  cases r''; cases r; cases r'
  exact kia_one kitx_int (O.kin.keeps lv.fr.keep) trivial e (by intro q; cases q) fun tk => got_tk lv (.bool _) h
theorem op_isiInst (O : G.Ok) {c : Value} {b : Bool} (P : PlainC G.K D) (e : kitOne G.K (.ref D) c = some b) (h : R (.bool b)) : Cl G F d own (.raw (.builtin "isinstance")) [.inst D fs, .raw c] [] R X := by
  intro A g L Z₀ Z s m fv vs kvs lv rf r hk rk
  obtain rfl : kvs = [] := by simpa using hk
  cases rf
  cases r with | @cons v _ _ _ r r' =>
  cases r' with | cons r' r'' =>
  cases r''; cases r'
  obtain ⟨a, rfl⟩ : ∃ a, v = .ref a := by cases r; exact ⟨_, rfl⟩
  obtain ⟨ox, od, es, n, I, hd, rf, _⟩ := InstAt.of_rd lv.sub r
  exact kia_one (kitx_own P.hg P.hdct P.ha P.hn P.htk P.hm) (O.kin.keeps lv.fr.keep) I e (by intro q; cases q) fun tk => got_tk lv (.bool _) h
theorem op_isiList (O : G.Ok) {ps : List PV} {c : Value} {b : Bool} (e : kitOne G.K (.type "list") c = some b) (h : R (.bool b)) : Cl G F d own (.raw (.builtin "isinstance")) [.lst ps, .raw c] [] R X := by
  intro A g L Z₀ Z s m fv vs kvs lv rf r hk rk
  obtain rfl : kvs = [] := by simpa using hk
  cases rf
  cases r with | cons r r' =>
  cases r' with | cons r' r'' =>
  cases r''; cases r'
  obtain ⟨a, ws, rfl, hl, rl⟩ := r.isList lv.sub
  obtain ⟨o, ho, hc, _⟩ := hl
  exact kia_one kitx_list (O.kin.keeps lv.fr.keep) ⟨o, ho, hc⟩ e (by intro q; cases q) fun tk => got_tk lv (.bool _) h
theorem raws {Z : FZ} : ∀ {vs : List Value} {cs : List Value}, RdL Z vs (cs.map PV.raw) → vs = cs
  | _, [], .nil => rfl
  | _, c :: cs, .cons r b => by cases r; rw [raws b]
theorem op_isiIntT (O : G.Ok) {a : Int} {ps : List PV} {b : Bool} (cs : List Value) (ec : ps = cs.map PV.raw) (e : kitAny G.K (.type "int") cs = some b) (h : R (.bool b)) : Cl G F d own (.raw (.builtin "isinstance")) [.int a, .tup ps] [] R X := by
  subst ec
  intro A g L Z₀ Z s m fv vs kvs lv rf r hk rk
  obtain rfl : kvs = [] := by simpa using hk
  cases rf
  cases r with | cons r r' =>
  cases r' with | cons r' r'' =>
  cases r''; cases r
  obtain ⟨t, ws, n, rfl, ht, rl⟩ := r'.isTup lv.sub
  have e2 := raws rl
  refine kia_tup (its := ws.toList) kitx_int (O.kin.keeps lv.fr.keep) trivial ht (by rw [e2]; exact e) (by intro q; cases q) fun tk => got_tk lv (.bool _) h
theorem op_isiInstT (O : G.Ok) {ps : List PV} {b : Bool} (P : PlainC G.K D) (cs : List Value) (ec : ps = cs.map PV.raw) (e : kitAny G.K (.ref D) cs = some b) (h : R (.bool b)) : Cl G F d own (.raw (.builtin "isinstance")) [.inst D fs, .tup ps] [] R X := by
  subst ec
  intro A g L Z₀ Z s m fv vs kvs lv rf r hk rk
  obtain rfl : kvs = [] := by simpa using hk
  cases rf
  cases r with | @cons v _ _ _ r r' =>
  cases r' with | cons r' r'' =>
  cases r''
  obtain ⟨a, rfl⟩ : ∃ a, v = .ref a := by cases r; exact ⟨_, rfl⟩
  obtain ⟨ox, od, es, n, I, hd, rf, _⟩ := InstAt.of_rd lv.sub r
  obtain ⟨t, ws, n, rfl, ht, rl⟩ := r'.isTup lv.sub
  have e2 := raws rl
  refine kia_tup (its := ws.toList) (kitx_own P.hg P.hdct P.ha P.hn P.htk P.hm) (O.kin.keeps lv.fr.keep) I ht (by rw [e2]; exact e) (by intro q; cases q) fun tk => got_tk lv (.bool _) h

/-- an instance without __bool__ and __len__ is true -/
theorem tr_inst (O : G.Ok) (hs : findIn G.K (.ref D) "__bool__" = some none) (hl : findIn G.K (.ref D) "__len__" = some none) (h : B true) : Tr G F d own (.inst D fs) B X := by
  intro A g L Z₀ Z s m v lv r
  obtain ⟨a, rfl⟩ : ∃ a, v = .ref a := by cases r; exact ⟨_, rfl⟩
  obtain ⟨ox, od, es, n, I, hd, rf, _⟩ := InstAt.of_rd lv.sub r
  exact truthy_K0 lv.fr O.kin I hs hl (gotB_now lv h)

/-! ### operators -/
def notNI : PV → Bool
  | .raw _ => false
  | _ => true
theorem cmpBack {Z : FZ} {Q : Value → Shared → Prop} {v : Value} {p : PV} {s' : Shared} (r : Rd Z v p) (h : notNI p = true) (q : Q v s') : W.CmpBack Q v s' := by
  cases r <;> first | exact q | cases h
/-- -x, by a def -/
theorem op_neg (O : G.Ok) {d' : Nat} {f : Addr} {R' : PV → Prop} (hs : findIn G.K (.ref D) "__neg__" = some (some (.ref f))) (hf : isFn G.K (.ref f) = true) (T : Fn G d' (.ref f) [.inst D fs] [] R' X) (hd : d' ≤ d) (h : ∀ p, R' p → R p) : D1 G F d own (unaryOp .USub) (.inst D fs) R X := by
  intro A g L Z₀ Z s m v lv r
  obtain ⟨a, rfl⟩ : ∃ a, v = .ref a := by cases r; exact ⟨_, rfl⟩
  obtain ⟨ox, od, es, n, I, hdd, rf, _⟩ := InstAt.of_rd lv.sub r
  exact ksp_neg lv.fr O.kin I hs hf (wpAny_mono (wp_call (kvs := []) T lv hd (.cons r .nil) rfl .nil) (fun _ _ q => q.mono h) fun _ _ q => q)
/-- x op y of one class -/
theorem op_binS (O : G.Ok) {d' : Nat} {f : Addr} {op : Operator} {gs : List (Str × PV)} {R' : PV → Prop} (hc : selfFirst G.K D = true) (hs : findIn G.K (.ref D) (PySem.dunder op.info.2) = some (some (.ref f))) (hf : isFn G.K (.ref f) = true)
    (T : Fn G d' (.ref f) [.inst D fs, .inst D gs] [] R' X) (hd : d' ≤ d) (h : ∀ p, R' p → R p ∧ notNI p = true) : D2 G F d own (binaryOp op) (.inst D fs) (.inst D gs) R X := by
  intro A g L Z₀ Z s m v w lv r r'
  obtain ⟨a, rfl⟩ : ∃ a, v = .ref a := by cases r; exact ⟨_, rfl⟩
  obtain ⟨b, rfl⟩ : ∃ b, w = .ref b := by cases r'; exact ⟨_, rfl⟩
  obtain ⟨ox, od, es, n, I, hdd, rf, _⟩ := InstAt.of_rd lv.sub r
  obtain ⟨oy, odd, es', n', J, hdd', rf', _⟩ := InstAt.of_rd lv.sub r'
  refine binop_K lv.fr O.kin I J.type hc hs hf (wpAny_mono (wp_call (kvs := []) T lv hd (.cons r (.cons r' .nil)) rfl .nil) (fun v s' q => ?_) fun _ _ q => q)
  obtain ⟨Z', p, k, l, q, rv, hp⟩ := q
  exact cmpBack rv (h p hp).2 ⟨Z', p, k, l, q, rv, (h p hp).1⟩
/-- x op an int -/
theorem op_binI (O : G.Ok) {d' : Nat} {f : Addr} {op : Operator} {i : Int} {fo ro rc : Option Value} {R' : PV → Prop} (hc : selfFirst G.K D = true) (hs : findIn G.K (.ref D) (PySem.dunder op.info.2) = some (some (.ref f))) (hf : isFn G.K (.ref f) = true)
    (hr : findIn G.K (.ref D) (dunderR op.info.2) = some rc) (hp : rc = none ∨ ∃ g : Addr, rc = some (.ref g)) (h1 : findIn G.K (.type "int") (PySem.dunder op.info.2) = some fo) (h2 : findIn G.K (.type "int") (dunderR op.info.2) = some ro) (hsub : subIn G.K (.type "int") (.ref D) = some false)
    (T : Fn G d' (.ref f) [.inst D fs, .int i] [] R' X) (hd : d' ≤ d) (h : ∀ p, R' p → R p ∧ notNI p = true) : D2 G F d own (binaryOp op) (.inst D fs) (.int i) R X := by
  intro A g L Z₀ Z s m v w lv r r'
  obtain ⟨a, rfl⟩ : ∃ a, v = .ref a := by cases r; exact ⟨_, rfl⟩
  cases r' with | int _ t =>
  obtain ⟨ox, od, es, n, I, hdd, rf, _⟩ := InstAt.of_rd lv.sub r
  refine ksp_binT (T := "int") lv.fr O.kin I rfl hc hs hf hr hp h1 h2 hsub (wpAny_mono (wp_call (kvs := []) T lv hd (.cons r (.cons (.int _ _) .nil)) rfl .nil) (fun v s' q => ?_) fun _ _ q => q)
  obtain ⟨Z', p, k, l, q, rv, hp⟩ := q
  exact cmpBack rv (h p hp).2 ⟨Z', p, k, l, q, rv, (h p hp).1⟩
end
end Mine

namespace Mine
open PySem PySem.W PySem.Calls PyProof.Rows

theorem intBinary_no {prog : Program} {w : World} {A : Around} {E : Value → Shared → Prop} {s : Shared} {name : String} {f : Int → Int → Sem Fin} {n : Int} {t : Tok} {a : Addr} {o : Obj} {Q : Value → Shared → Prop} (ho : s.heap.get? a = some o) (hd : o.data = .plain) (h : Q .notImplemented s) :
    wpAny (model prog w) A (Builtin.Int.intBinary name f false ⟨[.int n t, .ref a], []⟩) (fun fin s' => ∃ v, fin = .done (.ret v) ∧ Q v s') E s := by
  unfold Builtin.Int.intBinary
  show wpAny _ _ (pure ((.int n t : Value), [(.ref a : Value)]) >>= _) _ _ s
  refine wpAny_bind (wpAny_pure ?_)
  show wpAny _ _ (pure n >>= _) _ _ s
  refine wpAny_bind (wpAny_pure ?_)
  show wpAny _ _ ((load a >>= fun x => match x.data with | .prim (.int i _) => pure (some i) | _ => pure none) >>= _) _ _ s
  refine wpAny_bind (wpAny_bind (wpAny_load ho ?_))
  rw [hd]
  exact wpAny_pure (wpAny_bind (wpAny_rule (wpAny_pure ⟨_, rfl, h⟩)))

/-- int op x, by the reflected def -/
theorem refl_K {prog : Program} {w : World} {A : Around} {E : Value → Shared → Prop} {s : Shared} {K : Frag} {x C fd fr L : Addr} {h₀ : Heap} {m : Str → Option Value} {ox : Obj} {od : Option Obj} {op : Operator} {n : Int} {t : Tok} {ro : Option Value} {id : String} {Q : Value → Shared → Prop}
    (F : Fr h₀ L s.heap m) (X₀ : K.In h₀) (I : InstAt s.heap x ox C od) (hpl : ox.data = .plain) (hc : selfFirst K C = true) (hs : findIn K (.ref C) (PySem.dunder op.info.2) = some (some (.ref fd))) (hsr : findIn K (.ref C) (dunderR op.info.2) = some (some (.ref fr))) (hf : isFn K (.ref fr) = true)
    (h1 : findIn K (.type "int") (PySem.dunder op.info.2) = some (some (.builtin id))) (h2 : findIn K (.type "int") (dunderR op.info.2) = some ro) (hno : isSeqSlot (some (.builtin id)) = false) (hsub : subIn K (.ref C) (.type "int") = some false)
    (hslot : Slot "int" (PySem.dunder op.info.2) id) (hrun : ∃ b nm f, entryFor table id = some b ∧ b = Builtin.Int.intBinary nm f false) (hargs : argsOk id ⟨[.int n t, .ref x], []⟩)
    (h : wpAny (model prog w) A (call (.ref fr) [.ref x, .int n t]) (W.CmpBack Q) E s) : wpAny (model prog w) A (binaryOp op (.int n t) (.ref x)) Q E s := by
  have X := X₀.keeps F.keep
  obtain ⟨cd, rest, hcd, hm⟩ := ksp_first hc
  obtain ⟨b, bn, bf, hb, rfl⟩ := hrun
  rcases hi : op.info with ⟨sym, nm'⟩
  rw [hi] at hs hsr h1 h2 hslot
  dsimp only at hs hsr h1 h2 hslot
  have one := ksp_try X I hsr hf h
  have hx : s.heap.get? x = some ox := I.at_
  have no : ∀ (Q' : Option Value → Shared → Prop), Q' none s → wpAny (model prog w) A (tryMethod (.int n t) (PySem.dunder nm') (.ref x)) Q' E s := fun Q' hq => by
    unfold tryMethod
    refine wpAny_bind (wpAny_callSpecial?_slot (typeIs_int s n t) hslot (wpAny_call_entry hslot (typeIs_int s n t) hb (intBinary_no hx hpl ?_) hargs))
    exact wpAny_pure hq
  obtain ⟨hh, g, d, tt, os⟩ := s
  have L1 : Looks (model prog w) hh (typeOf (.ref x)) (.ref C) := I.type
  have L2 : Looks (model prog w) hh (typeOf (.int n t)) (.type "int") := Looks.of_pure rfl
  have L3 : Looks (model prog w) hh (fillsNumberSlot (.ref C) nm') true := fills_K X hcd hm hs
  have L4 : Looks (model prog w) hh (fillsNumberSlot (.type "int") nm') true := by
    have := ksp_fillsT (M := model prog w) X h1 h2
    rw [hno] at this
    simpa using this
  have L5 : Looks (model prog w) hh (isSubtype (.ref C) (.type "int")) false := looks_subIn X hsub
  have L7 : Looks (model prog w) hh (numberSlotInPython (.type "int") nm') false := Looks.of_pure rfl
  have hne : (Value.type "int" == Value.ref C) = false := Bool.eq_false_iff.mpr fun q => by cases beq_iff_eq.mp q
  simp only [binaryOp, hi]
  refine wpAny_holding (wpAny_bind ?_)
  unfold binaryOp1
  refine wpAny_bind (L2.at (wpAny_bind (L1.at (wpAny_bind (L4.at ?_)))))
  simp only [hne, Bool.false_eq_true, if_false]
  ksp_lk
  refine no _ ?_
  ksp_lk
  refine wpAny_mono one (fun r s' hr' => ?_) fun _ _ e => e
  obtain ⟨v, rfl, hq⟩ := hr'
  ksp_lk
  exact hq
end Mine
namespace Mine
open PySem PySem.W PySem.Calls PyProof.Rows
theorem ifBound_B {prog : Program} {w : World} {A : Around} {E : Value → Shared → Prop} {s : Shared} {K : Frag} {x C : Addr} {ox : Obj} {od : Option Obj} {name : Str} {id : String} {args : List Value} {Q : Option Value → Shared → Prop} (X : K.In s.heap) (I : InstAt s.heap x ox C od) (hs : findIn K (.ref C) name = some (some (.builtin id)))
    (hb : ∀ self, bindSpecial (.builtin id) self = pure (.builtin id, [self])) (h : wpAny (model prog w) A (call (.builtin id) (.ref x :: args)) (fun v => Q (some v)) E s) : wpAny (model prog w) A (callSpecialIfBound? (.ref x) name args) Q E s := by
  simp only [callSpecialIfBound?, bindSpecialIfBound?]
  refine wpAny_holding (wpAny_bind (wpAny_bind (wpAny_bind (I.type.here ((looks_findIn X hs).here ?_)))))
  refine wpAny_bind (wpAny_askSetting (wpAny_ite ?_))
  have fin : wpAny (model prog w) A (call (.builtin id) ([.ref x] ++ args) >>= fun v => pure (some v)) Q E s := wpAny_bind (wpAny_mono h (fun v s' h' => wpAny_pure h') fun _ _ h' => h')
  split
  · refine wpAny_bind ?_
    rw [hb]
    exact wpAny_pure (wpAny_pure (by exact fin))
  · refine wpAny_tryCatch (wpAny_bind ?_)
    rw [hb]
    exact wpAny_pure (wpAny_pure (by exact fin))
theorem ne_K {prog : Program} {w : World} {A : Around} {E : Value → Shared → Prop} {s : Shared} {K : Frag} {x C f L : Addr} {h₀ : Heap} {m : Str → Option Value} {ox : Obj} {od : Option Obj} {b : Value} {Q : Value → Shared → Prop} (hu : A.units + 1 < cLine) (F : Fr h₀ L s.heap m) (X₀ : K.In h₀) (I : InstAt s.heap x ox C od)
    (hb : Looks (model prog w) s.heap (typeOf b) (.ref C)) (hsn : findIn K (.ref C) "__ne__" = some (some (.builtin "object.__ne__"))) (hse : findIn K (.ref C) "__eq__" = some (some (.ref f))) (hf : isFn K (.ref f) = true) (hm : mroIn K C (.type "object") = some true)
    (h : wpAny (model prog w) A.in1 (call (.ref f) [.ref x, b]) (fun v s' => ∃ bb, v = .bool bb ∧ Q (.bool (!bb)) s') E s) : wpAny (model prog w) A (richCompare .NotEq (.ref x) b) Q E s := by
  have X := X₀.keeps F.keep
  have one : wpAny (model prog w) A (tryCompare (.ref x) "__ne__" b) (fun r s' => ∃ v, r = some v ∧ Q v s') E s := by
    unfold tryCompare
    refine wpAny_bind (ifBound_B X I hsn PySem.F.cmp_object.ne.bind (wpAny_call (codeAny_call_builtin PySem.F.cmp_object.ne.plain PySem.F.cmpEntry_ne
      (@check_slot (model prog w) _ _ s "object.__ne__" "object" "__ne__" (.ref x) [b] [] _ PySem.F.cmpKind_ne PySem.F.cmpSplit_ne (I.type.andThen (looks_mroIn X hm)) (PySem.F.cmpArgs_ne _ _) ?_))))
    unfold Builtin.«object.__ne__»
    show wpAny _ _ (pure ((.ref x : Value), [b]) >>= _) _ _ s
    refine wpAny_bind (wpAny_pure ?_)
    show wpAny _ _ (cRoomFor "comparison" [.ref x, b] >>= _) _ _ s
    refine wpAny_bind (wpAny_cRoomFor hu ?_)
    refine wpAny_bind (m := callSpecialIfBound? (.ref x) (Str.ofString "__eq__") [b]) (ifBound_K X I hse hf (wpAny_mono h (fun v s' hv => ?_) fun _ _ e => e))
    obtain ⟨bb, rfl, hq⟩ := hv
    show wpAny _ _ (truthy (.bool bb) >>= _) _ _ s'
    exact wpAny_bind (m := truthy (.bool bb)) (wpAny_truthy_bool (wpAny_pure (wpAny_pure ⟨_, rfl, hq⟩)))
  unfold richCompare
  simp only [oneThing_ref]
  refine wpAny_holding (wpAny_bind (wpAny_cRoomFor (by omega) ?_))
  refine wpAny_bind (I.type.here (wpAny_bind (hb.here ?_)))
  simp only [bne_self_eq_false, Bool.false_eq_true, if_false]
  refine wpAny_bind (wpAny_pure ?_)
  simp only [Bool.false_eq_true, if_false]
  refine wpAny_bind (wpAny_mono one (fun r s' z => ?_) fun _ _ e => e)
  obtain ⟨v, rfl, hq⟩ := z
  exact wpAny_pure hq
end Mine

namespace Mine
open PySem PySem.W PySem.Calls PyProof.Rows


section
variable {G : Glb} {F : FnLit} {d : Nat} {own : List (Addr × Obj)} {σ : List (Str × PV)} {R : PV → Prop} {X : Option Value} {B : Bool → Prop} {D : Addr} {fs : List (Str × PV)}
  {A : Around} {g h : Heap} {L : Addr} {Z₀ Z : FZ} {m : Str → Option Value}
/-- one unit deeper -/
theorem Live.in1 (l : Live G F (d + 1) A g L Z₀ Z own h m) : Live G F d A.in1 g L Z₀ Z own h m :=
  { l with hd := l.hd, stk := l.stk, room := by have := l.room; show A.depth + d < _; omega, unit := by have := l.unit; show A.units + 1 + 10 * d < _; omega }
theorem Live.out1 {d' : Nat} {own' : List (Addr × Obj)} {Z' : FZ} {h' : Heap} {m' : Str → Option Value} (l : Live G F (d + 1) A g L Z₀ Z own h m) (l' : Live G F d' A.in1 g L Z₀ Z' own' h' m') : Live G F (d + 1) A g L Z₀ Z' own' h' m' :=
  { l' with hd := l.hd, stk := l'.stk, room := l.room, unit := l.unit }
theorem ThrA.out1 {s : Shared} {v : Value} {s' : Shared} (h : ThrA G A.in1 X g s v s') : ThrA G A X g s v s' := h

/-- add, mul, .. of the module operator -/
theorem cl_opr {id : String} {nm : String} {op : Operator} {a b : PV} (kind : builtinKind id = none) (plain : plainId id = true) (entry : ∃ Bi : Builtin, entryFor table id = some Bi ∧ ∀ x y, Bi ⟨[x, y], []⟩ = (do let (a, b) ← Builtin._operator.two nm ⟨[x, y], []⟩; ret (← binaryOp op a b))) (ok : ∀ x y, argsOk id ⟨[x, y], []⟩)
    (h : D2 G F d own (binaryOp op) a b R X) : Cl G F (d + 1) own (.raw (.builtin id)) [a, b] [] R X := by
  intro A g L Z₀ Z s m fv vs kvs lv rf r hk rk
  obtain rfl : kvs = [] := by simpa using hk
  cases rf
  cases r with | cons r r' =>
  cases r' with | cons r' r'' =>
  cases r''
  obtain ⟨Bi, he, hB⟩ := entry
  refine call_function_entry kind plain he (ok _ _) ?_
  rw [hB]
  refine wpAny_bind (m := Builtin._operator.two nm _) (wpAny_pure ?_)
  refine wpAny_bind (wpAny_mono (h A.in1 g L Z₀ Z s m _ _ lv.in1 r r') (fun v s' q => ?_) fun _ _ q => q.out1)
  obtain ⟨Z', p, k, l, q, rv, hp⟩ := q
  exact wpAny_pure ⟨v, rfl, Z', p, k, lv.out1 l, q, rv, hp⟩

theorem InstAt.of_rdP {Z : FZ} {h : Heap} {a C : Addr} {fs : List (Str × PV)} (S : Sub Z h) (r : Rd Z (.ref a) (.inst C fs)) : ∃ ox od, InstAt h a ox C (some od) ∧ ox.data = .plain := by
  cases r with
  | @inst _ _ dx o od es n _ h1 h2 h3 h4 h5 h6 h7 =>
    have e1 := S _ _ h1
    have e2 := S _ _ h5
    refine ⟨_, od, ⟨e1, h2, ?_, ?_⟩, h4⟩
    · unfold notCls; rw [h4]
    · rw [h3]; exact e2
/-- int op x -/
theorem op_binR (O : G.Ok) {d' : Nat} {fd fr : Addr} {op : Operator} {i : Int} {ro : Option Value} {id : String} {R' : PV → Prop} (hc : selfFirst G.K D = true) (hs : findIn G.K (.ref D) (PySem.dunder op.info.2) = some (some (.ref fd))) (hsr : findIn G.K (.ref D) (dunderR op.info.2) = some (some (.ref fr))) (hf : isFn G.K (.ref fr) = true)
    (h1 : findIn G.K (.type "int") (PySem.dunder op.info.2) = some (some (.builtin id))) (h2 : findIn G.K (.type "int") (dunderR op.info.2) = some ro) (hno : isSeqSlot (some (.builtin id)) = false) (hsub : subIn G.K (.ref D) (.type "int") = some false)
    (hslot : Slot "int" (PySem.dunder op.info.2) id) (hrun : ∃ b nm f, entryFor table id = some b ∧ b = Builtin.Int.intBinary nm f false) (hargs : ∀ x y, argsOk id ⟨[x, y], []⟩)
    (T : Fn G d' (.ref fr) [.inst D fs, .int i] [] R' X) (hd : d' ≤ d) (h : ∀ p, R' p → R p ∧ notNI p = true) : D2 G F d own (binaryOp op) (.int i) (.inst D fs) R X := by
  intro A g L Z₀ Z s m v w lv r r'
  obtain ⟨a, rfl⟩ : ∃ a, w = .ref a := by cases r'; exact ⟨_, rfl⟩
  cases r with | int _ t =>
  obtain ⟨ox, od, I, hpl⟩ := InstAt.of_rdP lv.sub r'
  refine refl_K lv.fr O.kin I hpl hc hs hsr hf h1 h2 hno hsub hslot hrun (hargs _ _) (wpAny_mono (wp_call (kvs := []) T lv hd (.cons r' (.cons (.int _ _) .nil)) rfl .nil) (fun v s' q => ?_) fun _ _ q => q)
  obtain ⟨Z', p, k, l, q, rv, hp⟩ := q
  exact cmpBack rv (h p hp).2 ⟨Z', p, k, l, q, rv, (h p hp).1⟩
/-- x != y, by __eq__ -/
theorem op_neS (O : G.Ok) {d' : Nat} {f : Addr} {gs : List (Str × PV)} {bb : Bool} (hsn : findIn G.K (.ref D) "__ne__" = some (some (.builtin "object.__ne__"))) (hse : findIn G.K (.ref D) "__eq__" = some (some (.ref f))) (hf : isFn G.K (.ref f) = true) (hm : mroIn G.K D (.type "object") = some true)
    (T : Fn G d' (.ref f) [.inst D fs, .inst D gs] [] (fun p => p = .bool bb) X) (hd : d' ≤ d) (h : R (.bool !bb)) : D2 G F (d + 1) own (compareOp .NotEq) (.inst D fs) (.inst D gs) R X := by
  intro A g L Z₀ Z s m v w lv r r'
  obtain ⟨a, rfl⟩ : ∃ a, v = .ref a := by cases r; exact ⟨_, rfl⟩
  obtain ⟨b, rfl⟩ : ∃ b, w = .ref b := by cases r'; exact ⟨_, rfl⟩
  obtain ⟨ox, od, es, n, I, hdd, rf, _⟩ := InstAt.of_rd lv.sub r
  obtain ⟨oy, odd, es', n', J, hdd', rf', _⟩ := InstAt.of_rd lv.sub r'
  refine ne_K (by have := lv.unit; omega) lv.fr O.kin I J.type hsn hse hf hm (wpAny_mono (wp_call (kvs := []) T lv.in1 hd (.cons r (.cons r' .nil)) rfl .nil) (fun v s' q => ?_) fun _ _ q => q.out1)
  obtain ⟨Z', p, k, l, q, rv, rfl⟩ := q
  cases rv
  exact ⟨bb, rfl, Z', _, k, lv.out1 l, q, .bool _, h⟩
end
end Mine

namespace Mine
open PySem PySem.W PySem.Calls PyProof.Rows

/-! ## The own reckoning of the law -/
def comb (o : Op) (a b c d : Int) : Option (Int × Int) := match o with
  | .add => some (a * d + c * b, b * d)
  | .sub => some (a * d + (0 - c * b), b * d)
  | .mul => some (a * c, b * d)
  | .jux => some (a * c, b * d)
  | .div => if c ≠ 0 then some (a * d, b * c) else none
  | .pow => some (a ^ c.toNat, b ^ c.toNat)
def T.value : T → Option (Int × Int)
  | .num k => some (k, 1)
  | .neg a => match a.value with
    | some (x, y) => some (0 - x, y)
    | none => none
  | .bin o a b => match a.value, b.value with
    | some (x, y), some (z, u) => comb o x y z u
    | _, _ => none
def encV : Option (Int × Int) → PV
  | none => .none
  | some (x, y) => .tup [.int x, .int y]
def T.B : T → Nat
  | .num _ => 4
  | .neg a => a.B
  | .bin .pow a _ => 3 * a.B
  | .bin _ a b => a.B + b.B + 1
theorem pow_sum (x y : Nat) (hx : 1 ≤ x) (hy : 1 ≤ y) : 5 * 3 ^ (x - 1) + 5 * 3 ^ (y - 1) ≤ 5 * 3 ^ (x + y - 1) := by
  have e : x + y - 1 = (x - 1) + (y - 1) + 1 := by omega
  rw [e, Nat.pow_succ, Nat.pow_add]
  generalize hX : 3 ^ (x - 1) = X
  generalize hY : 3 ^ (y - 1) = Y
  have h1 : 1 ≤ X := hX ▸ Nat.one_le_pow _ _ (by decide)
  have h2 : 1 ≤ Y := hY ▸ Nat.one_le_pow _ _ (by decide)
  have h3 : X ≤ X * Y := Nat.le_mul_of_pos_right _ h2
  have h4 : Y ≤ X * Y := Nat.le_mul_of_pos_left _ h1
  omega
theorem T.B_le : ∀ t : T, t.wf → t.B + 1 ≤ 5 * 3 ^ (t.leaves - 1)
  | .num k, _ => by simp [T.B, T.leaves]
  | .neg a, h => a.B_le h
  | .bin o a b, h => by
    have i := a.B_le (T.wf_a h)
    have j := b.B_le (T.wf_b h)
    have p := pow_sum a.leaves b.leaves a.leaves_pos b.leaves_pos
    have la := a.leaves_pos
    cases o
    case pow =>
      obtain ⟨_, e, _, rfl⟩ := h
      show 3 * a.B + 1 ≤ 5 * 3 ^ (a.leaves + 1 - 1)
      have e2 : a.leaves + 1 - 1 = (a.leaves - 1) + 1 := by omega
      rw [e2, Nat.pow_succ]
      omega
    all_goals
      show a.B + b.B + 1 + 1 ≤ 5 * 3 ^ (a.leaves + b.leaves - 1)
      omega
theorem T.B_small (t : T) (h : t.wf) (hl : t.leaves ≤ 7) : t.B ≤ 5000 := by
  have i := t.B_le h
  have : 3 ^ (t.leaves - 1) ≤ 3 ^ 6 := Nat.pow_le_pow_right (by decide) (by omega)
  omega
theorem abs_pow (a : Int) (n : Nat) : (a ^ n).natAbs = a.natAbs ^ n := Int.natAbs_pow ..
theorem le_mul2 {a b : Int} {k l : Nat} (h : a.natAbs ≤ 2 ^ k) (h' : b.natAbs ≤ 2 ^ l) : (a * b).natAbs ≤ 2 ^ (k + l) := by
  rw [Int.natAbs_mul, Nat.pow_add]; exact Nat.mul_le_mul h h'
theorem le_up {a : Int} {k l : Nat} (h : a.natAbs ≤ 2 ^ k) (hk : k ≤ l) : a.natAbs ≤ 2 ^ l := Nat.le_trans h (Nat.pow_le_pow_right (by decide) hk)
theorem le_add2 {a b : Int} {k : Nat} (h : a.natAbs ≤ 2 ^ k) (h' : b.natAbs ≤ 2 ^ k) : (a + b).natAbs ≤ 2 ^ (k + 1) := by
  have := Int.natAbs_add_le a b
  rw [Nat.pow_succ]; omega
theorem le_pow3 {a : Int} {k n : Nat} (h : a.natAbs ≤ 2 ^ k) (hn : n ≤ 3) : (a ^ n).natAbs ≤ 2 ^ (3 * k) := by
  rw [abs_pow]
  refine Nat.le_trans (Nat.pow_le_pow_left h n) ?_
  rw [← Nat.pow_mul]
  exact Nat.pow_le_pow_right (by decide) (by rw [Nat.mul_comm]; exact Nat.mul_le_mul_right k hn)
end Mine

namespace Mine
open PySem PySem.W PySem.Calls PyProof.Rows

theorem comb_le {o : Op} {a b c d x y : Int} {k l : Nat} (ho : o ≠ .pow) (ha : a.natAbs ≤ 2 ^ k) (hb : b.natAbs ≤ 2 ^ k) (hc : c.natAbs ≤ 2 ^ l) (hd : d.natAbs ≤ 2 ^ l) (hb0 : b ≠ 0) (hd0 : d ≠ 0) (h : comb o a b c d = some (x, y)) :
    x.natAbs ≤ 2 ^ (k + l + 1) ∧ y.natAbs ≤ 2 ^ (k + l + 1) ∧ y ≠ 0 := by
  have e1 : k + l ≤ k + l + 1 := by omega
  have ad := le_mul2 ha hd
  have bd := le_mul2 hb hd
  have ac := le_mul2 ha hc
  have bc := le_mul2 hb hc
  have cb : (c * b).natAbs ≤ 2 ^ (k + l) := by rw [Int.mul_comm]; exact bc
  have ncb : (0 - c * b).natAbs ≤ 2 ^ (k + l) := by rw [Int.zero_sub, Int.natAbs_neg]; exact cb
  cases o <;> simp only [comb] at h
  · cases h; exact ⟨le_add2 ad cb, le_up bd e1, Int.mul_ne_zero hb0 hd0⟩
  · cases h; exact ⟨le_add2 ad ncb, le_up bd e1, Int.mul_ne_zero hb0 hd0⟩
  · cases h; exact ⟨le_up ac e1, le_up bd e1, Int.mul_ne_zero hb0 hd0⟩
  · split at h
    · rename_i hc0
      cases h; exact ⟨le_up ad e1, le_up bc e1, Int.mul_ne_zero hb0 hc0⟩
    · cases h
  · cases h; exact ⟨le_up ac e1, le_up bd e1, Int.mul_ne_zero hb0 hd0⟩
  · exact absurd rfl ho
theorem T.value_le : ∀ (t : T), t.wf → ∀ {x y : Int}, t.value = some (x, y) → x.natAbs ≤ 2 ^ t.B ∧ y.natAbs ≤ 2 ^ t.B ∧ y ≠ 0
  | .num k, hw, x, y, h => by
    cases h
    have : k ≤ 9 := hw
    show ((k : Int).natAbs ≤ 16 ∧ (1 : Int).natAbs ≤ 16 ∧ _)
    exact ⟨by omega, by decide, by decide⟩
  | .neg a, hw, x, y, h => by
    rw [T.value] at h
    cases e : a.value with
    | none => rw [e] at h; cases h
    | some v =>
      obtain ⟨p, q⟩ := v
      rw [e] at h
      cases h
      obtain ⟨h1, h2, h3⟩ := a.value_le hw e
      exact ⟨by rw [Int.zero_sub, Int.natAbs_neg]; exact h1, h2, h3⟩
  | .bin o a b, hw, x, y, h => by
    rw [T.value] at h
    cases e : a.value with
    | none => rw [e] at h; cases h
    | some v =>
      obtain ⟨p, q⟩ := v
      cases e' : b.value with
      | none => rw [e, e'] at h; cases h
      | some v' =>
        obtain ⟨r, s⟩ := v'
        rw [e, e'] at h
        obtain ⟨h1, h2, h3⟩ := a.value_le (T.wf_a hw) e
        obtain ⟨k1, k2, k3⟩ := b.value_le (T.wf_b hw) e'
        cases o
        case pow =>
          obtain ⟨_, n, hn, rfl⟩ := hw
          cases e'
          cases h
          exact ⟨le_pow3 h1 (by simpa using hn), le_pow3 h2 (by simpa using hn), Int.pow_ne_zero h3⟩
        all_goals exact comb_le (by decide) h1 h2 k1 k2 h3 k3 h
end Mine

namespace Mine
open PySem PySem.W PyProof.Rows
open_top hd for PySem.Challenge.rw_fe0210_01
end Mine

namespace Mine
open PySem PySem.W PySem.Calls PyProof.Rows
section
abbrev PW : Program := PySem.Challenge.rw_fe0210_01.row.toRowW.prog
noncomputable def GG (w : World) (loose : List Str) (mean : ExcName → Option Value) (mg mb : Str → Option Value) (base : Heap) : Glb := ⟨PW, w, hd.heap_39 w.params, hd.view_39, loose, mean, mg, mb, base⟩
section
variable {w : World} {loose : List Str} {mean : ExcName → Option Value} {mg mb : Str → Option Value} {base : Heap}
theorem nm_add : nsIn (GG w loose mean mg mb base).K mainGlobals "add" = some (some (.builtin "_operator.add")) := by kernel_rfl
theorem nm_mul : nsIn (GG w loose mean mg mb base).K mainGlobals "mul" = some (some (.builtin "_operator.mul")) := by kernel_rfl
theorem nm_pow_operator : nsIn (GG w loose mean mg mb base).K mainGlobals "pow_operator" = some (some (.builtin "_operator.pow")) := by kernel_rfl
theorem nm_sub : nsIn (GG w loose mean mg mb base).K mainGlobals "sub" = some (some (.builtin "_operator.sub")) := by kernel_rfl
theorem nm_truediv : nsIn (GG w loose mean mg mb base).K mainGlobals "truediv" = some (some (.builtin "_operator.truediv")) := by kernel_rfl
theorem nm_DefinitionSyntaxError : nsIn (GG w loose mean mg mb base).K mainGlobals "DefinitionSyntaxError" = some (some (.ref 69)) := by kernel_rfl
theorem nm_ENDMARKER : nsIn (GG w loose mean mg mb base).K mainGlobals "ENDMARKER" = some (some (.str "ENDMARKER" 402)) := by kernel_rfl
theorem nm_NAME : nsIn (GG w loose mean mg mb base).K mainGlobals "NAME" = some (some (.str "NAME" 404)) := by kernel_rfl
theorem nm_NUMBER : nsIn (GG w loose mean mg mb base).K mainGlobals "NUMBER" = some (some (.str "NUMBER" 406)) := by kernel_rfl
theorem nm_OP : nsIn (GG w loose mean mg mb base).K mainGlobals "OP" = some (some (.str "OP" 408)) := by kernel_rfl
theorem nm_common_divisor : nsIn (GG w loose mean mg mb base).K mainGlobals "common_divisor" = some (some (.ref 79)) := by kernel_rfl
theorem nm_Quotient : nsIn (GG w loose mean mg mb base).K mainGlobals "Quotient" = some (some (.ref 223)) := by kernel_rfl
theorem nm_whole : nsIn (GG w loose mean mg mb base).K mainGlobals "whole" = some (some (.ref 234)) := by kernel_rfl
theorem nm_number_from_text : nsIn (GG w loose mean mg mb base).K mainGlobals "number_from_text" = some (some (.ref 241)) := by kernel_rfl
theorem nm_TokenInfo : nsIn (GG w loose mean mg mb base).K mainGlobals "TokenInfo" = some (some (.ref 265)) := by kernel_rfl
theorem nm_end_of_figures : nsIn (GG w loose mean mg mb base).K mainGlobals "end_of_figures" = some (some (.ref 276)) := by kernel_rfl
theorem nm_end_of_number : nsIn (GG w loose mean mg mb base).K mainGlobals "end_of_number" = some (some (.ref 283)) := by kernel_rfl
theorem nm_tokenizer : nsIn (GG w loose mean mg mb base).K mainGlobals "tokenizer" = some (some (.ref 290)) := by kernel_rfl
theorem nm__power : nsIn (GG w loose mean mg mb base).K mainGlobals "_power" = some (some (.ref 297)) := by kernel_rfl
theorem nm__divided : nsIn (GG w loose mean mg mb base).K mainGlobals "_divided" = some (some (.ref 304)) := by kernel_rfl
theorem nm__plus : nsIn (GG w loose mean mg mb base).K mainGlobals "_plus" = some (some (.ref 311)) := by kernel_rfl
theorem nm__minus : nsIn (GG w loose mean mg mb base).K mainGlobals "_minus" = some (some (.ref 318)) := by kernel_rfl
theorem nm__UNARY_OPERATOR_MAP : nsIn (GG w loose mean mg mb base).K mainGlobals "_UNARY_OPERATOR_MAP" = some (some (.ref 319)) := by kernel_rfl
theorem nm__BINARY_OPERATOR_MAP : nsIn (GG w loose mean mg mb base).K mainGlobals "_BINARY_OPERATOR_MAP" = some (some (.ref 320)) := by kernel_rfl
theorem nm__OP_PRIORITY : nsIn (GG w loose mean mg mb base).K mainGlobals "_OP_PRIORITY" = some (some (.ref 321)) := by kernel_rfl
theorem nm__MAX_RECURSION_DEPTH : nsIn (GG w loose mean mg mb base).K mainGlobals "_MAX_RECURSION_DEPTH" = some (some (.int 100 763)) := by kernel_rfl
theorem nm_EvalTreeNode : nsIn (GG w loose mean mg mb base).K mainGlobals "EvalTreeNode" = some (some (.ref 354)) := by kernel_rfl
theorem nm__build_eval_tree : nsIn (GG w loose mean mg mb base).K mainGlobals "_build_eval_tree" = some (some (.ref 366)) := by kernel_rfl
theorem nm_build_eval_tree : nsIn (GG w loose mean mg mb base).K mainGlobals "build_eval_tree" = some (some (.ref 374)) := by kernel_rfl
theorem nm__law_cell : nsIn (GG w loose mean mg mb base).K mainGlobals "_law_cell" = some (some (.ref 381)) := by kernel_rfl
theorem nm__law_tree : nsIn (GG w loose mean mg mb base).K mainGlobals "_law_tree" = some (some (.ref 386)) := by kernel_rfl
theorem nm__law_bind : nsIn (GG w loose mean mg mb base).K mainGlobals "_law_bind" = some (some (.ref 393)) := by kernel_rfl
theorem nm__law_is_bare : nsIn (GG w loose mean mg mb base).K mainGlobals "_law_is_bare" = some (some (.ref 400)) := by kernel_rfl
theorem nm__law_text : nsIn (GG w loose mean mg mb base).K mainGlobals "_law_text" = some (some (.ref 407)) := by kernel_rfl
theorem nm__law_within : nsIn (GG w loose mean mg mb base).K mainGlobals "_law_within" = some (some (.ref 414)) := by kernel_rfl
theorem nm__law_told : nsIn (GG w loose mean mg mb base).K mainGlobals "_law_told" = some (some (.ref 421)) := by kernel_rfl
theorem nm__law_value : nsIn (GG w loose mean mg mb base).K mainGlobals "_law_value" = some (some (.ref 426)) := by kernel_rfl
theorem nm__law_number : nsIn (GG w loose mean mg mb base).K mainGlobals "_law_number" = some (some (.ref 433)) := by kernel_rfl
theorem nm__law_is_refused : nsIn (GG w loose mean mg mb base).K mainGlobals "_law_is_refused" = some (some (.ref 440)) := by kernel_rfl
end
section
variable {G : Glb} {F : FnLit} {d : Nat} {own : List (Addr × Obj)} {σ : List (Str × PV)} {R : PV → Prop} {X : Option Value}
theorem ev_topS (O : G.Ok) {x y : Str} {t : Tok} {pos : Pos} (e : nsIn G.K mainGlobals x = some (some (.str y t))) (hl : F.scope.names.lookup x = some .globalImplicit) (hd : (x == ("__debug__" : Str)) = false) (h : R (.str y)) :
    Ev G F d own σ (.Name x pos) R X := fun A g L Z₀ Z s m l st =>
  Name_function_global (by rw [F.scope_env]; exact l.kind) (by rw [F.kindOf_env]; exact hl) (loadGlobal_global (by rw [F.globals_env]; exact (topRead_of O.top).g.keeps l.fr.keep) (mg_of O.kin (topRead_of O.top).g e) (Got.of l (.str y t) h)) hd
theorem ev_topI (O : G.Ok) {x : Str} {y : Int} {t : Tok} {pos : Pos} (e : nsIn G.K mainGlobals x = some (some (.int y t))) (hl : F.scope.names.lookup x = some .globalImplicit) (hd : (x == ("__debug__" : Str)) = false) (h : R (.int y)) :
    Ev G F d own σ (.Name x pos) R X := fun A g L Z₀ Z s m l st =>
  Name_function_global (by rw [F.scope_env]; exact l.kind) (by rw [F.kindOf_env]; exact hl) (loadGlobal_global (by rw [F.globals_env]; exact (topRead_of O.top).g.keeps l.fr.keep) (mg_of O.kin (topRead_of O.top).g e) (Got.of l (.int y t) h)) hd
end
end
end Mine

namespace Mine
open PySem PySem.W PySem.Calls PyProof.Rows
section
local macro_rules | `(tactic| walk_at "nm") => `(tactic| first | with_reducible exact nm_add | with_reducible exact nm_mul | with_reducible exact nm_pow_operator | with_reducible exact nm_sub | with_reducible exact nm_truediv | with_reducible exact nm_DefinitionSyntaxError | with_reducible exact nm_common_divisor | with_reducible exact nm_Quotient | with_reducible exact nm_whole | with_reducible exact nm_number_from_text | with_reducible exact nm_TokenInfo | with_reducible exact nm_end_of_figures | with_reducible exact nm_end_of_number | with_reducible exact nm_tokenizer | with_reducible exact nm__power | with_reducible exact nm__divided | with_reducible exact nm__plus | with_reducible exact nm__minus | with_reducible exact nm__UNARY_OPERATOR_MAP | with_reducible exact nm__BINARY_OPERATOR_MAP | with_reducible exact nm__OP_PRIORITY | with_reducible exact nm_EvalTreeNode | with_reducible exact nm__build_eval_tree | with_reducible exact nm_build_eval_tree | with_reducible exact nm__law_cell | with_reducible exact nm__law_tree | with_reducible exact nm__law_bind | with_reducible exact nm__law_is_bare | with_reducible exact nm__law_text | with_reducible exact nm__law_within | with_reducible exact nm__law_told | with_reducible exact nm__law_value | with_reducible exact nm__law_number | with_reducible exact nm__law_is_refused)
local macro_rules | `(tactic| walk_at "mem") => `(tactic| repeat (first | with_reducible exact LMem.head | with_reducible apply LMem.tail))
local macro_rules | `(tactic| walk_at "put") => `(tactic| first
  | with_reducible exact PutR.nil
  | ((with_reducible refine' PutR.pass ?pn ?pr); (case pn => decide); (case pr => walk_at "put"))
  | ((with_reducible refine' PutR.drop ?pr); (case pr => walk_at "put")))
local macro_rules | `(tactic| walk_at "sub") => `(tactic| repeat (first
  | with_reducible exact LSub.nil
  | ((with_reducible refine' LSub.cons ?lm ?_); (case lm => walk_at "mem"))))
local macro_rules | `(tactic| walk_at "go") => `(tactic| repeat (first
  | with_reducible refine' ev_int ?_
  | with_reducible refine' ev_str ?_
  | ((with_reducible refine' ev_var ?hm ?hl ?hd ?_); (case hm => walk_at "mem"); (case hl => rfl); (case hd => decide))
  | ((with_reducible refine' ev_built ?hO ?hv ?he ?hn ?hl ?hd ?_); (case hO => assumption); (case hv => boot_by_name); (case he => kernel_rfl); (case hn => decide); (case hl => rfl); (case hd => decide))
  | ((with_reducible refine' ev_topS ?hO ?he ?hl ?hd ?_); (case he => first | with_reducible exact nm_ENDMARKER | with_reducible exact nm_NAME | with_reducible exact nm_NUMBER | with_reducible exact nm_OP); (case hO => assumption); (case hl => rfl); (case hd => decide))
  | ((with_reducible refine' ev_topI ?hO ?he ?hl ?hd ?_); (case he => with_reducible exact nm__MAX_RECURSION_DEPTH); (case hO => assumption); (case hl => rfl); (case hd => decide))
  | ((with_reducible refine' ev_top ?hO ?he ?hl ?hd ?_); (case hO => assumption); (case he => walk_at "nm"); (case hl => rfl); (case hd => decide))
  | ((with_reducible refine' ev_cel ?hl ?hd ?hc ?hm ?_); (case hl => rfl); (case hd => decide); (case hc => exact rfl); (case hm => exact List.Mem.head _))
  | ((with_reducible refine' And.intro ?hk ?_); (case hk => first | with_reducible exact kp_bi | with_reducible exact kp_ty | ((with_reducible refine' kp_fn ?_); kernel_rfl)))
  | with_reducible refine' evs_nil ?_
  | ((with_reducible refine' evs_more ?he ?_); (case he => intro _; rfl))
  | with_reducible refine' ev_bin ?_
  | with_reducible refine' ev_tup ?_
  | with_reducible refine' ev_lst ?_
  | ((with_reducible refine' And.intro ?hk ?_); (case hk => size_fits))
  | ((with_reducible refine' ev_mcl0 ?hO ?he ?hp ?_); (case hO => assumption); (case he => intro _; exact ⟨_, rfl⟩); (case hp => rfl))
  | ((with_reducible refine' ev_cl0 ?hO ?he ?hp ?_); (case hO => assumption); (case he => intro _; rfl); (case hp => rfl))
  | with_reducible refine' ev_sub ?_
  | ((with_reducible refine' ev_compare ?hm ?_); (case hm => with_unfolding_all rfl))
  | with_reducible refine' ev_attr ?_
  | with_reducible refine' ev_none ?_
  | with_reducible refine' ev_bool ?_
  | with_reducible refine' ev_un ?_
  | with_reducible refine' ev_ife ?_
  | ((with_reducible refine' ev_mcl ?hO ?he ?hp ?hk ?_); (case hO => assumption); (case he => intro _; exact ⟨_, rfl⟩); (case hp => rfl); (case hk => rfl))
  | ((with_reducible refine' ev_cl ?hO ?he ?hp ?hk ?_); (case hO => assumption); (case he => intro _; rfl); (case hp => rfl); (case hk => rfl))
  | with_reducible refine' evk_nil ?_
  | with_reducible refine' evk_cons ?_
  | with_reducible refine' ex_ret ?_
  | ((with_reducible refine' ex_asg ?hl ?hs ?_); (case hl => rfl); (case hs => intro _; rfl))
  | ((with_reducible refine' ex_swap2 ?hs ?hw ?hx ?hy ?_); (case hs => intro _; rfl); (case hw => intro _; rfl); (case hx => rfl); (case hy => rfl))
  | ((with_reducible refine' ex_tup2 ?hs ?hw ?hx ?hy ?_); (case hs => intro _; rfl); (case hw => intro _; rfl); (case hx => rfl); (case hy => rfl))
  | ((with_reducible refine' ex_aug ?hm ?hl ?_); (case hm => walk_at "mem"); (case hl => rfl))
  | ((with_reducible refine' Exists.intro _ (And.intro (?hp : PutR _ _ _ _) ?_)); (case hp => walk_at "put"))
  | with_reducible refine' Exists.intro _ (Exists.intro _ (And.intro rfl ?_))
  | with_reducible refine' Exists.intro _ (And.intro rfl ?_)
  | with_reducible refine' ex_if ?_
  | with_reducible refine' ex_nil ?_
  | with_reducible refine' ex_cont ?_
  | with_reducible refine' ex_pass ?_
  | with_reducible refine' ex_assert ?_
  | with_reducible refine' sq_next ?_
  | with_reducible refine' sq_ret ?_
  | with_reducible refine' sq_brk ?_
  | with_reducible refine' sq_cont ?_
  | with_reducible refine' retp ?_
  | with_reducible refine' loop_ret ?_
  | with_reducible refine' loop_brk ?_
  | with_reducible refine' retn ?_
  | with_reducible refine' ts_not ?_
  | with_reducible refine' ts_andN ?_
  | with_reducible refine' ts_orN ?_
  | with_reducible refine' ts_and ?_
  | with_reducible refine' ts_or ?_
  | ((with_reducible refine' ts_compare ?hm ?_); (case hm => with_unfolding_all rfl))
  | ((with_reducible refine' ts_val ?_ ?he); (case he => intro _ _; rfl))
  | with_reducible refine' d2_add ?_
  | with_reducible refine' d2_sub ?_
  | with_reducible refine' d2_iadd ?_
  | with_reducible refine' d1_neg ?_
  | with_reducible refine' d2_lt ?_
  | with_reducible refine' d2_gt ?_
  | with_reducible refine' d2_le ?_
  | with_reducible refine' d2_ge ?_
  | with_reducible refine' d2_eq ?_
  | with_reducible refine' d2_ne ?_
  | with_reducible refine' d2_seq ?_
  | with_reducible refine' d2_sne ?_
  | with_reducible refine' tr_bool ?_
  | with_reducible refine' tr_none ?_
  | with_reducible refine' tr_int ?_
  | with_reducible refine' cl_abs ?_
  | with_reducible refine' cl_int ?_
  | ((with_reducible refine' op_fdiv ?hO ?hb ?hd ?hg ?hc ?hh ?_); (case hO => assumption); (case hb => decide); (case hd => decide); (case hg => rfl); (case hc => rfl); (case hh => rfl))
  | ((with_reducible refine' op_headNum ?hs ?_); (case hs => intro _ _; exact ⟨_, rfl⟩))
  | ((with_reducible refine' op_headNeg ?hs ?_); (case hs => intro _ _; exact ⟨_, rfl⟩))
  | ((with_reducible refine' op_headBin ?hs ?_); (case hs => intro _ _; exact ⟨_, rfl⟩))
  | ((with_reducible refine' op_head ?hs ?_); (case hs => intro _ _; exact ⟨_, rfl⟩))
  | ((with_reducible refine' op_num1 ?hs ?_); (case hs => intro _ _; exact ⟨_, rfl⟩))
  | ((with_reducible refine' op_neg1 ?hs ?_); (case hs => intro _ _; exact ⟨_, rfl⟩))
  | ((with_reducible refine' op_bin1 ?hs ?_); (case hs => intro _ _; exact ⟨_, rfl⟩))
  | ((with_reducible refine' op_bin2 ?hs ?_); (case hs => intro _ _; exact ⟨_, rfl⟩))
  | ((with_reducible refine' if_t ?hc ?_); (case hc => decide))
  | ((with_reducible refine' if_f ?hc ?_); (case hc => decide))
  | with_reducible refine' ev_slcTo ?_
  | with_reducible refine' ev_slcFrom ?_
  | with_reducible refine' ev_slcBoth ?_
  ))
section
variable {w : World} {loose : List Str} {mean : ExcName → Option Value} {mg mb : Str → Option Value} {base : Heap}
theorem cell_spec (O : (GG w loose mean mg mb base).Ok) {ns : List Int} {k : Int} (h0 : 0 ≤ k) (hk : k < 2 ^ 20) (hl : ns.length < 2 ^ 60) : Fn (GG w loose mean mg mb base) 1 (.ref 381) [.lst (ns.map PV.int), .int k] [] (fun p => ∃ r : Int, 0 ≤ r ∧ p = .int r) none := by
  refine fn_intro O (ps := [("script", .lst (ns.map PV.int)), ("at", .int k)]) (by rfl) (by kernel_rfl) (bnds2 fun _ _ => by rfl) ?_ (by rfl) (of_decide_eq_true (by kernel_rfl)) (by rfl) rfl rfl rfl
  · walk_at "go"
    apply op_lenL
    · simp; omega
    walk_at "go"
    apply if_b
    · intro c
      walk_at "go"
      have hkl : k.toNat < ns.length := by simp at c; omega
      apply op_item (p := .int ns[k.toNat])
      · intro _ _; exact ⟨_, rfl⟩
      · exact h0
      · omega
      · simp [hkl]
      walk_at "go"
      apply op_modN (by decide)
      intro r _ _
      walk_at "go"
      exact ⟨_, by omega, rfl⟩
    · intro c
      walk_at "go"
      apply op_mul
      · exact .of_left (intBits_le_64 (by decide) (by decide))
      walk_at "go"
      exact ⟨_, by omega, rfl⟩
end
end
end Mine

namespace Mine
open PySem PySem.W PySem.Calls PyProof.Rows
section
local macro_rules | `(tactic| walk_at "nm") => `(tactic| first | with_reducible exact nm_add | with_reducible exact nm_mul | with_reducible exact nm_pow_operator | with_reducible exact nm_sub | with_reducible exact nm_truediv | with_reducible exact nm_DefinitionSyntaxError | with_reducible exact nm_common_divisor | with_reducible exact nm_Quotient | with_reducible exact nm_whole | with_reducible exact nm_number_from_text | with_reducible exact nm_TokenInfo | with_reducible exact nm_end_of_figures | with_reducible exact nm_end_of_number | with_reducible exact nm_tokenizer | with_reducible exact nm__power | with_reducible exact nm__divided | with_reducible exact nm__plus | with_reducible exact nm__minus | with_reducible exact nm__UNARY_OPERATOR_MAP | with_reducible exact nm__BINARY_OPERATOR_MAP | with_reducible exact nm__OP_PRIORITY | with_reducible exact nm_EvalTreeNode | with_reducible exact nm__build_eval_tree | with_reducible exact nm_build_eval_tree | with_reducible exact nm__law_cell | with_reducible exact nm__law_tree | with_reducible exact nm__law_bind | with_reducible exact nm__law_is_bare | with_reducible exact nm__law_text | with_reducible exact nm__law_within | with_reducible exact nm__law_told | with_reducible exact nm__law_value | with_reducible exact nm__law_number | with_reducible exact nm__law_is_refused)
local macro_rules | `(tactic| walk_at "mem") => `(tactic| repeat (first | with_reducible exact LMem.head | with_reducible apply LMem.tail))
local macro_rules | `(tactic| walk_at "put") => `(tactic| first
  | with_reducible exact PutR.nil
  | ((with_reducible refine' PutR.pass ?pn ?pr); (case pn => decide); (case pr => walk_at "put"))
  | ((with_reducible refine' PutR.drop ?pr); (case pr => walk_at "put")))
local macro_rules | `(tactic| walk_at "sub") => `(tactic| repeat (first
  | with_reducible exact LSub.nil
  | ((with_reducible refine' LSub.cons ?lm ?_); (case lm => walk_at "mem"))))
local macro_rules | `(tactic| walk_at "go") => `(tactic| repeat (first
  | with_reducible refine' ev_int ?_
  | with_reducible refine' ev_str ?_
  | ((with_reducible refine' ev_var ?hm ?hl ?hd ?_); (case hm => walk_at "mem"); (case hl => rfl); (case hd => decide))
  | ((with_reducible refine' ev_built ?hO ?hv ?he ?hn ?hl ?hd ?_); (case hO => assumption); (case hv => boot_by_name); (case he => kernel_rfl); (case hn => decide); (case hl => rfl); (case hd => decide))
  | ((with_reducible refine' ev_topS ?hO ?he ?hl ?hd ?_); (case he => first | with_reducible exact nm_ENDMARKER | with_reducible exact nm_NAME | with_reducible exact nm_NUMBER | with_reducible exact nm_OP); (case hO => assumption); (case hl => rfl); (case hd => decide))
  | ((with_reducible refine' ev_topI ?hO ?he ?hl ?hd ?_); (case he => with_reducible exact nm__MAX_RECURSION_DEPTH); (case hO => assumption); (case hl => rfl); (case hd => decide))
  | ((with_reducible refine' ev_top ?hO ?he ?hl ?hd ?_); (case hO => assumption); (case he => walk_at "nm"); (case hl => rfl); (case hd => decide))
  | ((with_reducible refine' ev_cel ?hl ?hd ?hc ?hm ?_); (case hl => rfl); (case hd => decide); (case hc => exact rfl); (case hm => exact List.Mem.head _))
  | ((with_reducible refine' And.intro ?hk ?_); (case hk => first | with_reducible exact kp_bi | with_reducible exact kp_ty | ((with_reducible refine' kp_fn ?_); kernel_rfl)))
  | with_reducible refine' evs_nil ?_
  | ((with_reducible refine' evs_more ?he ?_); (case he => intro _; rfl))
  | with_reducible refine' ev_bin ?_
  | with_reducible refine' ev_tup ?_
  | with_reducible refine' ev_lst ?_
  | ((with_reducible refine' And.intro ?hk ?_); (case hk => size_fits))
  | ((with_reducible refine' ev_mcl0 ?hO ?he ?hp ?_); (case hO => assumption); (case he => intro _; exact ⟨_, rfl⟩); (case hp => rfl))
  | ((with_reducible refine' ev_cl0 ?hO ?he ?hp ?_); (case hO => assumption); (case he => intro _; rfl); (case hp => rfl))
  | with_reducible refine' ev_sub ?_
  | ((with_reducible refine' ev_compare ?hm ?_); (case hm => with_unfolding_all rfl))
  | with_reducible refine' ev_attr ?_
  | with_reducible refine' ev_none ?_
  | with_reducible refine' ev_bool ?_
  | with_reducible refine' ev_un ?_
  | with_reducible refine' ev_ife ?_
  | ((with_reducible refine' ev_mcl ?hO ?he ?hp ?hk ?_); (case hO => assumption); (case he => intro _; exact ⟨_, rfl⟩); (case hp => rfl); (case hk => rfl))
  | ((with_reducible refine' ev_cl ?hO ?he ?hp ?hk ?_); (case hO => assumption); (case he => intro _; rfl); (case hp => rfl); (case hk => rfl))
  | with_reducible refine' evk_nil ?_
  | with_reducible refine' evk_cons ?_
  | with_reducible refine' ex_ret ?_
  | ((with_reducible refine' ex_asg ?hl ?hs ?_); (case hl => rfl); (case hs => intro _; rfl))
  | ((with_reducible refine' ex_swap2 ?hs ?hw ?hx ?hy ?_); (case hs => intro _; rfl); (case hw => intro _; rfl); (case hx => rfl); (case hy => rfl))
  | ((with_reducible refine' ex_tup2 ?hs ?hw ?hx ?hy ?_); (case hs => intro _; rfl); (case hw => intro _; rfl); (case hx => rfl); (case hy => rfl))
  | ((with_reducible refine' ex_aug ?hm ?hl ?_); (case hm => walk_at "mem"); (case hl => rfl))
  | ((with_reducible refine' Exists.intro _ (And.intro (?hp : PutR _ _ _ _) ?_)); (case hp => walk_at "put"))
  | with_reducible refine' Exists.intro _ (Exists.intro _ (And.intro rfl ?_))
  | with_reducible refine' Exists.intro _ (And.intro rfl ?_)
  | with_reducible refine' ex_if ?_
  | with_reducible refine' ex_nil ?_
  | with_reducible refine' ex_cont ?_
  | with_reducible refine' ex_pass ?_
  | with_reducible refine' ex_assert ?_
  | with_reducible refine' sq_next ?_
  | with_reducible refine' sq_ret ?_
  | with_reducible refine' sq_brk ?_
  | with_reducible refine' sq_cont ?_
  | with_reducible refine' retp ?_
  | with_reducible refine' loop_ret ?_
  | with_reducible refine' loop_brk ?_
  | with_reducible refine' retn ?_
  | with_reducible refine' ts_not ?_
  | with_reducible refine' ts_andN ?_
  | with_reducible refine' ts_orN ?_
  | with_reducible refine' ts_and ?_
  | with_reducible refine' ts_or ?_
  | ((with_reducible refine' ts_compare ?hm ?_); (case hm => with_unfolding_all rfl))
  | ((with_reducible refine' ts_val ?_ ?he); (case he => intro _ _; rfl))
  | with_reducible refine' d2_add ?_
  | with_reducible refine' d2_sub ?_
  | with_reducible refine' d2_iadd ?_
  | with_reducible refine' d1_neg ?_
  | with_reducible refine' d2_lt ?_
  | with_reducible refine' d2_gt ?_
  | with_reducible refine' d2_le ?_
  | with_reducible refine' d2_ge ?_
  | with_reducible refine' d2_eq ?_
  | with_reducible refine' d2_ne ?_
  | with_reducible refine' d2_seq ?_
  | with_reducible refine' d2_sne ?_
  | with_reducible refine' tr_bool ?_
  | with_reducible refine' tr_none ?_
  | with_reducible refine' tr_int ?_
  | with_reducible refine' cl_abs ?_
  | with_reducible refine' cl_int ?_
  | ((with_reducible refine' op_fdiv ?hO ?hb ?hd ?hg ?hc ?hh ?_); (case hO => assumption); (case hb => decide); (case hd => decide); (case hg => rfl); (case hc => rfl); (case hh => rfl))
  | ((with_reducible refine' op_headNum ?hs ?_); (case hs => intro _ _; exact ⟨_, rfl⟩))
  | ((with_reducible refine' op_headNeg ?hs ?_); (case hs => intro _ _; exact ⟨_, rfl⟩))
  | ((with_reducible refine' op_headBin ?hs ?_); (case hs => intro _ _; exact ⟨_, rfl⟩))
  | ((with_reducible refine' op_head ?hs ?_); (case hs => intro _ _; exact ⟨_, rfl⟩))
  | ((with_reducible refine' op_num1 ?hs ?_); (case hs => intro _ _; exact ⟨_, rfl⟩))
  | ((with_reducible refine' op_neg1 ?hs ?_); (case hs => intro _ _; exact ⟨_, rfl⟩))
  | ((with_reducible refine' op_bin1 ?hs ?_); (case hs => intro _ _; exact ⟨_, rfl⟩))
  | ((with_reducible refine' op_bin2 ?hs ?_); (case hs => intro _ _; exact ⟨_, rfl⟩))
  | ((with_reducible refine' if_t ?hc ?_); (case hc => decide))
  | ((with_reducible refine' if_f ?hc ?_); (case hc => decide))
  | with_reducible refine' ev_slcTo ?_
  | with_reducible refine' ev_slcFrom ?_
  | with_reducible refine' ev_slcBoth ?_
  ))
theorem gcd_fmod (x y : Int) : Int.gcd y (x.fmod y) = Int.gcd x y := by
  have h : x.fmod y = x - y * x.fdiv y := by have := Int.mul_fdiv_add_fmod x y; omega
  rw [h, Int.gcd_comm x y]
  rw [Int.mul_comm]; exact Int.gcd_sub_mul_right_right ..
theorem fmod_lt (x y : Int) (h : y ≠ 0) : (x.fmod y).natAbs < y.natAbs := by
  rcases Int.lt_or_gt_of_ne h with h | h
  · have e : x.fmod y = -((-x).fmod (-y)) := by rw [Int.neg_fmod_neg]; omega
    have h1 := Int.fmod_nonneg_of_pos (-x) (b := -y) (by omega)
    have h2 := Int.fmod_lt_of_pos (-x) (b := -y) (by omega)
    omega
  · have h1 := Int.fmod_nonneg_of_pos x h
    have h2 := Int.fmod_lt_of_pos x h
    omega
section
variable {w : World} {loose : List Str} {mean : ExcName → Option Value} {mg mb : Str → Option Value} {base : Heap}
theorem divisor_spec (O : (GG w loose mean mg mb base).Ok) {a b : Int} : Fn (GG w loose mean mg mb base) 1 (.ref 79) [.int a, .int b] [] (fun p => p = .int (Int.gcd a b)) none := by
  refine fn_intro O (ps := [("one", .int a), ("two", .int b)]) (by rfl) (by kernel_rfl) (bnds2 fun _ _ => by rfl) ?_ (by rfl) (of_decide_eq_true (by kernel_rfl)) (by rfl) rfl rfl rfl
  refine ex_while (fun t : Int × Int => [("one", .int t.1), ("two", .int t.2)]) (fun t => Int.gcd t.1 t.2 = Int.gcd a b) (fun t => t.2.natAbs) (a, b) rfl (fun q hq => hq) rfl ?_
  rintro ⟨x, y⟩ hW
  walk_at "go"
  apply if_b
  · intro c
    have hy : y ≠ 0 := by simpa using c
    walk_at "go"
    apply op_mod hy
    walk_at "go"
    refine loop_next (y, x.fmod y) ((gcd_fmod x y).trans hW) (fmod_lt x y hy) ?_
    walk_at "sub"
  · intro c
    have hy : y = 0 := by simpa using c
    walk_at "go"
    subst hy
    congr 1
    have : Int.gcd x 0 = Int.gcd a b := hW
    rw [← this, Int.gcd_zero_right]
    show (if x < 0 then -x else x) = _
    split <;> omega
end
end
end Mine

namespace Mine
open PySem PySem.W PySem.Calls PyProof.Rows
section
local macro_rules | `(tactic| walk_at "nm") => `(tactic| first | with_reducible exact nm_add | with_reducible exact nm_mul | with_reducible exact nm_pow_operator | with_reducible exact nm_sub | with_reducible exact nm_truediv | with_reducible exact nm_DefinitionSyntaxError | with_reducible exact nm_common_divisor | with_reducible exact nm_Quotient | with_reducible exact nm_whole | with_reducible exact nm_number_from_text | with_reducible exact nm_TokenInfo | with_reducible exact nm_end_of_figures | with_reducible exact nm_end_of_number | with_reducible exact nm_tokenizer | with_reducible exact nm__power | with_reducible exact nm__divided | with_reducible exact nm__plus | with_reducible exact nm__minus | with_reducible exact nm__UNARY_OPERATOR_MAP | with_reducible exact nm__BINARY_OPERATOR_MAP | with_reducible exact nm__OP_PRIORITY | with_reducible exact nm_EvalTreeNode | with_reducible exact nm__build_eval_tree | with_reducible exact nm_build_eval_tree | with_reducible exact nm__law_cell | with_reducible exact nm__law_tree | with_reducible exact nm__law_bind | with_reducible exact nm__law_is_bare | with_reducible exact nm__law_text | with_reducible exact nm__law_within | with_reducible exact nm__law_told | with_reducible exact nm__law_value | with_reducible exact nm__law_number | with_reducible exact nm__law_is_refused)
local macro_rules | `(tactic| walk_at "mem") => `(tactic| repeat (first | with_reducible exact LMem.head | with_reducible apply LMem.tail))
local macro_rules | `(tactic| walk_at "put") => `(tactic| first
  | with_reducible exact PutR.nil
  | ((with_reducible refine' PutR.pass ?pn ?pr); (case pn => decide); (case pr => walk_at "put"))
  | ((with_reducible refine' PutR.drop ?pr); (case pr => walk_at "put")))
local macro_rules | `(tactic| walk_at "sub") => `(tactic| repeat (first
  | with_reducible exact LSub.nil
  | ((with_reducible refine' LSub.cons ?lm ?_); (case lm => walk_at "mem"))))
local macro_rules | `(tactic| walk_at "go") => `(tactic| repeat (first
  | with_reducible refine' ev_int ?_
  | with_reducible refine' ev_str ?_
  | ((with_reducible refine' ev_var ?hm ?hl ?hd ?_); (case hm => walk_at "mem"); (case hl => rfl); (case hd => decide))
  | ((with_reducible refine' ev_built ?hO ?hv ?he ?hn ?hl ?hd ?_); (case hO => assumption); (case hv => boot_by_name); (case he => kernel_rfl); (case hn => decide); (case hl => rfl); (case hd => decide))
  | ((with_reducible refine' ev_topS ?hO ?he ?hl ?hd ?_); (case he => first | with_reducible exact nm_ENDMARKER | with_reducible exact nm_NAME | with_reducible exact nm_NUMBER | with_reducible exact nm_OP); (case hO => assumption); (case hl => rfl); (case hd => decide))
  | ((with_reducible refine' ev_topI ?hO ?he ?hl ?hd ?_); (case he => with_reducible exact nm__MAX_RECURSION_DEPTH); (case hO => assumption); (case hl => rfl); (case hd => decide))
  | ((with_reducible refine' ev_top ?hO ?he ?hl ?hd ?_); (case hO => assumption); (case he => walk_at "nm"); (case hl => rfl); (case hd => decide))
  | ((with_reducible refine' ev_cel ?hl ?hd ?hc ?hm ?_); (case hl => rfl); (case hd => decide); (case hc => exact rfl); (case hm => exact List.Mem.head _))
  | ((with_reducible refine' And.intro ?hk ?_); (case hk => first | with_reducible exact kp_bi | with_reducible exact kp_ty | ((with_reducible refine' kp_fn ?_); kernel_rfl)))
  | with_reducible refine' evs_nil ?_
  | ((with_reducible refine' evs_more ?he ?_); (case he => intro _; rfl))
  | with_reducible refine' ev_bin ?_
  | with_reducible refine' ev_tup ?_
  | with_reducible refine' ev_lst ?_
  | ((with_reducible refine' And.intro ?hk ?_); (case hk => size_fits))
  | ((with_reducible refine' ev_mcl0 ?hO ?he ?hp ?_); (case hO => assumption); (case he => intro _; exact ⟨_, rfl⟩); (case hp => rfl))
  | ((with_reducible refine' ev_cl0 ?hO ?he ?hp ?_); (case hO => assumption); (case he => intro _; rfl); (case hp => rfl))
  | with_reducible refine' ev_sub ?_
  | ((with_reducible refine' ev_compare ?hm ?_); (case hm => with_unfolding_all rfl))
  | with_reducible refine' ev_attr ?_
  | with_reducible refine' ev_none ?_
  | with_reducible refine' ev_bool ?_
  | with_reducible refine' ev_un ?_
  | with_reducible refine' ev_ife ?_
  | ((with_reducible refine' ev_mcl ?hO ?he ?hp ?hk ?_); (case hO => assumption); (case he => intro _; exact ⟨_, rfl⟩); (case hp => rfl); (case hk => rfl))
  | ((with_reducible refine' ev_cl ?hO ?he ?hp ?hk ?_); (case hO => assumption); (case he => intro _; rfl); (case hp => rfl); (case hk => rfl))
  | with_reducible refine' evk_nil ?_
  | with_reducible refine' evk_cons ?_
  | with_reducible refine' ex_ret ?_
  | ((with_reducible refine' ex_asg ?hl ?hs ?_); (case hl => rfl); (case hs => intro _; rfl))
  | ((with_reducible refine' ex_swap2 ?hs ?hw ?hx ?hy ?_); (case hs => intro _; rfl); (case hw => intro _; rfl); (case hx => rfl); (case hy => rfl))
  | ((with_reducible refine' ex_tup2 ?hs ?hw ?hx ?hy ?_); (case hs => intro _; rfl); (case hw => intro _; rfl); (case hx => rfl); (case hy => rfl))
  | ((with_reducible refine' ex_aug ?hm ?hl ?_); (case hm => walk_at "mem"); (case hl => rfl))
  | ((with_reducible refine' Exists.intro _ (And.intro (?hp : PutR _ _ _ _) ?_)); (case hp => walk_at "put"))
  | with_reducible refine' Exists.intro _ (Exists.intro _ (And.intro rfl ?_))
  | with_reducible refine' Exists.intro _ (And.intro rfl ?_)
  | with_reducible refine' ex_if ?_
  | with_reducible refine' ex_nil ?_
  | with_reducible refine' ex_cont ?_
  | with_reducible refine' ex_pass ?_
  | with_reducible refine' ex_assert ?_
  | with_reducible refine' sq_next ?_
  | with_reducible refine' sq_ret ?_
  | with_reducible refine' sq_brk ?_
  | with_reducible refine' sq_cont ?_
  | with_reducible refine' retp ?_
  | with_reducible refine' loop_ret ?_
  | with_reducible refine' loop_brk ?_
  | with_reducible refine' retn ?_
  | with_reducible refine' ts_not ?_
  | with_reducible refine' ts_andN ?_
  | with_reducible refine' ts_orN ?_
  | with_reducible refine' ts_and ?_
  | with_reducible refine' ts_or ?_
  | ((with_reducible refine' ts_compare ?hm ?_); (case hm => with_unfolding_all rfl))
  | ((with_reducible refine' ts_val ?_ ?he); (case he => intro _ _; rfl))
  | with_reducible refine' d2_add ?_
  | with_reducible refine' d2_sub ?_
  | with_reducible refine' d2_iadd ?_
  | with_reducible refine' d1_neg ?_
  | with_reducible refine' d2_lt ?_
  | with_reducible refine' d2_gt ?_
  | with_reducible refine' d2_le ?_
  | with_reducible refine' d2_ge ?_
  | with_reducible refine' d2_eq ?_
  | with_reducible refine' d2_ne ?_
  | with_reducible refine' d2_seq ?_
  | with_reducible refine' d2_sne ?_
  | with_reducible refine' tr_bool ?_
  | with_reducible refine' tr_none ?_
  | with_reducible refine' tr_int ?_
  | with_reducible refine' cl_abs ?_
  | with_reducible refine' cl_int ?_
  | ((with_reducible refine' op_fdiv ?hO ?hb ?hd ?hg ?hc ?hh ?_); (case hO => assumption); (case hb => decide); (case hd => decide); (case hg => rfl); (case hc => rfl); (case hh => rfl))
  | ((with_reducible refine' op_headNum ?hs ?_); (case hs => intro _ _; exact ⟨_, rfl⟩))
  | ((with_reducible refine' op_headNeg ?hs ?_); (case hs => intro _ _; exact ⟨_, rfl⟩))
  | ((with_reducible refine' op_headBin ?hs ?_); (case hs => intro _ _; exact ⟨_, rfl⟩))
  | ((with_reducible refine' op_head ?hs ?_); (case hs => intro _ _; exact ⟨_, rfl⟩))
  | ((with_reducible refine' op_num1 ?hs ?_); (case hs => intro _ _; exact ⟨_, rfl⟩))
  | ((with_reducible refine' op_neg1 ?hs ?_); (case hs => intro _ _; exact ⟨_, rfl⟩))
  | ((with_reducible refine' op_bin1 ?hs ?_); (case hs => intro _ _; exact ⟨_, rfl⟩))
  | ((with_reducible refine' op_bin2 ?hs ?_); (case hs => intro _ _; exact ⟨_, rfl⟩))
  | ((with_reducible refine' if_t ?hc ?_); (case hc => decide))
  | ((with_reducible refine' if_f ?hc ?_); (case hc => decide))
  | with_reducible refine' ev_slcTo ?_
  | with_reducible refine' ev_slcFrom ?_
  | with_reducible refine' ev_slcBoth ?_
  ))
section
variable {w : World} {loose : List Str} {mean : ExcName → Option Value} {mg mb : Str → Option Value} {base : Heap}
def cscope : Scope := { kind := .function, names := [(".0", .local), ("at", .local), ("_law_cell", .globalImplicit), ("script", .cell)], isGenerator := false, isCoroutine := false }
theorem nums_trees (n : Nat) : ∀ qs : List PV, qs.length = n → (∀ (i : Nat) q, qs[i]? = some q → ∃ k : Nat, k ≤ 9 ∧ q = .tup [.str "num", .int (k : Int)]) → ∃ ts : List T, qs = ts.map T.enc ∧ ts.length = n ∧ (∀ t ∈ ts, t.wf) ∧ sumBy T.leaves ts = n ∧ sumBy T.size ts = n := by
  induction n with
  | zero => intro qs h _; obtain rfl := List.length_eq_zero_iff.mp h; exact ⟨[], rfl, rfl, (fun t ht => nomatch ht), rfl, rfl⟩
  | succ n ih =>
    intro qs h hq
    cases qs with
    | nil => cases h
    | cons q r =>
      obtain ⟨k, hk, rfl⟩ := hq 0 q rfl
      obtain ⟨ts, rfl, h1, h2, h3, h4⟩ := ih r (by simpa using h) (fun i q e => hq (i + 1) q (by simpa using e))
      refine ⟨.num k :: ts, rfl, by simp [h1], ?_, by simp [sumBy, T.leaves, h3]; omega, by simp [sumBy, T.size, h4]; omega⟩
      intro t ht
      rcases List.mem_cons.mp ht with rfl | ht
      · exact hk
      · exact h2 t ht
theorem word_at (j : Nat) (hj : j < 8) : ∃ w : Str, ([.str "+", .str "-", .str "*", .str "/", .str "", .str "**", .str "-", .str "neg"] : List PV)[j]? = some (.str w) ∧ (w = "neg" ∨ w = "**" ∨ ((w == "neg") = false ∧ (w == "**") = false ∧ ∃ o : Op, o ≠ .pow ∧ w = o.word)) := by
  have : j = 0 ∨ j = 1 ∨ j = 2 ∨ j = 3 ∨ j = 4 ∨ j = 5 ∨ j = 6 ∨ j = 7 := by omega
  rcases this with rfl | rfl | rfl | rfl | rfl | rfl | rfl | rfl
  · exact ⟨_, rfl, .inr (.inr ⟨by decide, by decide, .add, by decide, rfl⟩)⟩
  · exact ⟨_, rfl, .inr (.inr ⟨by decide, by decide, .sub, by decide, rfl⟩)⟩
  · exact ⟨_, rfl, .inr (.inr ⟨by decide, by decide, .mul, by decide, rfl⟩)⟩
  · exact ⟨_, rfl, .inr (.inr ⟨by decide, by decide, .div, by decide, rfl⟩)⟩
  · exact ⟨_, rfl, .inr (.inr ⟨by decide, by decide, .jux, by decide, rfl⟩)⟩
  · exact ⟨_, rfl, .inr (.inl rfl)⟩
  · exact ⟨_, rfl, .inr (.inr ⟨by decide, by decide, .sub, by decide, rfl⟩)⟩
  · exact ⟨_, rfl, .inl rfl⟩
theorem tree_spec (O : (GG w loose mean mg mb base).Ok) {ns : List Int} (hl : ns.length < 2 ^ 59) : Fn (GG w loose mean mg mb base) 121 (.ref 386) [.lst (ns.map PV.int)] [] (fun p => ∃ t : T, t.wf ∧ t.leaves ≤ 7 ∧ t.size ≤ 19 ∧ p = t.enc) none := by
  refine fn_intro_cell O (x := "script") (by rfl) (by kernel_rfl) (fun _ => by rfl) (fun c => ?_) (by rfl) (fun _ => by rfl) rfl rfl rfl
  refine ex_asgcomp (sc := cscope) (cl := [("script", c, .lst (ns.map PV.int))]) rfl (fun _ => by rfl) (fun _ => by rfl) (fun _ => by rfl) (fun _ h => h) (by decide) rfl rfl (by decide) (by rfl) (by rfl) (fun _ _ => by rfl) ?_
  walk_at "go"
  refine cl_use0 (cell_spec O (by decide) (by decide) (by omega)) (by decide) ?_
  rintro _ ⟨r, _, rfl⟩
  walk_at "go"
  refine op_modN (by decide) fun n0 _ hn0 => ?_
  walk_at "go"
  refine op_rangeI (by omega) fun n hn => ?_
  have hn7 : n ≤ 7 := by omega
  walk_at "go"
  refine ⟨_, itr_rng (by omega), by simp [sizeLine]; omega, fun _ q => ∃ k : Nat, k ≤ 9 ∧ q = .tup [.str "num", .int (k : Int)], ?_, ?_⟩
  · intro i q own' L hq
    obtain ⟨hi, rfl⟩ : i < n ∧ q = .int (i : Int) := by
      rw [List.getElem?_map] at hq
      cases h : (List.range n)[i]? with
      | none => rw [h] at hq; cases hq
      | some j =>
        rw [h] at hq
        obtain ⟨h1, h2⟩ := List.getElem?_eq_some_iff.mp h
        simp at h1 h2
        subst h2
        exact ⟨h1, by simpa using hq.symm⟩
    walk_at "go"
    refine op_mul (.of_left (intBits_le_64 (by decide) (by decide))) ?_
    walk_at "go"
    refine cl_use0 (cell_spec O (by omega) (by omega) (by omega)) (by decide) ?_
    rintro _ ⟨r, _, rfl⟩
    walk_at "go"
    refine op_modN (by decide) fun k _ hk => ?_
    walk_at "go"
    exact ⟨k + 1, by omega, by simp⟩
  intro qs hqs hP
  obtain ⟨ts, rfl, h1, h2, h3, h4⟩ := nums_trees n qs (by simpa using hqs) hP
  refine ⟨[("some", .lst (ts.map T.enc))], ?_, ?_⟩
  · exact PutR.nil
  walk_at "go"
  refine ex_while (fun t : List T × Nat => [("some", .lst (t.1.map T.enc)), ("at", .int (t.2 : Int))])
    (fun t => 1 ≤ t.1.length ∧ t.1.length + t.2 ≤ 7 ∧ (∀ u ∈ t.1, u.wf) ∧ sumBy T.leaves t.1 ≤ 7 ∧ sumBy T.size t.1 + 2 * t.1.length ≤ 21) (fun t => t.1.length) (ts, 0) ⟨by show 1 ≤ ts.length; omega, by show ts.length + 0 ≤ 7; omega, h2, by show sumBy T.leaves ts ≤ 7; omega, by show sumBy T.size ts + 2 * ts.length ≤ 21; omega⟩ ?_ rfl ?_
  · exact LSub.all (.cons .head (.cons (.tail .head) .nil))
  rintro ⟨us, k⟩ ⟨w1, w2, w3, w4, w5⟩
  dsimp only at w1 w2 w3 w4 w5
  have hus : (us.map T.enc).length = us.length := by simp
  walk_at "go"
  refine op_lenL (by rw [hus]; omega) ?_
  rw [hus]
  walk_at "go"
  apply if_b
  · intro c1
    have hc : 1 < us.length := by have := of_decide_eq_true c1; omega
    walk_at "go"
    refine op_mul (.of_left (intBits_le_64 (by decide) (by decide))) ?_
    walk_at "go"
    refine cl_use0 (cell_spec O (by omega) (by omega) (by omega)) (by decide) ?_
    rintro _ ⟨told, _, rfl⟩
    walk_at "go"
    refine op_lenL (by rw [hus]; omega) ?_
    rw [hus]
    walk_at "go"
    refine op_modN (by omega) fun sp _ hsp => ?_
    have hsp' : sp + 1 < us.length := by omega
    walk_at "go"
    refine op_modN (by decide) fun j _ hj => ?_
    obtain ⟨wd, hw, hw'⟩ := word_at j (by omega)
    refine op_at (by intro _ _; exact ⟨_, rfl⟩) (by omega) hw ?_
    walk_at "go"
    have z1 : (us.map T.enc)[sp]? = some (us[sp]'(by omega)).enc := by simp [List.getElem?_eq_getElem (show sp < us.length by omega)]
    have z2 : (us.map T.enc)[sp + 1]? = some (us[sp+1]'hsp').enc := by simp [List.getElem?_eq_getElem hsp']
    have f1 : (us[sp]'(by omega)).wf := w3 _ (List.getElem_mem _)
    have f2 : (us[sp+1]'hsp').wf := w3 _ (List.getElem_mem _)
    have hsz : (us.map T.enc).length ≤ sizeLine := by rw [hus]; simp [sizeLine]; omega
    have e2 : ((sp : Int) + 2) = ((sp + 2 : Nat) : Int) := by omega
    have hc1 : ∀ p : PV, ((us.map T.enc).take sp).length + [p].length ≤ sizeLine := by intro p; simp [sizeLine]; omega
    have hc2 : ∀ p : PV, ((us.map T.enc).take sp ++ [p]).length + ((us.map T.enc).drop (sp + 2)).length ≤ sizeLine := by intro p; simp [sizeLine]; omega
    have ka : ((k : Int) + 1) = ((k + 1 : Nat) : Int) := by omega
    rcases hw' with rfl | rfl | ⟨q1, q2, o, ho, rfl⟩
    · rw [if_pos (by decide)]
      walk_at "go"
      refine op_sliceL (by intro _ _; exact ⟨_, rfl⟩) hsz ?_
      rw [pv_to]
      walk_at "go"
      refine op_at (by intro _ _; exact ⟨_, rfl⟩) (by omega) z1 ?_
      walk_at "go"
      refine op_atI (sp + 1) (by intro _ _; exact ⟨_, rfl⟩) (by omega) (by omega) z2 ?_
      walk_at "go"
      refine op_cat (hc1 _) ?_
      walk_at "go"
      rw [e2]
      refine op_sliceL (by intro _ _; exact ⟨_, rfl⟩) hsz ?_
      rw [pv_from]
      refine op_cat (hc2 _) ?_
      rw [show (PV.tup [.str "*", .tup [.str "neg", (us[sp]'(by omega)).enc], (us[sp+1]'hsp').enc]) = (T.bin .mul (.neg (us[sp]'(by omega))) (us[sp+1]'hsp')).enc from rfl, enc_join]
      walk_at "go"
      obtain ⟨jo, jl⟩ := join_ok (k := k) (n := T.bin .mul (.neg (us[sp]'(by omega))) (us[sp+1]'hsp')) w1 w2 w3 w4 w5 hsp' ⟨f1, f2⟩ (Nat.le_refl _) (by simp [T.size]; omega)
      rw [ka]
      refine loop_next (_, k + 1) jo jl ?_
      walk_at "sub"
    · rw [if_neg (by decide)]
      walk_at "go"
      walk_at "go"
      refine op_sliceL (by intro _ _; exact ⟨_, rfl⟩) hsz ?_
      rw [pv_to]
      walk_at "go"
      refine op_at (by intro _ _; exact ⟨_, rfl⟩) (by omega) z1 ?_
      walk_at "go"
      refine op_modN (by decide) fun e _ he => ?_
      walk_at "go"
      refine op_cat (hc1 _) ?_
      walk_at "go"
      rw [e2]
      refine op_sliceL (by intro _ _; exact ⟨_, rfl⟩) hsz ?_
      rw [pv_from]
      refine op_cat (hc2 _) ?_
      rw [show (PV.tup [.str "**", (us[sp]'(by omega)).enc, .tup [.str "num", .int (e : Int)]]) = (T.bin .pow (us[sp]'(by omega)) (.num e)).enc from rfl, enc_join]
      walk_at "go"
      have p1 : 1 ≤ (us[sp+1]'hsp').leaves := T.leaves_pos _
      have p2 : 1 ≤ (us[sp+1]'hsp').size := T.size_pos _
      obtain ⟨jo, jl⟩ := join_ok (k := k) (n := T.bin .pow (us[sp]'(by omega)) (.num e)) w1 w2 w3 w4 w5 hsp' ⟨f1, e, by omega, rfl⟩ (by simp only [T.leaves]; omega) (by simp only [T.size]; omega)
      rw [ka]
      refine loop_next (_, k + 1) jo jl ?_
      walk_at "sub"
    · rw [if_neg (by rw [q1]; decide)]
      walk_at "go"
      rw [if_neg (by rw [q2]; decide)]
      walk_at "go"
      refine op_sliceL (by intro _ _; exact ⟨_, rfl⟩) hsz ?_
      rw [pv_to]
      walk_at "go"
      refine op_at (by intro _ _; exact ⟨_, rfl⟩) (by omega) z1 ?_
      walk_at "go"
      refine op_atI (sp + 1) (by intro _ _; exact ⟨_, rfl⟩) (by omega) (by omega) z2 ?_
      walk_at "go"
      refine op_cat (hc1 _) ?_
      walk_at "go"
      rw [e2]
      refine op_sliceL (by intro _ _; exact ⟨_, rfl⟩) hsz ?_
      rw [pv_from]
      refine op_cat (hc2 _) ?_
      rw [show (PV.tup [.str o.word, (us[sp]'(by omega)).enc, (us[sp+1]'hsp').enc]) = (T.bin o (us[sp]'(by omega)) (us[sp+1]'hsp')).enc from rfl, enc_join]
      walk_at "go"
      have hwf : (T.bin o (us[sp]'(by omega)) (us[sp+1]'hsp')).wf := by cases o <;> first | exact ⟨f1, f2⟩ | exact absurd rfl ho
      obtain ⟨jo, jl⟩ := join_ok (k := k) (n := T.bin o (us[sp]'(by omega)) (us[sp+1]'hsp')) w1 w2 w3 w4 w5 hsp' hwf (Nat.le_refl _) (by simp only [T.size]; omega)
      rw [ka]
      refine loop_next (_, k + 1) jo jl ?_
      walk_at "sub"
  · intro c1
    have hc : us.length = 1 := by have := of_decide_eq_false c1; omega
    obtain ⟨u, rfl⟩ : ∃ u, us = [u] := by match us, hc with | [u], _ => exact ⟨u, rfl⟩
    walk_at "go"
    refine op_at (k := 0) (by intro _ _; exact ⟨_, rfl⟩) (by decide) rfl ?_
    walk_at "go"
    exact ⟨u, w3 u (.head _), by simpa [sumBy] using w4, by simp [sumBy] at w5; omega, rfl⟩
end
end
end Mine

namespace Mine
open PySem PySem.W PySem.Calls PyProof.Rows
section
local macro_rules | `(tactic| walk_at "nm") => `(tactic| first | with_reducible exact nm_add | with_reducible exact nm_mul | with_reducible exact nm_pow_operator | with_reducible exact nm_sub | with_reducible exact nm_truediv | with_reducible exact nm_DefinitionSyntaxError | with_reducible exact nm_common_divisor | with_reducible exact nm_Quotient | with_reducible exact nm_whole | with_reducible exact nm_number_from_text | with_reducible exact nm_TokenInfo | with_reducible exact nm_end_of_figures | with_reducible exact nm_end_of_number | with_reducible exact nm_tokenizer | with_reducible exact nm__power | with_reducible exact nm__divided | with_reducible exact nm__plus | with_reducible exact nm__minus | with_reducible exact nm__UNARY_OPERATOR_MAP | with_reducible exact nm__BINARY_OPERATOR_MAP | with_reducible exact nm__OP_PRIORITY | with_reducible exact nm_EvalTreeNode | with_reducible exact nm__build_eval_tree | with_reducible exact nm_build_eval_tree | with_reducible exact nm__law_cell | with_reducible exact nm__law_tree | with_reducible exact nm__law_bind | with_reducible exact nm__law_is_bare | with_reducible exact nm__law_text | with_reducible exact nm__law_within | with_reducible exact nm__law_told | with_reducible exact nm__law_value | with_reducible exact nm__law_number | with_reducible exact nm__law_is_refused)
local macro_rules | `(tactic| walk_at "mem") => `(tactic| repeat (first | with_reducible exact LMem.head | with_reducible apply LMem.tail))
local macro_rules | `(tactic| walk_at "put") => `(tactic| first
  | with_reducible exact PutR.nil
  | ((with_reducible refine' PutR.pass ?pn ?pr); (case pn => decide); (case pr => walk_at "put"))
  | ((with_reducible refine' PutR.drop ?pr); (case pr => walk_at "put")))
local macro_rules | `(tactic| walk_at "sub") => `(tactic| repeat (first
  | with_reducible exact LSub.nil
  | ((with_reducible refine' LSub.cons ?lm ?_); (case lm => walk_at "mem"))))
local macro_rules | `(tactic| walk_at "go") => `(tactic| repeat (first
  | with_reducible refine' ev_int ?_
  | with_reducible refine' ev_str ?_
  | ((with_reducible refine' ev_var ?hm ?hl ?hd ?_); (case hm => walk_at "mem"); (case hl => rfl); (case hd => decide))
  | ((with_reducible refine' ev_built ?hO ?hv ?he ?hn ?hl ?hd ?_); (case hO => assumption); (case hv => boot_by_name); (case he => kernel_rfl); (case hn => decide); (case hl => rfl); (case hd => decide))
  | ((with_reducible refine' ev_topS ?hO ?he ?hl ?hd ?_); (case he => first | with_reducible exact nm_ENDMARKER | with_reducible exact nm_NAME | with_reducible exact nm_NUMBER | with_reducible exact nm_OP); (case hO => assumption); (case hl => rfl); (case hd => decide))
  | ((with_reducible refine' ev_topI ?hO ?he ?hl ?hd ?_); (case he => with_reducible exact nm__MAX_RECURSION_DEPTH); (case hO => assumption); (case hl => rfl); (case hd => decide))
  | ((with_reducible refine' ev_top ?hO ?he ?hl ?hd ?_); (case hO => assumption); (case he => walk_at "nm"); (case hl => rfl); (case hd => decide))
  | ((with_reducible refine' ev_cel ?hl ?hd ?hc ?hm ?_); (case hl => rfl); (case hd => decide); (case hc => exact rfl); (case hm => exact List.Mem.head _))
  | ((with_reducible refine' And.intro ?hk ?_); (case hk => first | with_reducible exact kp_bi | with_reducible exact kp_ty | ((with_reducible refine' kp_fn ?_); kernel_rfl)))
  | with_reducible refine' evs_nil ?_
  | ((with_reducible refine' evs_more ?he ?_); (case he => intro _; rfl))
  | with_reducible refine' ev_bin ?_
  | with_reducible refine' ev_tup ?_
  | with_reducible refine' ev_lst ?_
  | ((with_reducible refine' And.intro ?hk ?_); (case hk => size_fits))
  | ((with_reducible refine' ev_mcl0 ?hO ?he ?hp ?_); (case hO => assumption); (case he => intro _; exact ⟨_, rfl⟩); (case hp => rfl))
  | ((with_reducible refine' ev_cl0 ?hO ?he ?hp ?_); (case hO => assumption); (case he => intro _; rfl); (case hp => rfl))
  | with_reducible refine' ev_sub ?_
  | ((with_reducible refine' ev_compare ?hm ?_); (case hm => with_unfolding_all rfl))
  | with_reducible refine' ev_attr ?_
  | with_reducible refine' ev_none ?_
  | with_reducible refine' ev_bool ?_
  | with_reducible refine' ev_un ?_
  | with_reducible refine' ev_ife ?_
  | ((with_reducible refine' ev_mcl ?hO ?he ?hp ?hk ?_); (case hO => assumption); (case he => intro _; exact ⟨_, rfl⟩); (case hp => rfl); (case hk => rfl))
  | ((with_reducible refine' ev_cl ?hO ?he ?hp ?hk ?_); (case hO => assumption); (case he => intro _; rfl); (case hp => rfl); (case hk => rfl))
  | with_reducible refine' evk_nil ?_
  | with_reducible refine' evk_cons ?_
  | with_reducible refine' ex_ret ?_
  | ((with_reducible refine' ex_asg ?hl ?hs ?_); (case hl => rfl); (case hs => intro _; rfl))
  | ((with_reducible refine' ex_swap2 ?hs ?hw ?hx ?hy ?_); (case hs => intro _; rfl); (case hw => intro _; rfl); (case hx => rfl); (case hy => rfl))
  | ((with_reducible refine' ex_tup2 ?hs ?hw ?hx ?hy ?_); (case hs => intro _; rfl); (case hw => intro _; rfl); (case hx => rfl); (case hy => rfl))
  | ((with_reducible refine' ex_aug ?hm ?hl ?_); (case hm => walk_at "mem"); (case hl => rfl))
  | ((with_reducible refine' Exists.intro _ (And.intro (?hp : PutR _ _ _ _) ?_)); (case hp => walk_at "put"))
  | with_reducible refine' Exists.intro _ (Exists.intro _ (And.intro rfl ?_))
  | with_reducible refine' Exists.intro _ (And.intro rfl ?_)
  | with_reducible refine' ex_if ?_
  | with_reducible refine' ex_nil ?_
  | with_reducible refine' ex_cont ?_
  | with_reducible refine' ex_pass ?_
  | with_reducible refine' ex_assert ?_
  | with_reducible refine' sq_next ?_
  | with_reducible refine' sq_ret ?_
  | with_reducible refine' sq_brk ?_
  | with_reducible refine' sq_cont ?_
  | with_reducible refine' retp ?_
  | with_reducible refine' loop_ret ?_
  | with_reducible refine' loop_brk ?_
  | with_reducible refine' retn ?_
  | with_reducible refine' ts_not ?_
  | with_reducible refine' ts_andN ?_
  | with_reducible refine' ts_orN ?_
  | with_reducible refine' ts_and ?_
  | with_reducible refine' ts_or ?_
  | ((with_reducible refine' ts_compare ?hm ?_); (case hm => with_unfolding_all rfl))
  | ((with_reducible refine' ts_val ?_ ?he); (case he => intro _ _; rfl))
  | with_reducible refine' d2_add ?_
  | with_reducible refine' d2_sub ?_
  | with_reducible refine' d2_iadd ?_
  | with_reducible refine' d1_neg ?_
  | with_reducible refine' d2_lt ?_
  | with_reducible refine' d2_gt ?_
  | with_reducible refine' d2_le ?_
  | with_reducible refine' d2_ge ?_
  | with_reducible refine' d2_eq ?_
  | with_reducible refine' d2_ne ?_
  | with_reducible refine' d2_seq ?_
  | with_reducible refine' d2_sne ?_
  | with_reducible refine' tr_bool ?_
  | with_reducible refine' tr_none ?_
  | with_reducible refine' tr_int ?_
  | with_reducible refine' cl_abs ?_
  | with_reducible refine' cl_int ?_
  | ((with_reducible refine' op_fdiv ?hO ?hb ?hd ?hg ?hc ?hh ?_); (case hO => assumption); (case hb => decide); (case hd => decide); (case hg => rfl); (case hc => rfl); (case hh => rfl))
  | ((with_reducible refine' op_headNum ?hs ?_); (case hs => intro _ _; exact ⟨_, rfl⟩))
  | ((with_reducible refine' op_headNeg ?hs ?_); (case hs => intro _ _; exact ⟨_, rfl⟩))
  | ((with_reducible refine' op_headBin ?hs ?_); (case hs => intro _ _; exact ⟨_, rfl⟩))
  | ((with_reducible refine' op_head ?hs ?_); (case hs => intro _ _; exact ⟨_, rfl⟩))
  | ((with_reducible refine' op_num1 ?hs ?_); (case hs => intro _ _; exact ⟨_, rfl⟩))
  | ((with_reducible refine' op_neg1 ?hs ?_); (case hs => intro _ _; exact ⟨_, rfl⟩))
  | ((with_reducible refine' op_bin1 ?hs ?_); (case hs => intro _ _; exact ⟨_, rfl⟩))
  | ((with_reducible refine' op_bin2 ?hs ?_); (case hs => intro _ _; exact ⟨_, rfl⟩))
  | ((with_reducible refine' if_t ?hc ?_); (case hc => decide))
  | ((with_reducible refine' if_f ?hc ?_); (case hc => decide))
  | with_reducible refine' ev_slcTo ?_
  | with_reducible refine' ev_slcFrom ?_
  | with_reducible refine' ev_slcBoth ?_
  ))
section
variable {w : World} {loose : List Str} {mean : ExcName → Option Value} {mg mb : Str → Option Value} {base : Heap}
def bindD : List (PyData × PyData) := [(.str "num", .int 9), (.str "neg", .int 2), (.str "**", .int 3), (.str "*", .int 1), (.str "/", .int 1), (.str "", .int 1), (.str "+", .int 0), (.str "-", .int 0)]
theorem bind_look (t : T) : Spec.lookup (.str t.head) bindD = some (.int (t.bind : Int)) := by
  cases t with
  | num k => rfl
  | neg a => rfl
  | bin o a b => cases o <;> rfl
theorem bind_spec (O : (GG w loose mean mg mb base).Ok) (t : T) : Fn (GG w loose mean mg mb base) 1 (.ref 393) [t.enc] [] (fun p => p = .int (t.bind : Int)) none := by
  refine fn_intro O (ps := [("tree", t.enc)]) (by rfl) (by kernel_rfl) (bnds1 fun _ => by rfl) ?_ (by rfl) (of_decide_eq_true (by kernel_rfl)) (by rfl) rfl rfl rfl
  refine ex_ret ?_
  with_reducible refine' ev_dictsub bindD ?c1 ?c2 ?c3 ?c4 ?c5 ?c6 ?c7 ?c8 ?_
  case c1 => rfl
  case c2 => rfl
  case c3 => exact of_decide_eq_true (by kernel_rfl)
  case c4 => rfl
  case c5 => rfl
  case c6 => intro h; cases h
  case c7 => decide
  case c8 => intro _ _; exact ⟨_, rfl⟩
  walk_at "go"
  exact ⟨_, bind_look t, rfl⟩

theorem num_head (b : T) : (b.head == ("num" : Str)) = b.isNum := by
  cases b with
  | num k => rfl
  | neg a => rfl
  | bin o x y => cases o <;> rfl
theorem bare_spec (O : (GG w loose mean mg mb base).Ok) (o : Op) (a b : T) : Fn (GG w loose mean mg mb base) 1 (.ref 400) [(T.bin o a b).enc] [] (fun p => p = .bool (T.bare (.bin o a b))) none := by
  refine fn_intro O (ps := [("tree", (T.bin o a b).enc)]) (by rfl) (by kernel_rfl) (bnds1 fun _ => by rfl) ?_ (by rfl) (of_decide_eq_true (by kernel_rfl)) (by rfl) rfl rfl rfl
  refine ex_ret (ev_and ?_)
  walk_at "go"
  apply if_b
  · intro c1
    obtain rfl : o = .jux := by cases o <;> first | rfl | exact absurd c1 (by decide)
    refine ev_and ?_
    walk_at "go"
    apply if_b
    · intro c2
      refine ev_one ?_
      walk_at "go"
      refine op_inS ["num", "*", "/", "", "neg", "**"] rfl ?_
      walk_at "go"
      rw [num_head] at c2
      show _ = PV.bool (b.isNum && _)
      rw [c2, Bool.true_and]
    · intro c2
      walk_at "go"
      rw [num_head] at c2
      show _ = PV.bool (b.isNum && _)
      rw [c2, num_head, c2, Bool.false_and]
  · intro c1
    walk_at "go"
    rw [c1]
    cases o <;> first | rfl | exact absurd c1 (by decide)
end
end
end Mine

namespace Mine
open PySem PySem.W PySem.Calls PyProof.Rows
section
local macro_rules | `(tactic| walk_at "nm") => `(tactic| first | with_reducible exact nm_add | with_reducible exact nm_mul | with_reducible exact nm_pow_operator | with_reducible exact nm_sub | with_reducible exact nm_truediv | with_reducible exact nm_DefinitionSyntaxError | with_reducible exact nm_common_divisor | with_reducible exact nm_Quotient | with_reducible exact nm_whole | with_reducible exact nm_number_from_text | with_reducible exact nm_TokenInfo | with_reducible exact nm_end_of_figures | with_reducible exact nm_end_of_number | with_reducible exact nm_tokenizer | with_reducible exact nm__power | with_reducible exact nm__divided | with_reducible exact nm__plus | with_reducible exact nm__minus | with_reducible exact nm__UNARY_OPERATOR_MAP | with_reducible exact nm__BINARY_OPERATOR_MAP | with_reducible exact nm__OP_PRIORITY | with_reducible exact nm_EvalTreeNode | with_reducible exact nm__build_eval_tree | with_reducible exact nm_build_eval_tree | with_reducible exact nm__law_cell | with_reducible exact nm__law_tree | with_reducible exact nm__law_bind | with_reducible exact nm__law_is_bare | with_reducible exact nm__law_text | with_reducible exact nm__law_within | with_reducible exact nm__law_told | with_reducible exact nm__law_value | with_reducible exact nm__law_number | with_reducible exact nm__law_is_refused)
local macro_rules | `(tactic| walk_at "mem") => `(tactic| repeat (first | with_reducible exact LMem.head | with_reducible apply LMem.tail))
local macro_rules | `(tactic| walk_at "put") => `(tactic| first
  | with_reducible exact PutR.nil
  | ((with_reducible refine' PutR.pass ?pn ?pr); (case pn => decide); (case pr => walk_at "put"))
  | ((with_reducible refine' PutR.drop ?pr); (case pr => walk_at "put")))
local macro_rules | `(tactic| walk_at "sub") => `(tactic| repeat (first
  | with_reducible exact LSub.nil
  | ((with_reducible refine' LSub.cons ?lm ?_); (case lm => walk_at "mem"))))
local macro_rules | `(tactic| walk_at "go") => `(tactic| repeat (first
  | with_reducible refine' ev_int ?_
  | with_reducible refine' ev_str ?_
  | ((with_reducible refine' ev_var ?hm ?hl ?hd ?_); (case hm => walk_at "mem"); (case hl => rfl); (case hd => decide))
  | ((with_reducible refine' ev_built ?hO ?hv ?he ?hn ?hl ?hd ?_); (case hO => assumption); (case hv => boot_by_name); (case he => kernel_rfl); (case hn => decide); (case hl => rfl); (case hd => decide))
  | ((with_reducible refine' ev_topS ?hO ?he ?hl ?hd ?_); (case he => first | with_reducible exact nm_ENDMARKER | with_reducible exact nm_NAME | with_reducible exact nm_NUMBER | with_reducible exact nm_OP); (case hO => assumption); (case hl => rfl); (case hd => decide))
  | ((with_reducible refine' ev_topI ?hO ?he ?hl ?hd ?_); (case he => with_reducible exact nm__MAX_RECURSION_DEPTH); (case hO => assumption); (case hl => rfl); (case hd => decide))
  | ((with_reducible refine' ev_top ?hO ?he ?hl ?hd ?_); (case hO => assumption); (case he => walk_at "nm"); (case hl => rfl); (case hd => decide))
  | ((with_reducible refine' ev_cel ?hl ?hd ?hc ?hm ?_); (case hl => rfl); (case hd => decide); (case hc => exact rfl); (case hm => exact List.Mem.head _))
  | ((with_reducible refine' And.intro ?hk ?_); (case hk => first | with_reducible exact kp_bi | with_reducible exact kp_ty | ((with_reducible refine' kp_fn ?_); kernel_rfl)))
  | with_reducible refine' evs_nil ?_
  | ((with_reducible refine' evs_more ?he ?_); (case he => intro _; rfl))
  | with_reducible refine' ev_bin ?_
  | with_reducible refine' ev_tup ?_
  | with_reducible refine' ev_lst ?_
  | ((with_reducible refine' And.intro ?hk ?_); (case hk => size_fits))
  | ((with_reducible refine' ev_mcl0 ?hO ?he ?hp ?_); (case hO => assumption); (case he => intro _; exact ⟨_, rfl⟩); (case hp => rfl))
  | ((with_reducible refine' ev_cl0 ?hO ?he ?hp ?_); (case hO => assumption); (case he => intro _; rfl); (case hp => rfl))
  | with_reducible refine' ev_sub ?_
  | ((with_reducible refine' ev_compare ?hm ?_); (case hm => with_unfolding_all rfl))
  | with_reducible refine' ev_attr ?_
  | with_reducible refine' ev_none ?_
  | with_reducible refine' ev_bool ?_
  | with_reducible refine' ev_un ?_
  | with_reducible refine' ev_ife ?_
  | ((with_reducible refine' ev_mcl ?hO ?he ?hp ?hk ?_); (case hO => assumption); (case he => intro _; exact ⟨_, rfl⟩); (case hp => rfl); (case hk => rfl))
  | ((with_reducible refine' ev_cl ?hO ?he ?hp ?hk ?_); (case hO => assumption); (case he => intro _; rfl); (case hp => rfl); (case hk => rfl))
  | with_reducible refine' evk_nil ?_
  | with_reducible refine' evk_cons ?_
  | with_reducible refine' ex_ret ?_
  | ((with_reducible refine' ex_asg ?hl ?hs ?_); (case hl => rfl); (case hs => intro _; rfl))
  | ((with_reducible refine' ex_swap2 ?hs ?hw ?hx ?hy ?_); (case hs => intro _; rfl); (case hw => intro _; rfl); (case hx => rfl); (case hy => rfl))
  | ((with_reducible refine' ex_tup2 ?hs ?hw ?hx ?hy ?_); (case hs => intro _; rfl); (case hw => intro _; rfl); (case hx => rfl); (case hy => rfl))
  | ((with_reducible refine' ex_aug ?hm ?hl ?_); (case hm => walk_at "mem"); (case hl => rfl))
  | ((with_reducible refine' Exists.intro _ (And.intro (?hp : PutR _ _ _ _) ?_)); (case hp => walk_at "put"))
  | with_reducible refine' Exists.intro _ (Exists.intro _ (And.intro rfl ?_))
  | with_reducible refine' Exists.intro _ (And.intro rfl ?_)
  | with_reducible refine' ex_if ?_
  | with_reducible refine' ex_nil ?_
  | with_reducible refine' ex_cont ?_
  | with_reducible refine' ex_pass ?_
  | with_reducible refine' ex_assert ?_
  | with_reducible refine' sq_next ?_
  | with_reducible refine' sq_ret ?_
  | with_reducible refine' sq_brk ?_
  | with_reducible refine' sq_cont ?_
  | with_reducible refine' retp ?_
  | with_reducible refine' loop_ret ?_
  | with_reducible refine' loop_brk ?_
  | with_reducible refine' retn ?_
  | with_reducible refine' ts_not ?_
  | with_reducible refine' ts_andN ?_
  | with_reducible refine' ts_orN ?_
  | with_reducible refine' ts_and ?_
  | with_reducible refine' ts_or ?_
  | ((with_reducible refine' ts_compare ?hm ?_); (case hm => with_unfolding_all rfl))
  | ((with_reducible refine' ts_val ?_ ?he); (case he => intro _ _; rfl))
  | with_reducible refine' d2_add ?_
  | with_reducible refine' d2_sub ?_
  | with_reducible refine' d2_iadd ?_
  | with_reducible refine' d1_neg ?_
  | with_reducible refine' d2_lt ?_
  | with_reducible refine' d2_gt ?_
  | with_reducible refine' d2_le ?_
  | with_reducible refine' d2_ge ?_
  | with_reducible refine' d2_eq ?_
  | with_reducible refine' d2_ne ?_
  | with_reducible refine' d2_seq ?_
  | with_reducible refine' d2_sne ?_
  | with_reducible refine' tr_bool ?_
  | with_reducible refine' tr_none ?_
  | with_reducible refine' tr_int ?_
  | with_reducible refine' cl_abs ?_
  | with_reducible refine' cl_int ?_
  | ((with_reducible refine' op_fdiv ?hO ?hb ?hd ?hg ?hc ?hh ?_); (case hO => assumption); (case hb => decide); (case hd => decide); (case hg => rfl); (case hc => rfl); (case hh => rfl))
  | ((with_reducible refine' op_headNum ?hs ?_); (case hs => intro _ _; exact ⟨_, rfl⟩))
  | ((with_reducible refine' op_headNeg ?hs ?_); (case hs => intro _ _; exact ⟨_, rfl⟩))
  | ((with_reducible refine' op_headBin ?hs ?_); (case hs => intro _ _; exact ⟨_, rfl⟩))
  | ((with_reducible refine' op_head ?hs ?_); (case hs => intro _ _; exact ⟨_, rfl⟩))
  | ((with_reducible refine' op_num1 ?hs ?_); (case hs => intro _ _; exact ⟨_, rfl⟩))
  | ((with_reducible refine' op_neg1 ?hs ?_); (case hs => intro _ _; exact ⟨_, rfl⟩))
  | ((with_reducible refine' op_bin1 ?hs ?_); (case hs => intro _ _; exact ⟨_, rfl⟩))
  | ((with_reducible refine' op_bin2 ?hs ?_); (case hs => intro _ _; exact ⟨_, rfl⟩))
  | ((with_reducible refine' if_t ?hc ?_); (case hc => decide))
  | ((with_reducible refine' if_f ?hc ?_); (case hc => decide))
  | with_reducible refine' ev_slcTo ?_
  | with_reducible refine' ev_slcFrom ?_
  | with_reducible refine' ev_slcBoth ?_
  ))
section
variable {w : World} {loose : List Str} {mean : ExcName → Option Value} {mg mb : Str → Option Value} {base : Heap}
theorem wrap_yes {t : T} {l : Nat} {v : Bool} {x : Str} (h : (decide (t.bind < l) || (v && !t.isNum)) = true) : wrap t l v x = "(" ++ x ++ ")" := by unfold wrap; rw [if_pos h]
theorem wrap_no {t : T} {l : Nat} {v : Bool} {x : Str} (h : (decide (t.bind < l) || (v && !t.isNum)) = false) : wrap t l v x = x := by unfold wrap; rw [h]; rfl
theorem within_spec (O : (GG w loose mean mg mb base).Ok) (t : T) (v : Bool) (lvl : Nat) (hw : t.wf) (hz : t.size ≤ 1000) {d : Nat} (hd : 1 ≤ d)
    (ih : Fn (GG w loose mean mg mb base) d (.ref 407) [t.enc, .bool v] [] (fun p => p = .str (t.txt v)) none) :
    Fn (GG w loose mean mg mb base) (d + 1) (.ref 414) [t.enc, .int (lvl : Int), .bool v] [] (fun p => p = .str (wrap t lvl v (t.txt v))) none := by
  have len := txt_len v t hw
  have sl : sizeLine = 16777216 := rfl
  refine fn_intro O (ps := [("tree", t.enc), ("level", .int (lvl : Int)), ("is_wide", .bool v)]) (by rfl) (by kernel_rfl) (bnds3 fun _ _ _ => by rfl) ?_ (by rfl) (of_decide_eq_true (by kernel_rfl)) (by rfl) rfl rfl rfl
  walk_at "go"
  refine cl_use0 ih (Nat.le_refl _) ?_
  rintro _ rfl
  walk_at "go"
  refine cl_use0 (bind_spec O t) hd ?_
  rintro _ rfl
  walk_at "go"
  have k1 : (Str.ofString "(").length + (T.txt v t).length ≤ sizeLine := by rw [l5]; omega
  have k2 : (Str.ofString "(" ++ T.txt v t).length + (Str.ofString ")").length ≤ sizeLine := by rw [strLen_append, l5, l6]; omega
  apply if_b
  · intro c1
    have c1' : decide (t.bind < lvl) = true := by have := of_decide_eq_true c1; exact decide_eq_true (by omega)
    walk_at "go"
    refine d2_sadd ?_ k1
    walk_at "go"
    refine d2_sadd ?_ k2
    walk_at "go"
    rw [wrap_yes (by rw [c1', Bool.true_or])]
  · intro c1
    have c1' : decide (t.bind < lvl) = false := by have := of_decide_eq_false c1; exact decide_eq_false (by omega)
    walk_at "go"
    apply if_b
    · intro c2
      walk_at "go"
      apply if_b
      · intro c3
        have c3' : t.isNum = false := by
          have : (t.head == ("num" : Str)) = false := by simpa using c3
          rwa [num_head] at this
        walk_at "go"
        refine d2_sadd ?_ k1
        walk_at "go"
        refine d2_sadd ?_ k2
        walk_at "go"
        rw [wrap_yes (by rw [c2, c3', Bool.or_eq_true]; exact .inr rfl)]
      · intro c3
        have c3' : t.isNum = true := by
          have : (t.head == ("num" : Str)) = true := by simpa using c3
          rwa [num_head] at this
        walk_at "go"
        rw [wrap_no (by rw [c1', c2, c3']; rfl)]
    · intro c2
      walk_at "go"
      rw [wrap_no (by rw [c1', c2]; rfl)]

theorem text_spec (O : (GG w loose mean mg mb base).Ok) (v : Bool) : ∀ (t : T), t.wf → t.size ≤ 1000 → Fn (GG w loose mean mg mb base) (2 * t.size) (.ref 407) [t.enc, .bool v] [] (fun p => p = .str (t.txt v)) none
  | .num k, hw, hz => by
    refine fn_intro O (d := 1) (ps := [("tree", T.enc (.num k)), ("is_wide", .bool v)]) (by rfl) (by kernel_rfl) (bnds2 fun _ _ => by rfl) ?_ (by rfl) (of_decide_eq_true (by kernel_rfl)) (by rfl) rfl rfl rfl
    walk_at "go"
    refine op_strInt (by have : k ≤ 9 := hw; omega) ?_
    walk_at "go"
    rfl
  | .neg a, hw, hz => by
    have sl : sizeLine = 16777216 := rfl
    have hz' : a.size + 1 ≤ 1000 := hz
    have ih := within_spec O a v 3 hw (by omega) (d := 2 * a.size) (by have := a.size_pos; omega) (text_spec O v a hw (by omega))
    have len := wtxt_len v 3 a hw
    refine fn_intro O (d := 2 * a.size + 1) (ps := [("tree", T.enc (.neg a)), ("is_wide", .bool v)]) (by rfl) (by kernel_rfl) (bnds2 fun _ _ => by rfl) ?_ (by rfl) (of_decide_eq_true (by kernel_rfl)) (by rfl) rfl rfl rfl
    walk_at "go"
    refine cl_use0 ih (Nat.le_refl _) ?_
    rintro _ rfl
    refine d2_sadd ?_ (by rw [l1]; omega)
    walk_at "go"
    rfl
  | .bin o a b, hw, hz => by
    have sl : sizeLine = 16777216 := rfl
    have hz' : a.size + b.size + 1 ≤ 1000 := hz
    have hwa := T.wf_a hw
    have hwb := T.wf_b hw
    have pa := a.size_pos
    have pb := b.size_pos
    have iha := fun l => within_spec O a v l hwa (by omega) (d := 2 * a.size) (by omega) (text_spec O v a hwa (by omega))
    have ihb := fun l => within_spec O b v l hwb (by omega) (d := 2 * b.size) (by omega) (text_spec O v b hwb (by omega))
    have la := fun l => wtxt_len v l a hwa
    have lb := fun l => wtxt_len v l b hwb
    have e : 2 * (T.bin o a b).size = 2 * (a.size + b.size) + 1 + 1 := by simp only [T.size]; omega
    rw [e]
    refine fn_intro O (d := 2 * (a.size + b.size) + 1) (ps := [("tree", T.enc (.bin o a b)), ("is_wide", .bool v)]) (by rfl) (by kernel_rfl) (bnds2 fun _ _ => by rfl) ?_ (by rfl) (of_decide_eq_true (by kernel_rfl)) (by rfl) rfl rfl rfl
    walk_at "go"
    have n1 : (o.word == ("num" : Str)) = false := by cases o <;> decide
    have n2 : (o.word == ("neg" : Str)) = false := by cases o <;> decide
    refine if_f n1 ?_
    walk_at "go"
    refine if_f n2 ?_
    walk_at "go"
    refine cl_use0 (bind_spec O _) (by omega) ?_
    rintro _ rfl
    walk_at "go"
    have ha4 := la 4
    have ha1 := la 1
    have hb3 := lb 3
    have hb2 := lb 2
    by_cases hp : o = .pow
    · subst hp
      walk_at "go"
      refine cl_use0 (iha 4) (by omega) ?_
      rintro _ rfl
      walk_at "go"
      refine d2_sadd ?_ (by rw [l2]; omega)
      walk_at "go"
      refine cl_use0 (ihb 3) (by omega) ?_
      rintro _ rfl
      refine d2_sadd ?_ (by rw [strLen_append, l2]; omega)
      walk_at "go"
      rfl
    have q1 : (o.word == ("**" : Str)) = false := by cases o <;> first | decide | exact absurd rfl hp
    refine if_f q1 ?_
    walk_at "go"
    by_cases hj : o = .jux
    · subst hj
      walk_at "go"
      refine cl_use0 (bare_spec O .jux a b) (by omega) ?_
      rintro _ rfl
      walk_at "go"
      apply if_b
      · intro c1
        obtain ⟨k, rfl⟩ : ∃ k, b = .num k := by
          have : b.isNum = true := by
            have : (b.isNum && _) = true := c1
            exact (Bool.and_eq_true_iff.mp this).1
          cases b with
          | num k => exact ⟨k, rfl⟩
          | neg _ => cases this
          | bin _ _ _ => cases this
        have hk : k ≤ 9 := hwb
        walk_at "go"
        refine cl_use0 (iha 1) (by omega) ?_
        rintro _ rfl
        walk_at "go"
        refine d2_sadd ?_ (by rw [l4]; omega)
        walk_at "go"
        refine op_strInt (by omega) ?_
        refine d2_sadd ?_ (by rw [strLen_append, l4, digit_len k hk]; omega)
        walk_at "go"
        show PV.str _ = PV.str (if _ then _ else _)
        rw [if_pos c1]
        rfl
      · intro c1
        walk_at "go"
        refine cl_use0 (iha 1) (by omega) ?_
        rintro _ rfl
        walk_at "go"
        refine d2_sadd ?_ (by rw [l3]; omega)
        walk_at "go"
        refine cl_use0 (ihb 2) (by omega) ?_
        rintro _ rfl
        refine d2_sadd ?_ (by rw [strLen_append, l3]; omega)
        walk_at "go"
        show PV.str _ = PV.str (if _ then _ else _)
        rw [c1]
        rfl
    have q2 : (o.word == ("" : Str)) = false := by cases o <;> first | decide | exact absurd rfl hj
    refine if_f q2 ?_
    walk_at "go"
    have hx := la (T.bin o a b).bind
    have hy := lb ((T.bin o a b).bind + 1)
    have hw := word_len o
    refine cl_use0 (iha (T.bin o a b).bind) (by omega) ?_
    rintro _ rfl
    walk_at "go"
    refine d2_sadd ?_ (by rw [l4]; omega)
    walk_at "go"
    refine d2_sadd ?_ (by rw [strLen_append, l4]; omega)
    walk_at "go"
    refine d2_sadd ?_ (by rw [strLen_append, strLen_append, l4]; omega)
    walk_at "go"
    refine cl_use0 (ihb ((T.bin o a b).bind + 1)) (by omega) ?_
    rintro _ rfl
    refine d2_sadd ?_ (by rw [strLen_append, strLen_append, strLen_append, l4]; omega)
    walk_at "go"
    cases o <;> first | rfl | exact absurd rfl hp | exact absurd rfl hj
theorem told_len : ∀ t : T, t.wf → t.told.length ≤ 8 * t.size
  | .num k, h => by
    have e : (T.told (.num k)).length = 1 := digit_len k h
    rw [e]; simp [T.size]
  | .neg a, h => by
    have i := told_len a h
    show ("(- " ++ a.told ++ ")" : Str).length ≤ 8 * (a.size + 1)
    rw [strLen_append, strLen_append, l7, l6]; omega
  | .bin o a b, h => by
    have i := told_len a (T.wf_a h)
    have j := told_len b (T.wf_b h)
    show ("(" ++ a.told ++ (if T.bare (.bin o a b) = true then (" " : Str) else (" " : Str) ++ (if o ≠ .jux then o.word else ("*" : Str)) ++ (" " : Str)) ++ b.told ++ ")" : Str).length ≤ 8 * (a.size + b.size + 1)
    have hw := word_len o
    rw [strLen_append, strLen_append, strLen_append, strLen_append, l5, l6]
    split
    · rw [l4]; omega
    · rw [strLen_append, strLen_append, l4]
      split
      · omega
      · rw [l8]; omega
theorem told_bin (o : Op) (a b : T) : (T.bin o a b).told = "(" ++ a.told ++ (if T.bare (.bin o a b) = true then (" " : Str) else (" " : Str) ++ (if o ≠ .jux then o.word else ("*" : Str)) ++ (" " : Str)) ++ b.told ++ ")" := rfl
theorem told_spec (O : (GG w loose mean mg mb base).Ok) : ∀ (t : T), t.wf → t.size ≤ 1000 → Fn (GG w loose mean mg mb base) (t.size + 1) (.ref 421) [t.enc] [] (fun p => p = .str t.told) none
  | .num k, hw, hz => by
    refine fn_intro O (d := 1) (ps := [("tree", T.enc (.num k))]) (by rfl) (by kernel_rfl) (bnds1 fun _ => by rfl) ?_ (by rfl) (of_decide_eq_true (by kernel_rfl)) (by rfl) rfl rfl rfl
    walk_at "go"
    refine op_strInt (by have : k ≤ 9 := hw; omega) ?_
    walk_at "go"
    rfl
  | .neg a, hw, hz => by
    have sl : sizeLine = 16777216 := rfl
    have hz' : a.size + 1 ≤ 1000 := hz
    have ih := told_spec O a hw (by omega)
    have len := told_len a hw
    refine fn_intro O (d := a.size + 1) (ps := [("tree", T.enc (.neg a))]) (by rfl) (by kernel_rfl) (bnds1 fun _ => by rfl) ?_ (by rfl) (of_decide_eq_true (by kernel_rfl)) (by rfl) rfl rfl rfl
    walk_at "go"
    refine cl_use0 ih (Nat.le_refl _) ?_
    rintro _ rfl
    refine d2_sadd ?_ (by rw [l7]; omega)
    walk_at "go"
    refine d2_sadd ?_ (by rw [strLen_append, l7, l6]; omega)
    walk_at "go"
    rfl
  | .bin o a b, hw, hz => by
    have sl : sizeLine = 16777216 := rfl
    have hz' : a.size + b.size + 1 ≤ 1000 := hz
    have hwa := T.wf_a hw
    have hwb := T.wf_b hw
    have pa := a.size_pos
    have pb := b.size_pos
    have iha := told_spec O a hwa (by omega)
    have ihb := told_spec O b hwb (by omega)
    have la := told_len a hwa
    have lb := told_len b hwb
    have hwl := word_len o
    refine fn_intro O (d := a.size + b.size + 1) (ps := [("tree", T.enc (.bin o a b))]) (by rfl) (by kernel_rfl) (bnds1 fun _ => by rfl) ?_ (by rfl) (of_decide_eq_true (by kernel_rfl)) (by rfl) rfl rfl rfl
    walk_at "go"
    have n1 : (o.word == ("num" : Str)) = false := by cases o <;> decide
    have n2 : (o.word == ("neg" : Str)) = false := by cases o <;> decide
    refine if_f n1 ?_
    walk_at "go"
    refine if_f n2 ?_
    walk_at "go"
    refine cl_use0 (bare_spec O o a b) (by omega) ?_
    rintro _ rfl
    walk_at "go"
    -- the rest, for a word x
    apply if_b
    · intro c1
      walk_at "go"
      refine cl_use0 iha (by omega) ?_
      rintro _ rfl
      refine d2_sadd ?_ (by rw [l5]; omega)
      walk_at "go"
      refine d2_sadd ?_ (by rw [strLen_append, l5, l4]; omega)
      walk_at "go"
      refine cl_use0 ihb (by omega) ?_
      rintro _ rfl
      refine d2_sadd ?_ (by rw [strLen_append, strLen_append, l5, l4]; omega)
      walk_at "go"
      refine d2_sadd ?_ (by rw [strLen_append, strLen_append, strLen_append, l5, l4, l6]; omega)
      walk_at "go"
      rw [told_bin, if_pos c1]
    · intro c1
      walk_at "go"
      apply if_b
      · intro c2
        have hj : o ≠ .jux := by rintro rfl; exact absurd c2 (by decide)
        walk_at "go"
        refine d2_sadd ?_ (by rw [l4]; omega)
        walk_at "go"
        refine d2_sadd ?_ (by rw [strLen_append, l4]; omega)
        walk_at "go"
        refine cl_use0 iha (by omega) ?_
        rintro _ rfl
        refine d2_sadd ?_ (by rw [l5]; omega)
        walk_at "go"
        refine d2_sadd ?_ (by rw [strLen_append, strLen_append, strLen_append, l5, l4]; omega)
        walk_at "go"
        refine cl_use0 ihb (by omega) ?_
        rintro _ rfl
        refine d2_sadd ?_ (by rw [strLen_append, strLen_append, strLen_append, strLen_append, l5, l4]; omega)
        walk_at "go"
        refine d2_sadd ?_ (by rw [strLen_append, strLen_append, strLen_append, strLen_append, strLen_append, l5, l4, l6]; omega)
        walk_at "go"
        rw [told_bin, c1, if_pos hj]
        rfl
      · intro c2
        have hj : o = .jux := by cases o <;> first | rfl | exact absurd c2 (by decide)
        subst hj
        walk_at "go"
        refine d2_sadd ?_ (by rw [l4, l8]; omega)
        walk_at "go"
        refine d2_sadd ?_ (by rw [strLen_append, l4, l8]; omega)
        walk_at "go"
        refine cl_use0 iha (by omega) ?_
        rintro _ rfl
        refine d2_sadd ?_ (by rw [l5]; omega)
        walk_at "go"
        refine d2_sadd ?_ (by rw [strLen_append, strLen_append, strLen_append, l5, l4, l8]; omega)
        walk_at "go"
        refine cl_use0 ihb (by omega) ?_
        rintro _ rfl
        refine d2_sadd ?_ (by rw [strLen_append, strLen_append, strLen_append, strLen_append, l5, l4, l8]; omega)
        walk_at "go"
        refine d2_sadd ?_ (by rw [strLen_append, strLen_append, strLen_append, strLen_append, strLen_append, l5, l4, l6, l8]; omega)
        walk_at "go"
        rw [told_bin, c1, if_neg (by simp)]
        rfl
end
end
end Mine

namespace Mine
open PySem PySem.W PySem.Calls PyProof.Rows
section
local macro_rules | `(tactic| walk_at "nm") => `(tactic| first | with_reducible exact nm_add | with_reducible exact nm_mul | with_reducible exact nm_pow_operator | with_reducible exact nm_sub | with_reducible exact nm_truediv | with_reducible exact nm_DefinitionSyntaxError | with_reducible exact nm_common_divisor | with_reducible exact nm_Quotient | with_reducible exact nm_whole | with_reducible exact nm_number_from_text | with_reducible exact nm_TokenInfo | with_reducible exact nm_end_of_figures | with_reducible exact nm_end_of_number | with_reducible exact nm_tokenizer | with_reducible exact nm__power | with_reducible exact nm__divided | with_reducible exact nm__plus | with_reducible exact nm__minus | with_reducible exact nm__UNARY_OPERATOR_MAP | with_reducible exact nm__BINARY_OPERATOR_MAP | with_reducible exact nm__OP_PRIORITY | with_reducible exact nm_EvalTreeNode | with_reducible exact nm__build_eval_tree | with_reducible exact nm_build_eval_tree | with_reducible exact nm__law_cell | with_reducible exact nm__law_tree | with_reducible exact nm__law_bind | with_reducible exact nm__law_is_bare | with_reducible exact nm__law_text | with_reducible exact nm__law_within | with_reducible exact nm__law_told | with_reducible exact nm__law_value | with_reducible exact nm__law_number | with_reducible exact nm__law_is_refused)
local macro_rules | `(tactic| walk_at "mem") => `(tactic| repeat (first | with_reducible exact LMem.head | with_reducible apply LMem.tail))
local macro_rules | `(tactic| walk_at "put") => `(tactic| first
  | with_reducible exact PutR.nil
  | ((with_reducible refine' PutR.pass ?pn ?pr); (case pn => decide); (case pr => walk_at "put"))
  | ((with_reducible refine' PutR.drop ?pr); (case pr => walk_at "put")))
local macro_rules | `(tactic| walk_at "sub") => `(tactic| repeat (first
  | with_reducible exact LSub.nil
  | ((with_reducible refine' LSub.cons ?lm ?_); (case lm => walk_at "mem"))))
local macro_rules | `(tactic| walk_at "go") => `(tactic| repeat (first
  | with_reducible refine' ev_int ?_
  | with_reducible refine' ev_str ?_
  | ((with_reducible refine' ev_var ?hm ?hl ?hd ?_); (case hm => walk_at "mem"); (case hl => rfl); (case hd => decide))
  | ((with_reducible refine' ev_built ?hO ?hv ?he ?hn ?hl ?hd ?_); (case hO => assumption); (case hv => boot_by_name); (case he => kernel_rfl); (case hn => decide); (case hl => rfl); (case hd => decide))
  | ((with_reducible refine' ev_topS ?hO ?he ?hl ?hd ?_); (case he => first | with_reducible exact nm_ENDMARKER | with_reducible exact nm_NAME | with_reducible exact nm_NUMBER | with_reducible exact nm_OP); (case hO => assumption); (case hl => rfl); (case hd => decide))
  | ((with_reducible refine' ev_topI ?hO ?he ?hl ?hd ?_); (case he => with_reducible exact nm__MAX_RECURSION_DEPTH); (case hO => assumption); (case hl => rfl); (case hd => decide))
  | ((with_reducible refine' ev_top ?hO ?he ?hl ?hd ?_); (case hO => assumption); (case he => walk_at "nm"); (case hl => rfl); (case hd => decide))
  | ((with_reducible refine' ev_cel ?hl ?hd ?hc ?hm ?_); (case hl => rfl); (case hd => decide); (case hc => exact rfl); (case hm => exact List.Mem.head _))
  | ((with_reducible refine' And.intro ?hk ?_); (case hk => first | with_reducible exact kp_bi | with_reducible exact kp_ty | ((with_reducible refine' kp_fn ?_); kernel_rfl)))
  | with_reducible refine' evs_nil ?_
  | ((with_reducible refine' evs_more ?he ?_); (case he => intro _; rfl))
  | with_reducible refine' ev_bin ?_
  | with_reducible refine' ev_tup ?_
  | with_reducible refine' ev_lst ?_
  | ((with_reducible refine' And.intro ?hk ?_); (case hk => size_fits))
  | ((with_reducible refine' ev_mcl0 ?hO ?he ?hp ?_); (case hO => assumption); (case he => intro _; exact ⟨_, rfl⟩); (case hp => rfl))
  | ((with_reducible refine' ev_cl0 ?hO ?he ?hp ?_); (case hO => assumption); (case he => intro _; rfl); (case hp => rfl))
  | with_reducible refine' ev_sub ?_
  | ((with_reducible refine' ev_compare ?hm ?_); (case hm => with_unfolding_all rfl))
  | with_reducible refine' ev_attr ?_
  | with_reducible refine' ev_none ?_
  | with_reducible refine' ev_bool ?_
  | with_reducible refine' ev_un ?_
  | with_reducible refine' ev_ife ?_
  | ((with_reducible refine' ev_mcl ?hO ?he ?hp ?hk ?_); (case hO => assumption); (case he => intro _; exact ⟨_, rfl⟩); (case hp => rfl); (case hk => rfl))
  | ((with_reducible refine' ev_cl ?hO ?he ?hp ?hk ?_); (case hO => assumption); (case he => intro _; rfl); (case hp => rfl); (case hk => rfl))
  | with_reducible refine' evk_nil ?_
  | with_reducible refine' evk_cons ?_
  | with_reducible refine' ex_ret ?_
  | ((with_reducible refine' ex_asg ?hl ?hs ?_); (case hl => rfl); (case hs => intro _; rfl))
  | ((with_reducible refine' ex_swap2 ?hs ?hw ?hx ?hy ?_); (case hs => intro _; rfl); (case hw => intro _; rfl); (case hx => rfl); (case hy => rfl))
  | ((with_reducible refine' ex_tup2 ?hs ?hw ?hx ?hy ?_); (case hs => intro _; rfl); (case hw => intro _; rfl); (case hx => rfl); (case hy => rfl))
  | ((with_reducible refine' ex_aug ?hm ?hl ?_); (case hm => walk_at "mem"); (case hl => rfl))
  | ((with_reducible refine' Exists.intro _ (And.intro (?hp : PutR _ _ _ _) ?_)); (case hp => walk_at "put"))
  | with_reducible refine' Exists.intro _ (Exists.intro _ (And.intro rfl ?_))
  | with_reducible refine' Exists.intro _ (And.intro rfl ?_)
  | with_reducible refine' ex_if ?_
  | with_reducible refine' ex_nil ?_
  | with_reducible refine' ex_cont ?_
  | with_reducible refine' ex_pass ?_
  | with_reducible refine' ex_assert ?_
  | with_reducible refine' sq_next ?_
  | with_reducible refine' sq_ret ?_
  | with_reducible refine' sq_brk ?_
  | with_reducible refine' sq_cont ?_
  | with_reducible refine' retp ?_
  | with_reducible refine' loop_ret ?_
  | with_reducible refine' loop_brk ?_
  | with_reducible refine' retn ?_
  | with_reducible refine' ts_not ?_
  | with_reducible refine' ts_andN ?_
  | with_reducible refine' ts_orN ?_
  | with_reducible refine' ts_and ?_
  | with_reducible refine' ts_or ?_
  | ((with_reducible refine' ts_compare ?hm ?_); (case hm => with_unfolding_all rfl))
  | ((with_reducible refine' ts_val ?_ ?he); (case he => intro _ _; rfl))
  | with_reducible refine' d2_add ?_
  | with_reducible refine' d2_sub ?_
  | with_reducible refine' d2_iadd ?_
  | with_reducible refine' d1_neg ?_
  | with_reducible refine' d2_lt ?_
  | with_reducible refine' d2_gt ?_
  | with_reducible refine' d2_le ?_
  | with_reducible refine' d2_ge ?_
  | with_reducible refine' d2_eq ?_
  | with_reducible refine' d2_ne ?_
  | with_reducible refine' d2_seq ?_
  | with_reducible refine' d2_sne ?_
  | with_reducible refine' tr_bool ?_
  | with_reducible refine' tr_none ?_
  | with_reducible refine' tr_int ?_
  | with_reducible refine' cl_abs ?_
  | with_reducible refine' cl_int ?_
  | ((with_reducible refine' op_fdiv ?hO ?hb ?hd ?hg ?hc ?hh ?_); (case hO => assumption); (case hb => decide); (case hd => decide); (case hg => rfl); (case hc => rfl); (case hh => rfl))
  | ((with_reducible refine' op_headNum ?hs ?_); (case hs => intro _ _; exact ⟨_, rfl⟩))
  | ((with_reducible refine' op_headNeg ?hs ?_); (case hs => intro _ _; exact ⟨_, rfl⟩))
  | ((with_reducible refine' op_headBin ?hs ?_); (case hs => intro _ _; exact ⟨_, rfl⟩))
  | ((with_reducible refine' op_head ?hs ?_); (case hs => intro _ _; exact ⟨_, rfl⟩))
  | ((with_reducible refine' op_num1 ?hs ?_); (case hs => intro _ _; exact ⟨_, rfl⟩))
  | ((with_reducible refine' op_neg1 ?hs ?_); (case hs => intro _ _; exact ⟨_, rfl⟩))
  | ((with_reducible refine' op_bin1 ?hs ?_); (case hs => intro _ _; exact ⟨_, rfl⟩))
  | ((with_reducible refine' op_bin2 ?hs ?_); (case hs => intro _ _; exact ⟨_, rfl⟩))
  | ((with_reducible refine' if_t ?hc ?_); (case hc => decide))
  | ((with_reducible refine' if_f ?hc ?_); (case hc => decide))
  | with_reducible refine' ev_slcTo ?_
  | with_reducible refine' ev_slcFrom ?_
  | with_reducible refine' ev_slcBoth ?_
  ))
section
variable {w : World} {loose : List Str} {mean : ExcName → Option Value} {mg mb : Str → Option Value} {base : Heap}
def tokPV (k x : Str) : PV := .inst 265 [("type", .str k), ("string", .str x)]
theorem token_spec (O : (GG w loose mean mg mb base).Ok) (k x : Str) {d : Nat} : Fn (GG w loose mean mg mb base) (d + 2) (.ref 265) [.str k, .str x] [] (fun p => p = tokPV k x) none := by
  refine fn_class O (f := 255) (ps := fun a => [("self", .raw (.ref a)), ("kind", .str k), ("string", .str x)]) (by kernel_rfl) (by kernel_rfl) (by kernel_rfl) (by rfl) (by kernel_rfl) (fun _ => bnds3 fun _ _ _ => by rfl) (fun a => ?_) (fun _ => by rfl) (fun _ => of_decide_eq_true (by kernel_rfl)) (by rfl) rfl rfl rfl
  refine exI_set O (.head) (by rfl) (by decide) (fun _ => by rfl) (by kernel_rfl) (by kernel_rfl) (by kernel_rfl) (by kernel_rfl) rfl (by simp) (fun own => ?_)
  walk_at "go"
  refine ⟨rfl, ?_⟩
  refine exI_set O (.head) (by rfl) (by decide) (fun _ => by rfl) (by kernel_rfl) (by kernel_rfl) (by kernel_rfl) (by kernel_rfl) rfl (by simp) (fun own => ?_)
  walk_at "go"
  refine ⟨rfl, exI_nil rfl⟩
def nodePV (l o r : PV) : PV := .inst 354 [("left", l), ("operator", o), ("right", r)]
local macro_rules | `(tactic| walk_at "nd") => `(tactic| (
  refine exI_set (by assumption) (.head) (by rfl) (by decide) (fun _ => by rfl) (by kernel_rfl) (by kernel_rfl) (by kernel_rfl) (by kernel_rfl) rfl (by simp) (fun own => ?_)
  walk_at "go"))
theorem node2 (O : (GG w loose mean mg mb base).Ok) (l r : PV) (hl : l.hand = true) (hr : r.hand = true) {d : Nat} : Fn (GG w loose mean mg mb base) (d + 2) (.ref 354) [] [("left", l), ("right", r)] (fun p => p = nodePV l .none r) none := by
  refine fn_class O (f := 336) (ps := fun a => [("self", .raw (.ref a)), ("left", l), ("operator", .none), ("right", r)]) (by kernel_rfl) (by kernel_rfl) (by kernel_rfl) (by rfl) (by kernel_rfl) (fun x => ?_) (fun a => ?_) (fun _ => by rfl) (fun _ => of_decide_eq_true (by kernel_rfl)) (by rfl) rfl rfl rfl
  · intro s Z vs kvs X rv hk rk
    obtain ⟨v, u, rfl, r1, r2⟩ := kv2 hk rk
    cases rv with | cons a b =>
    cases a; cases b
    exact ⟨[("self", .ref x), ("left", v), ("operator", .none), ("right", u)], binds_K X rfl rfl rfl rfl rfl, .cons (.raw _) (.cons r1 (.cons .none (.cons r2 .nil)))⟩
  · walk_at "nd"
    try refine ⟨rfl, ?_⟩
    walk_at "nd"
    try refine ⟨rfl, ?_⟩
    walk_at "nd"
    try refine ⟨rfl, ?_⟩
    exact exI_nil rfl
theorem node3 (O : (GG w loose mean mg mb base).Ok) (l o r : PV) (hl : l.hand = true) (ho : o.hand = true) (hr : r.hand = true) {d : Nat} : Fn (GG w loose mean mg mb base) (d + 2) (.ref 354) [] [("left", l), ("operator", o), ("right", r)] (fun p => p = nodePV l o r) none := by
  refine fn_class O (f := 336) (ps := fun a => [("self", .raw (.ref a)), ("left", l), ("operator", o), ("right", r)]) (by kernel_rfl) (by kernel_rfl) (by kernel_rfl) (by rfl) (by kernel_rfl) (fun x => ?_) (fun a => ?_) (fun _ => by rfl) (fun _ => of_decide_eq_true (by kernel_rfl)) (by rfl) rfl rfl rfl
  · intro s Z vs kvs X rv hk rk
    obtain ⟨v, t, u, rfl, r1, r2, r3⟩ := kv3 hk rk
    cases rv with | cons a b =>
    cases a; cases b
    exact ⟨[("self", .ref x), ("left", v), ("operator", t), ("right", u)], (by first | exact binds_K X rfl rfl rfl rfl rfl | exact .of_eq rfl), .cons (.raw _) (.cons r1 (.cons r2 (.cons r3 .nil)))⟩
  · walk_at "nd"
    try refine ⟨rfl, ?_⟩
    walk_at "nd"
    try refine ⟨rfl, ?_⟩
    walk_at "nd"
    try refine ⟨rfl, ?_⟩
    exact exI_nil rfl
theorem node1u (O : (GG w loose mean mg mb base).Ok) (l o : PV) (hl : l.hand = true) (ho : o.hand = true) {d : Nat} : Fn (GG w loose mean mg mb base) (d + 2) (.ref 354) [] [("left", l), ("operator", o)] (fun p => p = nodePV l o .none) none := by
  refine fn_class O (f := 336) (ps := fun a => [("self", .raw (.ref a)), ("left", l), ("operator", o), ("right", .none)]) (by kernel_rfl) (by kernel_rfl) (by kernel_rfl) (by rfl) (by kernel_rfl) (fun x => ?_) (fun a => ?_) (fun _ => by rfl) (fun _ => of_decide_eq_true (by kernel_rfl)) (by rfl) rfl rfl rfl
  · intro s Z vs kvs X rv hk rk
    obtain ⟨v, t, rfl, r1, r2⟩ := kv2 hk rk
    cases rv with | cons a b =>
    cases a; cases b
    exact ⟨[("self", .ref x), ("left", v), ("operator", t), ("right", .none)], binds_K X rfl rfl rfl rfl rfl, .cons (.raw _) (.cons r1 (.cons r2 (.cons .none .nil)))⟩
  · walk_at "nd"
    try refine ⟨rfl, ?_⟩
    walk_at "nd"
    try refine ⟨rfl, ?_⟩
    walk_at "nd"
    try refine ⟨rfl, ?_⟩
    exact exI_nil rfl
theorem node1 (O : (GG w loose mean mg mb base).Ok) (l : PV) (hl : l.hand = true) {d : Nat} : Fn (GG w loose mean mg mb base) (d + 2) (.ref 354) [] [("left", l)] (fun p => p = nodePV l .none .none) none := by
  refine fn_class O (f := 336) (ps := fun a => [("self", .raw (.ref a)), ("left", l), ("operator", .none), ("right", .none)]) (by kernel_rfl) (by kernel_rfl) (by kernel_rfl) (by rfl) (by kernel_rfl) (fun x => ?_) (fun a => ?_) (fun _ => by rfl) (fun _ => of_decide_eq_true (by kernel_rfl)) (by rfl) rfl rfl rfl
  · intro s Z vs kvs X rv hk rk
    obtain ⟨v, rfl, r1⟩ := kv1 hk rk
    cases rv with | cons a b =>
    cases a; cases b
    exact ⟨[("self", .ref x), ("left", v), ("operator", .none), ("right", .none)], binds_K X rfl rfl rfl rfl rfl, .cons (.raw _) (.cons r1 (.cons .none (.cons .none .nil)))⟩
  · walk_at "nd"
    try refine ⟨rfl, ?_⟩
    walk_at "nd"
    try refine ⟨rfl, ?_⟩
    walk_at "nd"
    try refine ⟨rfl, ?_⟩
    exact exI_nil rfl
end
end
end Mine

namespace Mine
open PySem PySem.W PySem.Calls PyProof.Rows
section
local macro_rules | `(tactic| walk_at "nm") => `(tactic| first | with_reducible exact nm_add | with_reducible exact nm_mul | with_reducible exact nm_pow_operator | with_reducible exact nm_sub | with_reducible exact nm_truediv | with_reducible exact nm_DefinitionSyntaxError | with_reducible exact nm_common_divisor | with_reducible exact nm_Quotient | with_reducible exact nm_whole | with_reducible exact nm_number_from_text | with_reducible exact nm_TokenInfo | with_reducible exact nm_end_of_figures | with_reducible exact nm_end_of_number | with_reducible exact nm_tokenizer | with_reducible exact nm__power | with_reducible exact nm__divided | with_reducible exact nm__plus | with_reducible exact nm__minus | with_reducible exact nm__UNARY_OPERATOR_MAP | with_reducible exact nm__BINARY_OPERATOR_MAP | with_reducible exact nm__OP_PRIORITY | with_reducible exact nm_EvalTreeNode | with_reducible exact nm__build_eval_tree | with_reducible exact nm_build_eval_tree | with_reducible exact nm__law_cell | with_reducible exact nm__law_tree | with_reducible exact nm__law_bind | with_reducible exact nm__law_is_bare | with_reducible exact nm__law_text | with_reducible exact nm__law_within | with_reducible exact nm__law_told | with_reducible exact nm__law_value | with_reducible exact nm__law_number | with_reducible exact nm__law_is_refused)
local macro_rules | `(tactic| walk_at "mem") => `(tactic| repeat (first | with_reducible exact LMem.head | with_reducible apply LMem.tail))
local macro_rules | `(tactic| walk_at "put") => `(tactic| first
  | with_reducible exact PutR.nil
  | ((with_reducible refine' PutR.pass ?pn ?pr); (case pn => decide); (case pr => walk_at "put"))
  | ((with_reducible refine' PutR.drop ?pr); (case pr => walk_at "put")))
local macro_rules | `(tactic| walk_at "sub") => `(tactic| repeat (first
  | with_reducible exact LSub.nil
  | ((with_reducible refine' LSub.cons ?lm ?_); (case lm => walk_at "mem"))))
local macro_rules | `(tactic| walk_at "go") => `(tactic| repeat (first
  | with_reducible refine' ev_int ?_
  | with_reducible refine' ev_str ?_
  | ((with_reducible refine' ev_var ?hm ?hl ?hd ?_); (case hm => walk_at "mem"); (case hl => rfl); (case hd => decide))
  | ((with_reducible refine' ev_built ?hO ?hv ?he ?hn ?hl ?hd ?_); (case hO => assumption); (case hv => boot_by_name); (case he => kernel_rfl); (case hn => decide); (case hl => rfl); (case hd => decide))
  | ((with_reducible refine' ev_topS ?hO ?he ?hl ?hd ?_); (case he => first | with_reducible exact nm_ENDMARKER | with_reducible exact nm_NAME | with_reducible exact nm_NUMBER | with_reducible exact nm_OP); (case hO => assumption); (case hl => rfl); (case hd => decide))
  | ((with_reducible refine' ev_topI ?hO ?he ?hl ?hd ?_); (case he => with_reducible exact nm__MAX_RECURSION_DEPTH); (case hO => assumption); (case hl => rfl); (case hd => decide))
  | ((with_reducible refine' ev_top ?hO ?he ?hl ?hd ?_); (case hO => assumption); (case he => walk_at "nm"); (case hl => rfl); (case hd => decide))
  | ((with_reducible refine' ev_cel ?hl ?hd ?hc ?hm ?_); (case hl => rfl); (case hd => decide); (case hc => exact rfl); (case hm => exact List.Mem.head _))
  | ((with_reducible refine' And.intro ?hk ?_); (case hk => first | with_reducible exact kp_bi | with_reducible exact kp_ty | ((with_reducible refine' kp_fn ?_); kernel_rfl)))
  | with_reducible refine' evs_nil ?_
  | ((with_reducible refine' evs_more ?he ?_); (case he => intro _; rfl))
  | with_reducible refine' ev_bin ?_
  | with_reducible refine' ev_tup ?_
  | with_reducible refine' ev_lst ?_
  | ((with_reducible refine' And.intro ?hk ?_); (case hk => size_fits))
  | ((with_reducible refine' ev_mcl0 ?hO ?he ?hp ?_); (case hO => assumption); (case he => intro _; exact ⟨_, rfl⟩); (case hp => rfl))
  | ((with_reducible refine' ev_cl0 ?hO ?he ?hp ?_); (case hO => assumption); (case he => intro _; rfl); (case hp => rfl))
  | with_reducible refine' ev_sub ?_
  | ((with_reducible refine' ev_compare ?hm ?_); (case hm => with_unfolding_all rfl))
  | with_reducible refine' ev_attr ?_
  | with_reducible refine' ev_none ?_
  | with_reducible refine' ev_bool ?_
  | with_reducible refine' ev_un ?_
  | with_reducible refine' ev_ife ?_
  | ((with_reducible refine' ev_mcl ?hO ?he ?hp ?hk ?_); (case hO => assumption); (case he => intro _; exact ⟨_, rfl⟩); (case hp => rfl); (case hk => rfl))
  | ((with_reducible refine' ev_cl ?hO ?he ?hp ?hk ?_); (case hO => assumption); (case he => intro _; rfl); (case hp => rfl); (case hk => rfl))
  | with_reducible refine' evk_nil ?_
  | with_reducible refine' evk_cons ?_
  | with_reducible refine' ex_ret ?_
  | ((with_reducible refine' ex_asg ?hl ?hs ?_); (case hl => rfl); (case hs => intro _; rfl))
  | ((with_reducible refine' ex_swap2 ?hs ?hw ?hx ?hy ?_); (case hs => intro _; rfl); (case hw => intro _; rfl); (case hx => rfl); (case hy => rfl))
  | ((with_reducible refine' ex_tup2 ?hs ?hw ?hx ?hy ?_); (case hs => intro _; rfl); (case hw => intro _; rfl); (case hx => rfl); (case hy => rfl))
  | ((with_reducible refine' ex_aug ?hm ?hl ?_); (case hm => walk_at "mem"); (case hl => rfl))
  | ((with_reducible refine' Exists.intro _ (And.intro (?hp : PutR _ _ _ _) ?_)); (case hp => walk_at "put"))
  | with_reducible refine' Exists.intro _ (Exists.intro _ (And.intro rfl ?_))
  | with_reducible refine' Exists.intro _ (And.intro rfl ?_)
  | with_reducible refine' ex_if ?_
  | with_reducible refine' ex_nil ?_
  | with_reducible refine' ex_cont ?_
  | with_reducible refine' ex_pass ?_
  | with_reducible refine' ex_assert ?_
  | with_reducible refine' sq_next ?_
  | with_reducible refine' sq_ret ?_
  | with_reducible refine' sq_brk ?_
  | with_reducible refine' sq_cont ?_
  | with_reducible refine' retp ?_
  | with_reducible refine' loop_ret ?_
  | with_reducible refine' loop_brk ?_
  | with_reducible refine' retn ?_
  | with_reducible refine' ts_not ?_
  | with_reducible refine' ts_andN ?_
  | with_reducible refine' ts_orN ?_
  | with_reducible refine' ts_and ?_
  | with_reducible refine' ts_or ?_
  | ((with_reducible refine' ts_compare ?hm ?_); (case hm => with_unfolding_all rfl))
  | ((with_reducible refine' ts_val ?_ ?he); (case he => intro _ _; rfl))
  | with_reducible refine' d2_add ?_
  | with_reducible refine' d2_sub ?_
  | with_reducible refine' d2_iadd ?_
  | with_reducible refine' d1_neg ?_
  | with_reducible refine' d2_lt ?_
  | with_reducible refine' d2_gt ?_
  | with_reducible refine' d2_le ?_
  | with_reducible refine' d2_ge ?_
  | with_reducible refine' d2_eq ?_
  | with_reducible refine' d2_ne ?_
  | with_reducible refine' d2_seq ?_
  | with_reducible refine' d2_sne ?_
  | with_reducible refine' tr_bool ?_
  | with_reducible refine' tr_none ?_
  | with_reducible refine' tr_int ?_
  | with_reducible refine' cl_abs ?_
  | with_reducible refine' cl_int ?_
  | ((with_reducible refine' op_fdiv ?hO ?hb ?hd ?hg ?hc ?hh ?_); (case hO => assumption); (case hb => decide); (case hd => decide); (case hg => rfl); (case hc => rfl); (case hh => rfl))
  | ((with_reducible refine' op_headNum ?hs ?_); (case hs => intro _ _; exact ⟨_, rfl⟩))
  | ((with_reducible refine' op_headNeg ?hs ?_); (case hs => intro _ _; exact ⟨_, rfl⟩))
  | ((with_reducible refine' op_headBin ?hs ?_); (case hs => intro _ _; exact ⟨_, rfl⟩))
  | ((with_reducible refine' op_head ?hs ?_); (case hs => intro _ _; exact ⟨_, rfl⟩))
  | ((with_reducible refine' op_num1 ?hs ?_); (case hs => intro _ _; exact ⟨_, rfl⟩))
  | ((with_reducible refine' op_neg1 ?hs ?_); (case hs => intro _ _; exact ⟨_, rfl⟩))
  | ((with_reducible refine' op_bin1 ?hs ?_); (case hs => intro _ _; exact ⟨_, rfl⟩))
  | ((with_reducible refine' op_bin2 ?hs ?_); (case hs => intro _ _; exact ⟨_, rfl⟩))
  | ((with_reducible refine' if_t ?hc ?_); (case hc => decide))
  | ((with_reducible refine' if_f ?hc ?_); (case hc => decide))
  | with_reducible refine' ev_slcTo ?_
  | with_reducible refine' ev_slcFrom ?_
  | with_reducible refine' ev_slcBoth ?_
  ))
section
variable {w : World} {loose : List Str} {mean : ExcName → Option Value} {mg mb : Str → Option Value} {base : Heap}
theorem plain_Q : PlainC (GG w loose mean mg mb base).K 223 := ⟨by kernel_rfl, by kernel_rfl, by kernel_rfl, by kernel_rfl, by kernel_rfl, by kernel_rfl⟩
theorem plain_T : PlainC (GG w loose mean mg mb base).K 265 := ⟨by kernel_rfl, by kernel_rfl, by kernel_rfl, by kernel_rfl, by kernel_rfl, by kernel_rfl⟩
theorem plain_N : PlainC (GG w loose mean mg mb base).K 354 := ⟨by kernel_rfl, by kernel_rfl, by kernel_rfl, by kernel_rfl, by kernel_rfl, by kernel_rfl⟩
def QPV (n d : Int) : PV := .inst 223 [("numerator", .int n), ("denominator", .int d)]
def shr (n d : Int) : Int := if d < 0 then -(Int.gcd n d : Int) else (Int.gcd n d : Int)
def qn (n d : Int) : Int := n.fdiv (shr n d)
def qd (n d : Int) : Int := d.fdiv (shr n d)
theorem shr_ne {n d : Int} (h : d ≠ 0) : shr n d ≠ 0 := by
  have : Int.gcd n d ≠ 0 := fun e => h (Int.gcd_eq_zero_iff.mp e).2
  unfold shr
  split <;> omega
theorem gcd_ne {n d : Int} (h : d ≠ 0) : ((Int.gcd n d : Nat) : Int) ≠ 0 := by
  have : Int.gcd n d ≠ 0 := fun e => h (Int.gcd_eq_zero_iff.mp e).2
  omega
theorem quot2 (O : (GG w loose mean mg mb base).Ok) {n d : Int} (hd : d ≠ 0) {k : Nat} (hk : 100 ≤ k) : Fn (GG w loose mean mg mb base) (k + 2) (.ref 223) [.int n, .int d] [] (fun p => p = QPV (qn n d) (qd n d)) none := by
  have h1 := gcd_ne (n := n) hd
  have h2 : -((Int.gcd n d : Nat) : Int) ≠ 0 := by omega
  refine fn_class O (f := 94) (ps := fun a => [("self", .raw (.ref a)), ("numerator", .int n), ("denominator", .int d)]) (by kernel_rfl) (by kernel_rfl) (by kernel_rfl) (by rfl) (by kernel_rfl) (fun x => ?_) (fun a => ?_) (fun _ => by rfl) (fun _ => of_decide_eq_true (by kernel_rfl)) (by rfl) rfl rfl rfl
  · intro s Z vs kvs X rv hk rk
    obtain rfl := kv0 hk
    cases rv with | cons a b =>
    cases b with | cons b c =>
    cases c with | cons c e =>
    cases a; cases c; cases b; cases e
    exact ⟨[("self", .ref x), ("numerator", .int n _), ("denominator", .int d _)], binds_K X rfl rfl rfl rfl rfl, .cons (.raw _) (.cons (.int _ _) (.cons (.int _ _) .nil))⟩
  · refine exI_stmt (fun own => ?_)
    walk_at "go"
    refine op_isiInt O (b := false) (by kernel_rfl) ?_
    walk_at "go"
    try refine ⟨rfl, rfl, ?_⟩
    refine exI_stmt (fun own => ?_)
    walk_at "go"
    refine if_f (beq_eq_false_iff_ne.mpr (by assumption)) ?_
    walk_at "go"
    try refine ⟨rfl, rfl, ?_⟩
    refine exI_stmt (fun own => ?_)
    walk_at "go"
    refine cl_use0 (divisor_spec (by assumption)) (by omega) ?_
    rintro _ rfl
    walk_at "go"
    try refine ⟨rfl, rfl, ?_⟩
    refine exI_stmt (fun own => ?_)
    walk_at "go"
    apply if_b
    · intro c
      walk_at "go"
      try refine ⟨rfl, rfl, ?_⟩
      refine exI_set (by assumption) (.head) (by rfl) (by decide) (fun _ => by rfl) (by kernel_rfl) (by kernel_rfl) (by kernel_rfl) (by kernel_rfl) rfl (by simp) (fun own => ?_)
      walk_at "go"
      refine op_fdiv (by assumption) (by assumption) (by assumption) rfl rfl rfl ?_
      try refine ⟨rfl, ?_⟩
      refine exI_set (by assumption) (.head) (by rfl) (by decide) (fun _ => by rfl) (by kernel_rfl) (by kernel_rfl) (by kernel_rfl) (by kernel_rfl) rfl (by simp) (fun own => ?_)
      walk_at "go"
      refine op_fdiv (by assumption) (by assumption) (by assumption) rfl rfl rfl ?_
      try refine ⟨rfl, ?_⟩
      refine exI_nil ?_
      simp only [QPV, qn, qd, shr, of_decide_eq_true c, if_true]; rfl
    · intro c
      walk_at "go"
      try refine ⟨rfl, rfl, ?_⟩
      refine exI_set (by assumption) (.head) (by rfl) (by decide) (fun _ => by rfl) (by kernel_rfl) (by kernel_rfl) (by kernel_rfl) (by kernel_rfl) rfl (by simp) (fun own => ?_)
      walk_at "go"
      refine op_fdiv (by assumption) (by assumption) (by assumption) rfl rfl rfl ?_
      try refine ⟨rfl, ?_⟩
      refine exI_set (by assumption) (.head) (by rfl) (by decide) (fun _ => by rfl) (by kernel_rfl) (by kernel_rfl) (by kernel_rfl) (by kernel_rfl) rfl (by simp) (fun own => ?_)
      walk_at "go"
      refine op_fdiv (by assumption) (by assumption) (by assumption) rfl rfl rfl ?_
      try refine ⟨rfl, ?_⟩
      refine exI_nil ?_
      simp only [QPV, qn, qd, shr, of_decide_eq_false c, if_false]; rfl
theorem quot1 (O : (GG w loose mean mg mb base).Ok) {n : Int} {k : Nat} (hk : 100 ≤ k) : Fn (GG w loose mean mg mb base) (k + 2) (.ref 223) [.int n] [] (fun p => p = QPV (qn n 1) (qd n 1)) none := by
  suffices key : ∀ e : Int, e = 1 → Fn (GG w loose mean mg mb base) (k + 2) (.ref 223) [.int n] [] (fun p => p = QPV (qn n e) (qd n e)) none from key 1 rfl
  intro e he
  have hd : e ≠ 0 := by omega
  have h1 := gcd_ne (n := n) hd
  have h2 : -((Int.gcd n e : Nat) : Int) ≠ 0 := by omega
  refine fn_class O (f := 94) (ps := fun a => [("self", .raw (.ref a)), ("numerator", .int n), ("denominator", .int e)]) (by kernel_rfl) (by kernel_rfl) (by kernel_rfl) (by rfl) (by kernel_rfl) (fun x => ?_) (fun a => ?_) (fun _ => by rfl) (fun _ => of_decide_eq_true (by kernel_rfl)) (by rfl) rfl rfl rfl
  · intro s Z vs kvs X rv hk rk
    obtain rfl := kv0 hk
    cases rv with | cons a b =>
    cases b with | cons b c =>
    cases a; cases c; cases b
    exact ⟨[("self", .ref x), ("numerator", .int n _), ("denominator", .int 1 430)], binds_K X rfl rfl rfl rfl rfl, .cons (.raw _) (.cons (.int _ _) (.cons (by rw [he]; exact .int 1 430) .nil))⟩
  · refine exI_stmt (fun own => ?_)
    walk_at "go"
    refine op_isiInt O (b := false) (by kernel_rfl) ?_
    walk_at "go"
    try refine ⟨rfl, rfl, ?_⟩
    refine exI_stmt (fun own => ?_)
    walk_at "go"
    refine if_f (beq_eq_false_iff_ne.mpr (by assumption)) ?_
    walk_at "go"
    try refine ⟨rfl, rfl, ?_⟩
    refine exI_stmt (fun own => ?_)
    walk_at "go"
    refine cl_use0 (divisor_spec (by assumption)) (by omega) ?_
    rintro _ rfl
    walk_at "go"
    try refine ⟨rfl, rfl, ?_⟩
    refine exI_stmt (fun own => ?_)
    walk_at "go"
    apply if_b
    · intro c
      walk_at "go"
      try refine ⟨rfl, rfl, ?_⟩
      refine exI_set (by assumption) (.head) (by rfl) (by decide) (fun _ => by rfl) (by kernel_rfl) (by kernel_rfl) (by kernel_rfl) (by kernel_rfl) rfl (by simp) (fun own => ?_)
      walk_at "go"
      refine op_fdiv (by assumption) (by assumption) (by assumption) rfl rfl rfl ?_
      try refine ⟨rfl, ?_⟩
      refine exI_set (by assumption) (.head) (by rfl) (by decide) (fun _ => by rfl) (by kernel_rfl) (by kernel_rfl) (by kernel_rfl) (by kernel_rfl) rfl (by simp) (fun own => ?_)
      walk_at "go"
      refine op_fdiv (by assumption) (by assumption) (by assumption) rfl rfl rfl ?_
      try refine ⟨rfl, ?_⟩
      refine exI_nil ?_
      simp only [QPV, qn, qd, shr, of_decide_eq_true c, if_true]; rfl
    · intro c
      walk_at "go"
      try refine ⟨rfl, rfl, ?_⟩
      refine exI_set (by assumption) (.head) (by rfl) (by decide) (fun _ => by rfl) (by kernel_rfl) (by kernel_rfl) (by kernel_rfl) (by kernel_rfl) rfl (by simp) (fun own => ?_)
      walk_at "go"
      refine op_fdiv (by assumption) (by assumption) (by assumption) rfl rfl rfl ?_
      try refine ⟨rfl, ?_⟩
      refine exI_set (by assumption) (.head) (by rfl) (by decide) (fun _ => by rfl) (by kernel_rfl) (by kernel_rfl) (by kernel_rfl) (by kernel_rfl) rfl (by simp) (fun own => ?_)
      walk_at "go"
      refine op_fdiv (by assumption) (by assumption) (by assumption) rfl rfl rfl ?_
      try refine ⟨rfl, ?_⟩
      refine exI_nil ?_
      simp only [QPV, qn, qd, shr, of_decide_eq_false c, if_false]; rfl
theorem quotQ (O : (GG w loose mean mg mb base).Ok) {n d : Int} (hd : 1 * d ≠ 0) {k : Nat} (hk : 100 ≤ k) : Fn (GG w loose mean mg mb base) (k + 2) (.ref 223) [QPV n d] [] (fun p => p = QPV (qn n (1 * d)) (qd n (1 * d))) none := by
  have h1 := gcd_ne (n := n) hd
  have h2 : -((Int.gcd n (1 * d) : Nat) : Int) ≠ 0 := by omega
  refine fn_class O (f := 94) (ps := fun a => [("self", .raw (.ref a)), ("numerator", .inst 223 [("numerator", .int n), ("denominator", .int d)]), ("denominator", .int 1)]) (by kernel_rfl) (by kernel_rfl) (by kernel_rfl) (by rfl) (by kernel_rfl) (fun x => ?_) (fun a => ?_) (fun _ => by rfl) (fun _ => of_decide_eq_true (by kernel_rfl)) (by rfl) rfl rfl rfl
  · intro s Z vs kvs X rv hk rk
    obtain rfl := kv0 hk
    cases rv with | cons a b =>
    cases b with | @cons v _ _ _ b c =>
    cases a; cases c
    exact ⟨[("self", .ref x), ("numerator", v), ("denominator", .int 1 430)], binds_K X rfl rfl rfl rfl rfl, .cons (.raw _) (.cons b (.cons (.int _ _) .nil))⟩
  · refine exI_stmt (fun own => ?_)
    walk_at "go"
    refine op_isiInst O (b := true) plain_Q (by kernel_rfl) ?_
    walk_at "go"
    refine d1_field O (p := .int d) rfl ?_ (by kernel_rfl) (by kernel_rfl) (attr := none) (by kernel_rfl) (by kernel_rfl)
    refine op_mul (.of_left (intBits_le_64 (by decide) (by decide))) ?_
    walk_at "go"
    refine d1_field O (p := .int n) rfl ?_ (by kernel_rfl) (by kernel_rfl) (attr := none) (by kernel_rfl) (by kernel_rfl)
    walk_at "go"
    try refine ⟨rfl, rfl, ?_⟩
    refine exI_stmt (fun own => ?_)
    walk_at "go"
    refine if_f (beq_eq_false_iff_ne.mpr (by assumption)) ?_
    walk_at "go"
    try refine ⟨rfl, rfl, ?_⟩
    refine exI_stmt (fun own => ?_)
    walk_at "go"
    refine cl_use0 (divisor_spec (by assumption)) (by omega) ?_
    rintro _ rfl
    walk_at "go"
    try refine ⟨rfl, rfl, ?_⟩
    refine exI_stmt (fun own => ?_)
    walk_at "go"
    apply if_b
    · intro c
      walk_at "go"
      try refine ⟨rfl, rfl, ?_⟩
      refine exI_set (by assumption) (.head) (by rfl) (by decide) (fun _ => by rfl) (by kernel_rfl) (by kernel_rfl) (by kernel_rfl) (by kernel_rfl) rfl (by simp) (fun own => ?_)
      walk_at "go"
      refine op_fdiv (by assumption) (by assumption) (by assumption) rfl rfl rfl ?_
      try refine ⟨rfl, ?_⟩
      refine exI_set (by assumption) (.head) (by rfl) (by decide) (fun _ => by rfl) (by kernel_rfl) (by kernel_rfl) (by kernel_rfl) (by kernel_rfl) rfl (by simp) (fun own => ?_)
      walk_at "go"
      refine op_fdiv (by assumption) (by assumption) (by assumption) rfl rfl rfl ?_
      try refine ⟨rfl, ?_⟩
      refine exI_nil ?_
      simp only [QPV, qn, qd, shr, of_decide_eq_true c, if_true]; rfl
    · intro c
      walk_at "go"
      try refine ⟨rfl, rfl, ?_⟩
      refine exI_set (by assumption) (.head) (by rfl) (by decide) (fun _ => by rfl) (by kernel_rfl) (by kernel_rfl) (by kernel_rfl) (by kernel_rfl) rfl (by simp) (fun own => ?_)
      walk_at "go"
      refine op_fdiv (by assumption) (by assumption) (by assumption) rfl rfl rfl ?_
      try refine ⟨rfl, ?_⟩
      refine exI_set (by assumption) (.head) (by rfl) (by decide) (fun _ => by rfl) (by kernel_rfl) (by kernel_rfl) (by kernel_rfl) (by kernel_rfl) rfl (by simp) (fun own => ?_)
      walk_at "go"
      refine op_fdiv (by assumption) (by assumption) (by assumption) rfl rfl rfl ?_
      try refine ⟨rfl, ?_⟩
      refine exI_nil ?_
      simp only [QPV, qn, qd, shr, of_decide_eq_false c, if_false]; rfl
end
end
end Mine

namespace Mine
open PySem PySem.W PySem.Calls PyProof.Rows
section
local macro_rules | `(tactic| walk_at "nm") => `(tactic| first | with_reducible exact nm_add | with_reducible exact nm_mul | with_reducible exact nm_pow_operator | with_reducible exact nm_sub | with_reducible exact nm_truediv | with_reducible exact nm_DefinitionSyntaxError | with_reducible exact nm_common_divisor | with_reducible exact nm_Quotient | with_reducible exact nm_whole | with_reducible exact nm_number_from_text | with_reducible exact nm_TokenInfo | with_reducible exact nm_end_of_figures | with_reducible exact nm_end_of_number | with_reducible exact nm_tokenizer | with_reducible exact nm__power | with_reducible exact nm__divided | with_reducible exact nm__plus | with_reducible exact nm__minus | with_reducible exact nm__UNARY_OPERATOR_MAP | with_reducible exact nm__BINARY_OPERATOR_MAP | with_reducible exact nm__OP_PRIORITY | with_reducible exact nm_EvalTreeNode | with_reducible exact nm__build_eval_tree | with_reducible exact nm_build_eval_tree | with_reducible exact nm__law_cell | with_reducible exact nm__law_tree | with_reducible exact nm__law_bind | with_reducible exact nm__law_is_bare | with_reducible exact nm__law_text | with_reducible exact nm__law_within | with_reducible exact nm__law_told | with_reducible exact nm__law_value | with_reducible exact nm__law_number | with_reducible exact nm__law_is_refused)
local macro_rules | `(tactic| walk_at "mem") => `(tactic| repeat (first | with_reducible exact LMem.head | with_reducible apply LMem.tail))
local macro_rules | `(tactic| walk_at "put") => `(tactic| first
  | with_reducible exact PutR.nil
  | ((with_reducible refine' PutR.pass ?pn ?pr); (case pn => decide); (case pr => walk_at "put"))
  | ((with_reducible refine' PutR.drop ?pr); (case pr => walk_at "put")))
local macro_rules | `(tactic| walk_at "sub") => `(tactic| repeat (first
  | with_reducible exact LSub.nil
  | ((with_reducible refine' LSub.cons ?lm ?_); (case lm => walk_at "mem"))))
local macro_rules | `(tactic| walk_at "go") => `(tactic| repeat (first
  | with_reducible refine' ev_int ?_
  | with_reducible refine' ev_str ?_
  | ((with_reducible refine' ev_var ?hm ?hl ?hd ?_); (case hm => walk_at "mem"); (case hl => rfl); (case hd => decide))
  | ((with_reducible refine' ev_built ?hO ?hv ?he ?hn ?hl ?hd ?_); (case hO => assumption); (case hv => boot_by_name); (case he => kernel_rfl); (case hn => decide); (case hl => rfl); (case hd => decide))
  | ((with_reducible refine' ev_topS ?hO ?he ?hl ?hd ?_); (case he => first | with_reducible exact nm_ENDMARKER | with_reducible exact nm_NAME | with_reducible exact nm_NUMBER | with_reducible exact nm_OP); (case hO => assumption); (case hl => rfl); (case hd => decide))
  | ((with_reducible refine' ev_topI ?hO ?he ?hl ?hd ?_); (case he => with_reducible exact nm__MAX_RECURSION_DEPTH); (case hO => assumption); (case hl => rfl); (case hd => decide))
  | ((with_reducible refine' ev_top ?hO ?he ?hl ?hd ?_); (case hO => assumption); (case he => walk_at "nm"); (case hl => rfl); (case hd => decide))
  | ((with_reducible refine' ev_cel ?hl ?hd ?hc ?hm ?_); (case hl => rfl); (case hd => decide); (case hc => exact rfl); (case hm => exact List.Mem.head _))
  | ((with_reducible refine' And.intro ?hk ?_); (case hk => first | with_reducible exact kp_bi | with_reducible exact kp_ty | ((with_reducible refine' kp_fn ?_); kernel_rfl)))
  | with_reducible refine' evs_nil ?_
  | ((with_reducible refine' evs_more ?he ?_); (case he => intro _; rfl))
  | with_reducible refine' ev_bin ?_
  | with_reducible refine' ev_tup ?_
  | with_reducible refine' ev_lst ?_
  | ((with_reducible refine' And.intro ?hk ?_); (case hk => size_fits))
  | ((with_reducible refine' ev_mcl0 ?hO ?he ?hp ?_); (case hO => assumption); (case he => intro _; exact ⟨_, rfl⟩); (case hp => rfl))
  | ((with_reducible refine' ev_cl0 ?hO ?he ?hp ?_); (case hO => assumption); (case he => intro _; rfl); (case hp => rfl))
  | with_reducible refine' ev_sub ?_
  | ((with_reducible refine' ev_compare ?hm ?_); (case hm => with_unfolding_all rfl))
  | with_reducible refine' ev_attr ?_
  | with_reducible refine' ev_none ?_
  | with_reducible refine' ev_bool ?_
  | with_reducible refine' ev_un ?_
  | with_reducible refine' ev_ife ?_
  | ((with_reducible refine' ev_mcl ?hO ?he ?hp ?hk ?_); (case hO => assumption); (case he => intro _; exact ⟨_, rfl⟩); (case hp => rfl); (case hk => rfl))
  | ((with_reducible refine' ev_cl ?hO ?he ?hp ?hk ?_); (case hO => assumption); (case he => intro _; rfl); (case hp => rfl); (case hk => rfl))
  | with_reducible refine' evk_nil ?_
  | with_reducible refine' evk_cons ?_
  | with_reducible refine' ex_ret ?_
  | ((with_reducible refine' ex_asg ?hl ?hs ?_); (case hl => rfl); (case hs => intro _; rfl))
  | ((with_reducible refine' ex_swap2 ?hs ?hw ?hx ?hy ?_); (case hs => intro _; rfl); (case hw => intro _; rfl); (case hx => rfl); (case hy => rfl))
  | ((with_reducible refine' ex_tup2 ?hs ?hw ?hx ?hy ?_); (case hs => intro _; rfl); (case hw => intro _; rfl); (case hx => rfl); (case hy => rfl))
  | ((with_reducible refine' ex_aug ?hm ?hl ?_); (case hm => walk_at "mem"); (case hl => rfl))
  | ((with_reducible refine' Exists.intro _ (And.intro (?hp : PutR _ _ _ _) ?_)); (case hp => walk_at "put"))
  | with_reducible refine' Exists.intro _ (Exists.intro _ (And.intro rfl ?_))
  | with_reducible refine' Exists.intro _ (And.intro rfl ?_)
  | with_reducible refine' ex_if ?_
  | with_reducible refine' ex_nil ?_
  | with_reducible refine' ex_cont ?_
  | with_reducible refine' ex_pass ?_
  | with_reducible refine' ex_assert ?_
  | with_reducible refine' sq_next ?_
  | with_reducible refine' sq_ret ?_
  | with_reducible refine' sq_brk ?_
  | with_reducible refine' sq_cont ?_
  | with_reducible refine' retp ?_
  | with_reducible refine' loop_ret ?_
  | with_reducible refine' loop_brk ?_
  | with_reducible refine' retn ?_
  | with_reducible refine' ts_not ?_
  | with_reducible refine' ts_andN ?_
  | with_reducible refine' ts_orN ?_
  | with_reducible refine' ts_and ?_
  | with_reducible refine' ts_or ?_
  | ((with_reducible refine' ts_compare ?hm ?_); (case hm => with_unfolding_all rfl))
  | ((with_reducible refine' ts_val ?_ ?he); (case he => intro _ _; rfl))
  | with_reducible refine' d2_add ?_
  | with_reducible refine' d2_sub ?_
  | with_reducible refine' d2_iadd ?_
  | with_reducible refine' d1_neg ?_
  | with_reducible refine' d2_lt ?_
  | with_reducible refine' d2_gt ?_
  | with_reducible refine' d2_le ?_
  | with_reducible refine' d2_ge ?_
  | with_reducible refine' d2_eq ?_
  | with_reducible refine' d2_ne ?_
  | with_reducible refine' d2_seq ?_
  | with_reducible refine' d2_sne ?_
  | with_reducible refine' tr_bool ?_
  | with_reducible refine' tr_none ?_
  | with_reducible refine' tr_int ?_
  | with_reducible refine' cl_abs ?_
  | with_reducible refine' cl_int ?_
  | ((with_reducible refine' op_fdiv ?hO ?hb ?hd ?hg ?hc ?hh ?_); (case hO => assumption); (case hb => decide); (case hd => decide); (case hg => rfl); (case hc => rfl); (case hh => rfl))
  | ((with_reducible refine' op_headNum ?hs ?_); (case hs => intro _ _; exact ⟨_, rfl⟩))
  | ((with_reducible refine' op_headNeg ?hs ?_); (case hs => intro _ _; exact ⟨_, rfl⟩))
  | ((with_reducible refine' op_headBin ?hs ?_); (case hs => intro _ _; exact ⟨_, rfl⟩))
  | ((with_reducible refine' op_head ?hs ?_); (case hs => intro _ _; exact ⟨_, rfl⟩))
  | ((with_reducible refine' op_num1 ?hs ?_); (case hs => intro _ _; exact ⟨_, rfl⟩))
  | ((with_reducible refine' op_neg1 ?hs ?_); (case hs => intro _ _; exact ⟨_, rfl⟩))
  | ((with_reducible refine' op_bin1 ?hs ?_); (case hs => intro _ _; exact ⟨_, rfl⟩))
  | ((with_reducible refine' op_bin2 ?hs ?_); (case hs => intro _ _; exact ⟨_, rfl⟩))
  | ((with_reducible refine' if_t ?hc ?_); (case hc => decide))
  | ((with_reducible refine' if_f ?hc ?_); (case hc => decide))
  | with_reducible refine' ev_slcTo ?_
  | with_reducible refine' ev_slcFrom ?_
  | with_reducible refine' ev_slcBoth ?_
  ))
/-! ## fractions -/
theorem shr_dvd_n (n d : Int) : shr n d ∣ n := by
  unfold shr
  split
  · exact Int.neg_dvd.mpr (Int.gcd_dvd_left ..)
  · exact Int.gcd_dvd_left ..
theorem shr_dvd_d (n d : Int) : shr n d ∣ d := by
  unfold shr
  split
  · exact Int.neg_dvd.mpr (Int.gcd_dvd_right ..)
  · exact Int.gcd_dvd_right ..
theorem qn_mul (n d : Int) : qn n d * shr n d = n := by
  unfold qn
  rw [Int.fdiv_eq_ediv_of_dvd (shr_dvd_n n d)]
  exact Int.ediv_mul_cancel (shr_dvd_n n d)
theorem qd_mul (n d : Int) : qd n d * shr n d = d := by
  unfold qd
  rw [Int.fdiv_eq_ediv_of_dvd (shr_dvd_d n d)]
  exact Int.ediv_mul_cancel (shr_dvd_d n d)
theorem q_cross (n d : Int) : qn n d * d = n * qd n d := by
  conv => lhs; rhs; rw [← qd_mul n d]
  conv => rhs; lhs; rw [← qn_mul n d]
  rw [Int.mul_comm (qd n d), ← Int.mul_assoc]
theorem qd_pos {n d : Int} (h : d ≠ 0) : 0 < qd n d := by
  have e := qd_mul n d
  have g := gcd_ne (n := n) h
  have g' : 0 < ((Int.gcd n d : Nat) : Int) := by omega
  rcases Int.lt_or_gt_of_ne h with hn | hp
  · have hs : shr n d < 0 := by unfold shr; rw [if_pos hn]; omega
    rcases Int.lt_trichotomy 0 (qd n d) with q | q | q
    · exact q
    · rw [← q] at e; omega
    · have := Int.mul_pos_of_neg_of_neg q hs; omega
  · have hs : 0 < shr n d := by unfold shr; rw [if_neg (by omega)]; omega
    rcases Int.lt_trichotomy 0 (qd n d) with q | q | q
    · exact q
    · rw [← q] at e; omega
    · have := Int.mul_neg_of_neg_of_pos q hs; omega
theorem shr_abs (n d : Int) : (shr n d).natAbs = Int.gcd n d := by
  unfold shr
  split <;> omega
theorem q_cop {n d : Int} (h : d ≠ 0) : Int.gcd (qn n d) (qd n d) = 1 := by
  have e : Int.gcd (qn n d * shr n d) (qd n d * shr n d) = Int.gcd (qn n d) (qd n d) * (shr n d).natAbs := Int.gcd_mul_right ..
  rw [qn_mul, qd_mul, shr_abs] at e
  have g : 0 < Int.gcd n d := by have := gcd_ne (n := n) h; omega
  have : Int.gcd (qn n d) (qd n d) * Int.gcd n d = 1 * Int.gcd n d := by omega
  exact Nat.eq_of_mul_eq_mul_right g this
/-- normal form -/
def Nf (n m : Int) : Prop := 0 < m ∧ Int.gcd n m = 1
theorem Nf.of {n d : Int} (h : d ≠ 0) : Nf (qn n d) (qd n d) := ⟨qd_pos h, q_cop h⟩
theorem int_cop {a b c : Int} (h : Int.gcd a b = 1) (hd : b ∣ a * c) : b ∣ c := by
  have h1 : Nat.Coprime b.natAbs a.natAbs := by
    show Nat.gcd b.natAbs a.natAbs = 1
    rw [Nat.gcd_comm]; exact h
  have h2 : b.natAbs ∣ a.natAbs * c.natAbs := by rw [← Int.natAbs_mul]; exact Int.natAbs_dvd_natAbs.mpr hd
  exact Int.natAbs_dvd_natAbs.mp (h1.dvd_of_dvd_mul_left h2)
theorem Nf.uniq {a b c e : Int} (x : Nf a b) (y : Nf c e) (h : a * e = c * b) : a = c ∧ b = e := by
  have h1 : b ∣ e := by
    have : b ∣ a * e := ⟨c, by rw [h, Int.mul_comm]⟩
    exact int_cop x.2 this
  have h2 : e ∣ b := by
    have : e ∣ c * b := ⟨a, by rw [← h, Int.mul_comm]⟩
    exact int_cop y.2 this
  have hb : b = e := Int.dvd_antisymm (Int.le_of_lt x.1) (Int.le_of_lt y.1) h1 h2
  subst hb
  exact ⟨Int.eq_of_mul_eq_mul_right (by have := x.1; omega) h, rfl⟩
theorem q_norm {n m : Int} (h : Nf n m) : qn n m = n ∧ qd n m = m := by
  have hm : m ≠ 0 := by have := h.1; omega
  exact Nf.uniq (Nf.of hm) h (q_cross n m)
theorem q_uniq {a b c e : Int} (hb : b ≠ 0) (he : e ≠ 0) (h : a * e = c * b) : qn a b = qn c e ∧ qd a b = qd c e := by
  refine Nf.uniq (Nf.of hb) (Nf.of he) ?_
  have h1 := q_cross a b
  have h2 := q_cross c e
  have : (qn a b * qd c e) * (b * e) = (qn c e * qd a b) * (b * e) := by
    calc (qn a b * qd c e) * (b * e) = (qn a b * b) * (qd c e * e) := by ac_rfl
      _ = (a * qd a b) * (qd c e * e) := by rw [h1]
      _ = (a * e) * (qd a b * qd c e) := by ac_rfl
      _ = (c * b) * (qd a b * qd c e) := by rw [h]
      _ = (c * qd c e) * (qd a b * b) := by ac_rfl
      _ = (qn c e * e) * (qd a b * b) := by rw [h2]
      _ = (qn c e * qd a b) * (b * e) := by ac_rfl
  exact Int.eq_of_mul_eq_mul_right (Int.mul_ne_zero hb he) this
theorem Nf.one (k : Int) : Nf k 1 := ⟨by decide, by simp⟩
theorem Nf.neg {n m : Int} (h : Nf n m) : Nf (-n) m := ⟨h.1, by rw [Int.neg_gcd]; exact h.2⟩
theorem abs_le_mul {a b : Int} (h : b ≠ 0) : a.natAbs ≤ (a * b).natAbs := by
  rw [Int.natAbs_mul]
  exact Nat.le_mul_of_pos_right _ (by omega)
theorem qn_le {n d : Int} (h : d ≠ 0) : (qn n d).natAbs ≤ n.natAbs := by
  have := abs_le_mul (a := qn n d) (shr_ne (n := n) h)
  rwa [qn_mul] at this
theorem qd_le {n d : Int} (h : d ≠ 0) : (qd n d).natAbs ≤ d.natAbs := by
  have := abs_le_mul (a := qd n d) (shr_ne (n := n) h)
  rwa [qd_mul] at this
theorem bits_le {a : Int} {k : Nat} (h : a.natAbs ≤ 2 ^ k) : Builtin.Int.intBits a ≤ k + 1 := by
  unfold Builtin.Int.intBits
  split
  · omega
  · rename_i h0
    have h0' : a.natAbs ≠ 0 := by simpa using h0
    have : a.natAbs.log2 < k + 1 := (Nat.log2_lt h0').mpr (Nat.lt_of_le_of_lt h (Nat.pow_lt_pow_right (by decide) (Nat.lt_succ_self k)))
    omega
theorem mul_ok {a b : Int} {k l : Nat} (ha : a.natAbs ≤ 2 ^ k) (hb : b.natAbs ≤ 2 ^ l) (hk : k ≤ 100000) (hl : l ≤ 100000) : IntMulOk a b := by
  have h1 := bits_le ha
  have h2 := bits_le hb
  unfold IntMulOk
  have h3 : Builtin.Int.intTooBig ((Builtin.Int.intBits a : Int) + (Builtin.Int.intBits b : Int)) = false := by
    unfold Builtin.Int.intTooBig
    rw [decide_eq_false]
    have : ((bitsLine : Nat) : Int) = 134217728 := by decide
    omega
  intro h
  rw [Bool.and_eq_true] at h
  rw [h3] at h
  exact absurd h.2 (by simp)
end
end Mine

namespace Mine
open PySem PySem.W PySem.Calls PyProof.Rows
section
local macro_rules | `(tactic| walk_at "nm") => `(tactic| first | with_reducible exact nm_add | with_reducible exact nm_mul | with_reducible exact nm_pow_operator | with_reducible exact nm_sub | with_reducible exact nm_truediv | with_reducible exact nm_DefinitionSyntaxError | with_reducible exact nm_common_divisor | with_reducible exact nm_Quotient | with_reducible exact nm_whole | with_reducible exact nm_number_from_text | with_reducible exact nm_TokenInfo | with_reducible exact nm_end_of_figures | with_reducible exact nm_end_of_number | with_reducible exact nm_tokenizer | with_reducible exact nm__power | with_reducible exact nm__divided | with_reducible exact nm__plus | with_reducible exact nm__minus | with_reducible exact nm__UNARY_OPERATOR_MAP | with_reducible exact nm__BINARY_OPERATOR_MAP | with_reducible exact nm__OP_PRIORITY | with_reducible exact nm_EvalTreeNode | with_reducible exact nm__build_eval_tree | with_reducible exact nm_build_eval_tree | with_reducible exact nm__law_cell | with_reducible exact nm__law_tree | with_reducible exact nm__law_bind | with_reducible exact nm__law_is_bare | with_reducible exact nm__law_text | with_reducible exact nm__law_within | with_reducible exact nm__law_told | with_reducible exact nm__law_value | with_reducible exact nm__law_number | with_reducible exact nm__law_is_refused)
local macro_rules | `(tactic| walk_at "mem") => `(tactic| repeat (first | with_reducible exact LMem.head | with_reducible apply LMem.tail))
local macro_rules | `(tactic| walk_at "put") => `(tactic| first
  | with_reducible exact PutR.nil
  | ((with_reducible refine' PutR.pass ?pn ?pr); (case pn => decide); (case pr => walk_at "put"))
  | ((with_reducible refine' PutR.drop ?pr); (case pr => walk_at "put")))
local macro_rules | `(tactic| walk_at "sub") => `(tactic| repeat (first
  | with_reducible exact LSub.nil
  | ((with_reducible refine' LSub.cons ?lm ?_); (case lm => walk_at "mem"))))
local macro_rules | `(tactic| walk_at "go") => `(tactic| repeat (first
  | with_reducible refine' ev_int ?_
  | with_reducible refine' ev_str ?_
  | ((with_reducible refine' ev_var ?hm ?hl ?hd ?_); (case hm => walk_at "mem"); (case hl => rfl); (case hd => decide))
  | ((with_reducible refine' ev_built ?hO ?hv ?he ?hn ?hl ?hd ?_); (case hO => assumption); (case hv => boot_by_name); (case he => kernel_rfl); (case hn => decide); (case hl => rfl); (case hd => decide))
  | ((with_reducible refine' ev_topS ?hO ?he ?hl ?hd ?_); (case he => first | with_reducible exact nm_ENDMARKER | with_reducible exact nm_NAME | with_reducible exact nm_NUMBER | with_reducible exact nm_OP); (case hO => assumption); (case hl => rfl); (case hd => decide))
  | ((with_reducible refine' ev_topI ?hO ?he ?hl ?hd ?_); (case he => with_reducible exact nm__MAX_RECURSION_DEPTH); (case hO => assumption); (case hl => rfl); (case hd => decide))
  | ((with_reducible refine' ev_top ?hO ?he ?hl ?hd ?_); (case hO => assumption); (case he => walk_at "nm"); (case hl => rfl); (case hd => decide))
  | ((with_reducible refine' ev_cel ?hl ?hd ?hc ?hm ?_); (case hl => rfl); (case hd => decide); (case hc => exact rfl); (case hm => exact List.Mem.head _))
  | ((with_reducible refine' And.intro ?hk ?_); (case hk => first | with_reducible exact kp_bi | with_reducible exact kp_ty | ((with_reducible refine' kp_fn ?_); kernel_rfl)))
  | with_reducible refine' evs_nil ?_
  | ((with_reducible refine' evs_more ?he ?_); (case he => intro _; rfl))
  | with_reducible refine' ev_bin ?_
  | with_reducible refine' ev_tup ?_
  | with_reducible refine' ev_lst ?_
  | ((with_reducible refine' And.intro ?hk ?_); (case hk => size_fits))
  | ((with_reducible refine' ev_mcl0 ?hO ?he ?hp ?_); (case hO => assumption); (case he => intro _; exact ⟨_, rfl⟩); (case hp => rfl))
  | ((with_reducible refine' ev_cl0 ?hO ?he ?hp ?_); (case hO => assumption); (case he => intro _; rfl); (case hp => rfl))
  | with_reducible refine' ev_sub ?_
  | ((with_reducible refine' ev_compare ?hm ?_); (case hm => with_unfolding_all rfl))
  | with_reducible refine' ev_attr ?_
  | with_reducible refine' ev_none ?_
  | with_reducible refine' ev_bool ?_
  | with_reducible refine' ev_un ?_
  | with_reducible refine' ev_ife ?_
  | ((with_reducible refine' ev_mcl ?hO ?he ?hp ?hk ?_); (case hO => assumption); (case he => intro _; exact ⟨_, rfl⟩); (case hp => rfl); (case hk => rfl))
  | ((with_reducible refine' ev_cl ?hO ?he ?hp ?hk ?_); (case hO => assumption); (case he => intro _; rfl); (case hp => rfl); (case hk => rfl))
  | with_reducible refine' evk_nil ?_
  | with_reducible refine' evk_cons ?_
  | with_reducible refine' ex_ret ?_
  | ((with_reducible refine' ex_asg ?hl ?hs ?_); (case hl => rfl); (case hs => intro _; rfl))
  | ((with_reducible refine' ex_swap2 ?hs ?hw ?hx ?hy ?_); (case hs => intro _; rfl); (case hw => intro _; rfl); (case hx => rfl); (case hy => rfl))
  | ((with_reducible refine' ex_tup2 ?hs ?hw ?hx ?hy ?_); (case hs => intro _; rfl); (case hw => intro _; rfl); (case hx => rfl); (case hy => rfl))
  | ((with_reducible refine' ex_aug ?hm ?hl ?_); (case hm => walk_at "mem"); (case hl => rfl))
  | ((with_reducible refine' Exists.intro _ (And.intro (?hp : PutR _ _ _ _) ?_)); (case hp => walk_at "put"))
  | with_reducible refine' Exists.intro _ (Exists.intro _ (And.intro rfl ?_))
  | with_reducible refine' Exists.intro _ (And.intro rfl ?_)
  | with_reducible refine' ex_if ?_
  | with_reducible refine' ex_nil ?_
  | with_reducible refine' ex_cont ?_
  | with_reducible refine' ex_pass ?_
  | with_reducible refine' ex_assert ?_
  | with_reducible refine' sq_next ?_
  | with_reducible refine' sq_ret ?_
  | with_reducible refine' sq_brk ?_
  | with_reducible refine' sq_cont ?_
  | with_reducible refine' retp ?_
  | with_reducible refine' loop_ret ?_
  | with_reducible refine' loop_brk ?_
  | with_reducible refine' retn ?_
  | with_reducible refine' ts_not ?_
  | with_reducible refine' ts_andN ?_
  | with_reducible refine' ts_orN ?_
  | with_reducible refine' ts_and ?_
  | with_reducible refine' ts_or ?_
  | ((with_reducible refine' ts_compare ?hm ?_); (case hm => with_unfolding_all rfl))
  | ((with_reducible refine' ts_val ?_ ?he); (case he => intro _ _; rfl))
  | with_reducible refine' d2_add ?_
  | with_reducible refine' d2_sub ?_
  | with_reducible refine' d2_iadd ?_
  | with_reducible refine' d1_neg ?_
  | with_reducible refine' d2_lt ?_
  | with_reducible refine' d2_gt ?_
  | with_reducible refine' d2_le ?_
  | with_reducible refine' d2_ge ?_
  | with_reducible refine' d2_eq ?_
  | with_reducible refine' d2_ne ?_
  | with_reducible refine' d2_seq ?_
  | with_reducible refine' d2_sne ?_
  | with_reducible refine' tr_bool ?_
  | with_reducible refine' tr_none ?_
  | with_reducible refine' tr_int ?_
  | with_reducible refine' cl_abs ?_
  | with_reducible refine' cl_int ?_
  | ((with_reducible refine' op_fdiv ?hO ?hb ?hd ?hg ?hc ?hh ?_); (case hO => assumption); (case hb => decide); (case hd => decide); (case hg => rfl); (case hc => rfl); (case hh => rfl))
  | ((with_reducible refine' op_headNum ?hs ?_); (case hs => intro _ _; exact ⟨_, rfl⟩))
  | ((with_reducible refine' op_headNeg ?hs ?_); (case hs => intro _ _; exact ⟨_, rfl⟩))
  | ((with_reducible refine' op_headBin ?hs ?_); (case hs => intro _ _; exact ⟨_, rfl⟩))
  | ((with_reducible refine' op_head ?hs ?_); (case hs => intro _ _; exact ⟨_, rfl⟩))
  | ((with_reducible refine' op_num1 ?hs ?_); (case hs => intro _ _; exact ⟨_, rfl⟩))
  | ((with_reducible refine' op_neg1 ?hs ?_); (case hs => intro _ _; exact ⟨_, rfl⟩))
  | ((with_reducible refine' op_bin1 ?hs ?_); (case hs => intro _ _; exact ⟨_, rfl⟩))
  | ((with_reducible refine' op_bin2 ?hs ?_); (case hs => intro _ _; exact ⟨_, rfl⟩))
  | ((with_reducible refine' if_t ?hc ?_); (case hc => decide))
  | ((with_reducible refine' if_f ?hc ?_); (case hc => decide))
  | with_reducible refine' ev_slcTo ?_
  | with_reducible refine' ev_slcFrom ?_
  | with_reducible refine' ev_slcBoth ?_
  ))
section
variable {w : World} {loose : List Str} {mean : ExcName → Option Value} {mg mb : Str → Option Value} {base : Heap}
theorem Fn.mono {G : Glb} {d : Nat} {f : Value} {as : List PV} {ks : List (Str × PV)} {R R' : PV → Prop} {X : Option Value} (T : Fn G d f as ks R X) (h : ∀ p, R p → R' p) : Fn G d f as ks R' X := fun A l s Z vs kvs c sub r hk rk =>
  codeAny_mono (T A l s Z vs kvs c sub r hk rk) fun q s' hq => by
    rcases q with e | (v | _ | _ | _)
    · exact hq
    all_goals first | exact hq.elim | skip
    obtain ⟨Z', p, a, b, c⟩ := hq
    exact ⟨Z', p, a, b, h p c⟩
theorem Fn.up {G : Glb} {d d' : Nat} {f : Value} {as : List PV} {ks : List (Str × PV)} {R : PV → Prop} {X : Option Value} (T : Fn G d f as ks R X) (h : d ≤ d') : Fn G d' f as ks R X := fun A l s Z vs kvs c sub r hk rk =>
  T A l s Z vs kvs ⟨c.hd, c.fr, c.ff, c.stay, c.bs, by have := c.room; omega, by have := c.unit; omega⟩ sub r hk rk
abbrev Qq (a b : Int) : PV := QPV (qn a b) (qd a b)
theorem quot_int (O : (GG w loose mean mg mb base).Ok) {n : Int} : Fn (GG w loose mean mg mb base) 102 (.ref 223) [.int n] [] (fun p => p = QPV n 1) none :=
  (quot1 O (k := 100) (Nat.le_refl _)).mono fun p h => by rw [h, (q_norm (Nf.one n)).1, (q_norm (Nf.one n)).2]
theorem quot_q (O : (GG w loose mean mg mb base).Ok) {n m : Int} (h : Nf n m) : Fn (GG w loose mean mg mb base) 102 (.ref 223) [QPV n m] [] (fun p => p = QPV n m) none :=
  (quotQ O (k := 100) (by have := h.1; omega) (Nat.le_refl _)).mono fun p e => by rw [e, Int.one_mul, (q_norm h).1, (q_norm h).2]
theorem quot_2 (O : (GG w loose mean mg mb base).Ok) {n m : Int} (h : m ≠ 0) : Fn (GG w loose mean mg mb base) 102 (.ref 223) [.int n, .int m] [] (fun p => p = Qq n m) none := quot2 O h (k := 100) (Nat.le_refl _)
theorem neg_spec (O : (GG w loose mean mg mb base).Ok) {n m : Int} (h : m ≠ 0) : Fn (GG w loose mean mg mb base) 103 (.ref 129) [QPV n m] [] (fun p => p = Qq (-n) m) none := by
  refine fn_intro O (d := 102) (ps := [("self", QPV n m)]) (by rfl) (by kernel_rfl) (bnds1 fun _ => by rfl) ?_ (by rfl) (of_decide_eq_true (by kernel_rfl)) (by rfl) rfl rfl rfl
  walk_at "go"
  refine d1_field O (C := 223) rfl ?_ (by kernel_rfl) (by kernel_rfl) (attr := none) (by kernel_rfl) (by kernel_rfl)
  walk_at "go"
  refine d1_field O (C := 223) rfl ?_ (by kernel_rfl) (by kernel_rfl) (attr := none) (by kernel_rfl) (by kernel_rfl)
  walk_at "go"
  refine cl_use0 (quot_2 O h) (Nat.le_refl _) ?_
  rintro _ rfl
  walk_at "go"
  rfl
theorem add_int (O : (GG w loose mean mg mb base).Ok) {n m i : Int} {k l : Nat} (h : m ≠ 0) (hn : n.natAbs ≤ 2 ^ k) (hm : m.natAbs ≤ 2 ^ k) (hi : i.natAbs ≤ 2 ^ l) (hk : k ≤ 100000) (hl : l ≤ 100000) : Fn (GG w loose mean mg mb base) 103 (.ref 143) [QPV n m, .int i] [] (fun p => p = Qq (n * 1 + i * m) (m * 1)) none := by
  refine fn_intro O (d := 102) (ps := [("self", QPV n m), ("other", .int i)]) (by rfl) (by kernel_rfl) (bnds2 fun _ _ => by rfl) ?_ (by rfl) (of_decide_eq_true (by kernel_rfl)) (by rfl) rfl rfl rfl
  walk_at "go"
  refine op_isiIntT O [.type "int", .ref 223] rfl (b := true) (by kernel_rfl) ?_
  walk_at "go"
  refine cl_use0 (quot_int O) (Nat.le_refl _) ?_
  rintro _ rfl
  walk_at "go"
  refine d1_field O (C := 223) rfl ?_ (by kernel_rfl) (by kernel_rfl) (attr := none) (by kernel_rfl) (by kernel_rfl)
  walk_at "go"
  refine d1_field O (C := 223) rfl ?_ (by kernel_rfl) (by kernel_rfl) (attr := none) (by kernel_rfl) (by kernel_rfl)
  refine op_mul (.of_right (intBits_le_64 (by decide) (by decide))) ?_
  walk_at "go"
  refine d1_field O (C := 223) rfl ?_ (by kernel_rfl) (by kernel_rfl) (attr := none) (by kernel_rfl) (by kernel_rfl)
  walk_at "go"
  refine d1_field O (C := 223) rfl ?_ (by kernel_rfl) (by kernel_rfl) (attr := none) (by kernel_rfl) (by kernel_rfl)
  refine op_mul (mul_ok hi hm hl hk) ?_
  walk_at "go"
  refine d1_field O (C := 223) rfl ?_ (by kernel_rfl) (by kernel_rfl) (attr := none) (by kernel_rfl) (by kernel_rfl)
  walk_at "go"
  refine d1_field O (C := 223) rfl ?_ (by kernel_rfl) (by kernel_rfl) (attr := none) (by kernel_rfl) (by kernel_rfl)
  refine op_mul (.of_right (intBits_le_64 (by decide) (by decide))) ?_
  walk_at "go"
  refine cl_use0 (quot_2 O (by omega)) (Nat.le_refl _) ?_
  rintro _ rfl
  walk_at "go"
  rfl
theorem add_q (O : (GG w loose mean mg mb base).Ok) {n m n' m' : Int} {k l : Nat} (h : m ≠ 0) (h' : Nf n' m') (hn : n.natAbs ≤ 2 ^ k) (hm : m.natAbs ≤ 2 ^ k) (hn' : n'.natAbs ≤ 2 ^ l) (hm' : m'.natAbs ≤ 2 ^ l) (hk : k ≤ 100000) (hl : l ≤ 100000) : Fn (GG w loose mean mg mb base) 103 (.ref 143) [QPV n m, QPV n' m'] [] (fun p => p = Qq (n * m' + n' * m) (m * m')) none := by
  have hz : m * m' ≠ 0 := Int.mul_ne_zero h (by have := h'.1; omega)
  refine fn_intro O (d := 102) (ps := [("self", QPV n m), ("other", QPV n' m')]) (by rfl) (by kernel_rfl) (bnds2 fun _ _ => by rfl) ?_ (by rfl) (of_decide_eq_true (by kernel_rfl)) (by rfl) rfl rfl rfl
  walk_at "go"
  refine op_isiInstT O plain_Q [.type "int", .ref 223] rfl (b := true) (by kernel_rfl) ?_
  walk_at "go"
  refine cl_use0 (quot_q O h') (Nat.le_refl _) ?_
  rintro _ rfl
  walk_at "go"
  refine d1_field O (C := 223) rfl ?_ (by kernel_rfl) (by kernel_rfl) (attr := none) (by kernel_rfl) (by kernel_rfl)
  walk_at "go"
  refine d1_field O (C := 223) rfl ?_ (by kernel_rfl) (by kernel_rfl) (attr := none) (by kernel_rfl) (by kernel_rfl)
  refine op_mul (mul_ok hn hm' hk hl) ?_
  walk_at "go"
  refine d1_field O (C := 223) rfl ?_ (by kernel_rfl) (by kernel_rfl) (attr := none) (by kernel_rfl) (by kernel_rfl)
  walk_at "go"
  refine d1_field O (C := 223) rfl ?_ (by kernel_rfl) (by kernel_rfl) (attr := none) (by kernel_rfl) (by kernel_rfl)
  refine op_mul (mul_ok hn' hm hl hk) ?_
  walk_at "go"
  refine d1_field O (C := 223) rfl ?_ (by kernel_rfl) (by kernel_rfl) (attr := none) (by kernel_rfl) (by kernel_rfl)
  walk_at "go"
  refine d1_field O (C := 223) rfl ?_ (by kernel_rfl) (by kernel_rfl) (attr := none) (by kernel_rfl) (by kernel_rfl)
  refine op_mul (mul_ok hm hm' hk hl) ?_
  walk_at "go"
  refine cl_use0 (quot_2 O hz) (Nat.le_refl _) ?_
  rintro _ rfl
  walk_at "go"
  rfl
theorem mul_int (O : (GG w loose mean mg mb base).Ok) {n m i : Int} {k l : Nat} (h : m ≠ 0) (hn : n.natAbs ≤ 2 ^ k) (hm : m.natAbs ≤ 2 ^ k) (hi : i.natAbs ≤ 2 ^ l) (hk : k ≤ 100000) (hl : l ≤ 100000) : Fn (GG w loose mean mg mb base) 103 (.ref 164) [QPV n m, .int i] [] (fun p => p = Qq (n * i) (m * 1)) none := by
  refine fn_intro O (d := 102) (ps := [("self", QPV n m), ("other", .int i)]) (by rfl) (by kernel_rfl) (bnds2 fun _ _ => by rfl) ?_ (by rfl) (of_decide_eq_true (by kernel_rfl)) (by rfl) rfl rfl rfl
  walk_at "go"
  refine op_isiIntT O [.type "int", .ref 223] rfl (b := true) (by kernel_rfl) ?_
  walk_at "go"
  refine cl_use0 (quot_int O) (Nat.le_refl _) ?_
  rintro _ rfl
  walk_at "go"
  refine d1_field O (C := 223) rfl ?_ (by kernel_rfl) (by kernel_rfl) (attr := none) (by kernel_rfl) (by kernel_rfl)
  walk_at "go"
  refine d1_field O (C := 223) rfl ?_ (by kernel_rfl) (by kernel_rfl) (attr := none) (by kernel_rfl) (by kernel_rfl)
  refine op_mul (mul_ok hn hi hk hl) ?_
  walk_at "go"
  refine d1_field O (C := 223) rfl ?_ (by kernel_rfl) (by kernel_rfl) (attr := none) (by kernel_rfl) (by kernel_rfl)
  walk_at "go"
  refine d1_field O (C := 223) rfl ?_ (by kernel_rfl) (by kernel_rfl) (attr := none) (by kernel_rfl) (by kernel_rfl)
  refine op_mul (.of_right (intBits_le_64 (by decide) (by decide))) ?_
  walk_at "go"
  refine cl_use0 (quot_2 O (by omega)) (Nat.le_refl _) ?_
  rintro _ rfl
  walk_at "go"
  rfl
theorem mul_q (O : (GG w loose mean mg mb base).Ok) {n m n' m' : Int} {k l : Nat} (h : m ≠ 0) (h' : Nf n' m') (hn : n.natAbs ≤ 2 ^ k) (hm : m.natAbs ≤ 2 ^ k) (hn' : n'.natAbs ≤ 2 ^ l) (hm' : m'.natAbs ≤ 2 ^ l) (hk : k ≤ 100000) (hl : l ≤ 100000) : Fn (GG w loose mean mg mb base) 103 (.ref 164) [QPV n m, QPV n' m'] [] (fun p => p = Qq (n * n') (m * m')) none := by
  have hz : m * m' ≠ 0 := Int.mul_ne_zero h (by have := h'.1; omega)
  refine fn_intro O (d := 102) (ps := [("self", QPV n m), ("other", QPV n' m')]) (by rfl) (by kernel_rfl) (bnds2 fun _ _ => by rfl) ?_ (by rfl) (of_decide_eq_true (by kernel_rfl)) (by rfl) rfl rfl rfl
  walk_at "go"
  refine op_isiInstT O plain_Q [.type "int", .ref 223] rfl (b := true) (by kernel_rfl) ?_
  walk_at "go"
  refine cl_use0 (quot_q O h') (Nat.le_refl _) ?_
  rintro _ rfl
  walk_at "go"
  refine d1_field O (C := 223) rfl ?_ (by kernel_rfl) (by kernel_rfl) (attr := none) (by kernel_rfl) (by kernel_rfl)
  walk_at "go"
  refine d1_field O (C := 223) rfl ?_ (by kernel_rfl) (by kernel_rfl) (attr := none) (by kernel_rfl) (by kernel_rfl)
  refine op_mul (mul_ok hn hn' hk hl) ?_
  walk_at "go"
  refine d1_field O (C := 223) rfl ?_ (by kernel_rfl) (by kernel_rfl) (attr := none) (by kernel_rfl) (by kernel_rfl)
  walk_at "go"
  refine d1_field O (C := 223) rfl ?_ (by kernel_rfl) (by kernel_rfl) (attr := none) (by kernel_rfl) (by kernel_rfl)
  refine op_mul (mul_ok hm hm' hk hl) ?_
  walk_at "go"
  refine cl_use0 (quot_2 O hz) (Nat.le_refl _) ?_
  rintro _ rfl
  walk_at "go"
  rfl
theorem div_int (O : (GG w loose mean mg mb base).Ok) {n m i : Int} {k l : Nat} (h : m ≠ 0) (h0 : i ≠ 0) (hn : n.natAbs ≤ 2 ^ k) (hm : m.natAbs ≤ 2 ^ k) (hi : i.natAbs ≤ 2 ^ l) (hk : k ≤ 100000) (hl : l ≤ 100000) : Fn (GG w loose mean mg mb base) 103 (.ref 171) [QPV n m, .int i] [] (fun p => p = Qq (n * 1) (m * i)) none := by
  have hz : m * i ≠ 0 := Int.mul_ne_zero h h0
  refine fn_intro O (d := 102) (ps := [("self", QPV n m), ("other", .int i)]) (by rfl) (by kernel_rfl) (bnds2 fun _ _ => by rfl) ?_ (by rfl) (of_decide_eq_true (by kernel_rfl)) (by rfl) rfl rfl rfl
  walk_at "go"
  refine op_isiIntT O [.type "int", .ref 223] rfl (b := true) (by kernel_rfl) ?_
  walk_at "go"
  refine cl_use0 (quot_int O) (Nat.le_refl _) ?_
  rintro _ rfl
  walk_at "go"
  refine d1_field O (C := 223) rfl ?_ (by kernel_rfl) (by kernel_rfl) (attr := none) (by kernel_rfl) (by kernel_rfl)
  walk_at "go"
  refine d1_field O (C := 223) rfl ?_ (by kernel_rfl) (by kernel_rfl) (attr := none) (by kernel_rfl) (by kernel_rfl)
  refine op_mul (.of_right (intBits_le_64 (by decide) (by decide))) ?_
  walk_at "go"
  refine d1_field O (C := 223) rfl ?_ (by kernel_rfl) (by kernel_rfl) (attr := none) (by kernel_rfl) (by kernel_rfl)
  walk_at "go"
  refine d1_field O (C := 223) rfl ?_ (by kernel_rfl) (by kernel_rfl) (attr := none) (by kernel_rfl) (by kernel_rfl)
  refine op_mul (mul_ok hm hi hk hl) ?_
  walk_at "go"
  refine cl_use0 (quot_2 O hz) (Nat.le_refl _) ?_
  rintro _ rfl
  walk_at "go"
  rfl
theorem div_q (O : (GG w loose mean mg mb base).Ok) {n m n' m' : Int} {k l : Nat} (h : m ≠ 0) (h' : Nf n' m') (h0 : n' ≠ 0) (hn : n.natAbs ≤ 2 ^ k) (hm : m.natAbs ≤ 2 ^ k) (hn' : n'.natAbs ≤ 2 ^ l) (hm' : m'.natAbs ≤ 2 ^ l) (hk : k ≤ 100000) (hl : l ≤ 100000) : Fn (GG w loose mean mg mb base) 103 (.ref 171) [QPV n m, QPV n' m'] [] (fun p => p = Qq (n * m') (m * n')) none := by
  have hz : m * n' ≠ 0 := Int.mul_ne_zero h h0
  refine fn_intro O (d := 102) (ps := [("self", QPV n m), ("other", QPV n' m')]) (by rfl) (by kernel_rfl) (bnds2 fun _ _ => by rfl) ?_ (by rfl) (of_decide_eq_true (by kernel_rfl)) (by rfl) rfl rfl rfl
  walk_at "go"
  refine op_isiInstT O plain_Q [.type "int", .ref 223] rfl (b := true) (by kernel_rfl) ?_
  walk_at "go"
  refine cl_use0 (quot_q O h') (Nat.le_refl _) ?_
  rintro _ rfl
  walk_at "go"
  refine d1_field O (C := 223) rfl ?_ (by kernel_rfl) (by kernel_rfl) (attr := none) (by kernel_rfl) (by kernel_rfl)
  walk_at "go"
  refine d1_field O (C := 223) rfl ?_ (by kernel_rfl) (by kernel_rfl) (attr := none) (by kernel_rfl) (by kernel_rfl)
  refine op_mul (mul_ok hn hm' hk hl) ?_
  walk_at "go"
  refine d1_field O (C := 223) rfl ?_ (by kernel_rfl) (by kernel_rfl) (attr := none) (by kernel_rfl) (by kernel_rfl)
  walk_at "go"
  refine d1_field O (C := 223) rfl ?_ (by kernel_rfl) (by kernel_rfl) (attr := none) (by kernel_rfl) (by kernel_rfl)
  refine op_mul (mul_ok hm hn' hk hl) ?_
  walk_at "go"
  refine cl_use0 (quot_2 O hz) (Nat.le_refl _) ?_
  rintro _ rfl
  walk_at "go"
  rfl
end
end
end Mine

namespace Mine
open PySem PySem.W PySem.Calls PyProof.Rows
section
local macro_rules | `(tactic| walk_at "nm") => `(tactic| first | with_reducible exact nm_add | with_reducible exact nm_mul | with_reducible exact nm_pow_operator | with_reducible exact nm_sub | with_reducible exact nm_truediv | with_reducible exact nm_DefinitionSyntaxError | with_reducible exact nm_common_divisor | with_reducible exact nm_Quotient | with_reducible exact nm_whole | with_reducible exact nm_number_from_text | with_reducible exact nm_TokenInfo | with_reducible exact nm_end_of_figures | with_reducible exact nm_end_of_number | with_reducible exact nm_tokenizer | with_reducible exact nm__power | with_reducible exact nm__divided | with_reducible exact nm__plus | with_reducible exact nm__minus | with_reducible exact nm__UNARY_OPERATOR_MAP | with_reducible exact nm__BINARY_OPERATOR_MAP | with_reducible exact nm__OP_PRIORITY | with_reducible exact nm_EvalTreeNode | with_reducible exact nm__build_eval_tree | with_reducible exact nm_build_eval_tree | with_reducible exact nm__law_cell | with_reducible exact nm__law_tree | with_reducible exact nm__law_bind | with_reducible exact nm__law_is_bare | with_reducible exact nm__law_text | with_reducible exact nm__law_within | with_reducible exact nm__law_told | with_reducible exact nm__law_value | with_reducible exact nm__law_number | with_reducible exact nm__law_is_refused)
local macro_rules | `(tactic| walk_at "mem") => `(tactic| repeat (first | with_reducible exact LMem.head | with_reducible apply LMem.tail))
local macro_rules | `(tactic| walk_at "put") => `(tactic| first
  | with_reducible exact PutR.nil
  | ((with_reducible refine' PutR.pass ?pn ?pr); (case pn => decide); (case pr => walk_at "put"))
  | ((with_reducible refine' PutR.drop ?pr); (case pr => walk_at "put")))
local macro_rules | `(tactic| walk_at "sub") => `(tactic| repeat (first
  | with_reducible exact LSub.nil
  | ((with_reducible refine' LSub.cons ?lm ?_); (case lm => walk_at "mem"))))
local macro_rules | `(tactic| walk_at "go") => `(tactic| repeat (first
  | with_reducible refine' ev_int ?_
  | with_reducible refine' ev_str ?_
  | ((with_reducible refine' ev_var ?hm ?hl ?hd ?_); (case hm => walk_at "mem"); (case hl => rfl); (case hd => decide))
  | ((with_reducible refine' ev_built ?hO ?hv ?he ?hn ?hl ?hd ?_); (case hO => assumption); (case hv => boot_by_name); (case he => kernel_rfl); (case hn => decide); (case hl => rfl); (case hd => decide))
  | ((with_reducible refine' ev_topS ?hO ?he ?hl ?hd ?_); (case he => first | with_reducible exact nm_ENDMARKER | with_reducible exact nm_NAME | with_reducible exact nm_NUMBER | with_reducible exact nm_OP); (case hO => assumption); (case hl => rfl); (case hd => decide))
  | ((with_reducible refine' ev_topI ?hO ?he ?hl ?hd ?_); (case he => with_reducible exact nm__MAX_RECURSION_DEPTH); (case hO => assumption); (case hl => rfl); (case hd => decide))
  | ((with_reducible refine' ev_top ?hO ?he ?hl ?hd ?_); (case hO => assumption); (case he => walk_at "nm"); (case hl => rfl); (case hd => decide))
  | ((with_reducible refine' ev_cel ?hl ?hd ?hc ?hm ?_); (case hl => rfl); (case hd => decide); (case hc => exact rfl); (case hm => exact List.Mem.head _))
  | ((with_reducible refine' And.intro ?hk ?_); (case hk => first | with_reducible exact kp_bi | with_reducible exact kp_ty | ((with_reducible refine' kp_fn ?_); kernel_rfl)))
  | with_reducible refine' evs_nil ?_
  | ((with_reducible refine' evs_more ?he ?_); (case he => intro _; rfl))
  | with_reducible refine' ev_bin ?_
  | with_reducible refine' ev_tup ?_
  | with_reducible refine' ev_lst ?_
  | ((with_reducible refine' And.intro ?hk ?_); (case hk => size_fits))
  | ((with_reducible refine' ev_mcl0 ?hO ?he ?hp ?_); (case hO => assumption); (case he => intro _; exact ⟨_, rfl⟩); (case hp => rfl))
  | ((with_reducible refine' ev_cl0 ?hO ?he ?hp ?_); (case hO => assumption); (case he => intro _; rfl); (case hp => rfl))
  | with_reducible refine' ev_sub ?_
  | ((with_reducible refine' ev_compare ?hm ?_); (case hm => with_unfolding_all rfl))
  | with_reducible refine' ev_attr ?_
  | with_reducible refine' ev_none ?_
  | with_reducible refine' ev_bool ?_
  | with_reducible refine' ev_un ?_
  | with_reducible refine' ev_ife ?_
  | ((with_reducible refine' ev_mcl ?hO ?he ?hp ?hk ?_); (case hO => assumption); (case he => intro _; exact ⟨_, rfl⟩); (case hp => rfl); (case hk => rfl))
  | ((with_reducible refine' ev_cl ?hO ?he ?hp ?hk ?_); (case hO => assumption); (case he => intro _; rfl); (case hp => rfl); (case hk => rfl))
  | with_reducible refine' evk_nil ?_
  | with_reducible refine' evk_cons ?_
  | with_reducible refine' ex_ret ?_
  | ((with_reducible refine' ex_asg ?hl ?hs ?_); (case hl => rfl); (case hs => intro _; rfl))
  | ((with_reducible refine' ex_swap2 ?hs ?hw ?hx ?hy ?_); (case hs => intro _; rfl); (case hw => intro _; rfl); (case hx => rfl); (case hy => rfl))
  | ((with_reducible refine' ex_tup2 ?hs ?hw ?hx ?hy ?_); (case hs => intro _; rfl); (case hw => intro _; rfl); (case hx => rfl); (case hy => rfl))
  | ((with_reducible refine' ex_aug ?hm ?hl ?_); (case hm => walk_at "mem"); (case hl => rfl))
  | ((with_reducible refine' Exists.intro _ (And.intro (?hp : PutR _ _ _ _) ?_)); (case hp => walk_at "put"))
  | with_reducible refine' Exists.intro _ (Exists.intro _ (And.intro rfl ?_))
  | with_reducible refine' Exists.intro _ (And.intro rfl ?_)
  | with_reducible refine' ex_if ?_
  | with_reducible refine' ex_nil ?_
  | with_reducible refine' ex_cont ?_
  | with_reducible refine' ex_pass ?_
  | with_reducible refine' ex_assert ?_
  | with_reducible refine' sq_next ?_
  | with_reducible refine' sq_ret ?_
  | with_reducible refine' sq_brk ?_
  | with_reducible refine' sq_cont ?_
  | with_reducible refine' retp ?_
  | with_reducible refine' loop_ret ?_
  | with_reducible refine' loop_brk ?_
  | with_reducible refine' retn ?_
  | with_reducible refine' ts_not ?_
  | with_reducible refine' ts_andN ?_
  | with_reducible refine' ts_orN ?_
  | with_reducible refine' ts_and ?_
  | with_reducible refine' ts_or ?_
  | ((with_reducible refine' ts_compare ?hm ?_); (case hm => with_unfolding_all rfl))
  | ((with_reducible refine' ts_val ?_ ?he); (case he => intro _ _; rfl))
  | with_reducible refine' d2_add ?_
  | with_reducible refine' d2_sub ?_
  | with_reducible refine' d2_iadd ?_
  | with_reducible refine' d1_neg ?_
  | with_reducible refine' d2_lt ?_
  | with_reducible refine' d2_gt ?_
  | with_reducible refine' d2_le ?_
  | with_reducible refine' d2_ge ?_
  | with_reducible refine' d2_eq ?_
  | with_reducible refine' d2_ne ?_
  | with_reducible refine' d2_seq ?_
  | with_reducible refine' d2_sne ?_
  | with_reducible refine' tr_bool ?_
  | with_reducible refine' tr_none ?_
  | with_reducible refine' tr_int ?_
  | with_reducible refine' cl_abs ?_
  | with_reducible refine' cl_int ?_
  | ((with_reducible refine' op_fdiv ?hO ?hb ?hd ?hg ?hc ?hh ?_); (case hO => assumption); (case hb => decide); (case hd => decide); (case hg => rfl); (case hc => rfl); (case hh => rfl))
  | ((with_reducible refine' op_headNum ?hs ?_); (case hs => intro _ _; exact ⟨_, rfl⟩))
  | ((with_reducible refine' op_headNeg ?hs ?_); (case hs => intro _ _; exact ⟨_, rfl⟩))
  | ((with_reducible refine' op_headBin ?hs ?_); (case hs => intro _ _; exact ⟨_, rfl⟩))
  | ((with_reducible refine' op_head ?hs ?_); (case hs => intro _ _; exact ⟨_, rfl⟩))
  | ((with_reducible refine' op_num1 ?hs ?_); (case hs => intro _ _; exact ⟨_, rfl⟩))
  | ((with_reducible refine' op_neg1 ?hs ?_); (case hs => intro _ _; exact ⟨_, rfl⟩))
  | ((with_reducible refine' op_bin1 ?hs ?_); (case hs => intro _ _; exact ⟨_, rfl⟩))
  | ((with_reducible refine' op_bin2 ?hs ?_); (case hs => intro _ _; exact ⟨_, rfl⟩))
  | ((with_reducible refine' if_t ?hc ?_); (case hc => decide))
  | ((with_reducible refine' if_f ?hc ?_); (case hc => decide))
  | with_reducible refine' ev_slcTo ?_
  | with_reducible refine' ev_slcFrom ?_
  | with_reducible refine' ev_slcBoth ?_
  ))
section
variable {w : World} {loose : List Str} {mean : ExcName → Option Value} {mg mb : Str → Option Value} {base : Heap}
theorem sub_int (O : (GG w loose mean mg mb base).Ok) {n m i : Int} {k l : Nat} (h : m ≠ 0) (hn : n.natAbs ≤ 2 ^ k) (hm : m.natAbs ≤ 2 ^ k) (hi : i.natAbs ≤ 2 ^ l) (hk : k ≤ 100000) (hl : l ≤ 100000) : Fn (GG w loose mean mg mb base) 104 (.ref 150) [QPV n m, .int i] [] (fun p => p = Qq (n * 1 + -i * m) (m * 1)) none := by
  refine fn_intro O (d := 103) (ps := [("self", QPV n m), ("other", .int i)]) (by rfl) (by kernel_rfl) (bnds2 fun _ _ => by rfl) ?_ (by rfl) (of_decide_eq_true (by kernel_rfl)) (by rfl) rfl rfl rfl
  walk_at "go"
  refine op_isiIntT O [.type "int", .ref 223] rfl (b := true) (by kernel_rfl) ?_
  walk_at "go"
  refine op_binI O (D := 223) (f := 143) (rc := some (.ref 143)) (fo := some (.builtin "int.__add__")) (ro := some (.builtin "int.__radd__")) (by kernel_rfl) (by kernel_rfl) (by kernel_rfl) (by kernel_rfl) (.inr ⟨_, rfl⟩) (by kernel_rfl) (by kernel_rfl) (by kernel_rfl) (add_int O h hn hm (i := -i) (by rw [Int.natAbs_neg]; exact hi) hk hl) (Nat.le_refl _) ?_
  rintro _ rfl
  exact ⟨rfl, rfl⟩
theorem sub_q (O : (GG w loose mean mg mb base).Ok) {n m n' m' : Int} {k l : Nat} (h : m ≠ 0) (h' : Nf n' m') (hn : n.natAbs ≤ 2 ^ k) (hm : m.natAbs ≤ 2 ^ k) (hn' : n'.natAbs ≤ 2 ^ l) (hm' : m'.natAbs ≤ 2 ^ l) (hk : k ≤ 100000) (hl : l ≤ 100000) : Fn (GG w loose mean mg mb base) 104 (.ref 150) [QPV n m, QPV n' m'] [] (fun p => p = Qq (n * m' + -n' * m) (m * m')) none := by
  have h0 : m' ≠ 0 := by have := h'.1; omega
  refine fn_intro O (d := 103) (ps := [("self", QPV n m), ("other", QPV n' m')]) (by rfl) (by kernel_rfl) (bnds2 fun _ _ => by rfl) ?_ (by rfl) (of_decide_eq_true (by kernel_rfl)) (by rfl) rfl rfl rfl
  walk_at "go"
  refine op_isiInstT O plain_Q [.type "int", .ref 223] rfl (b := true) (by kernel_rfl) ?_
  walk_at "go"
  refine op_neg O (D := 223) (f := 129) (by kernel_rfl) (by kernel_rfl) (neg_spec O h0) (Nat.le_refl _) ?_
  rintro _ rfl
  rw [show Qq (-n') m' = QPV (-n') m' from by rw [Qq, (q_norm h'.neg).1, (q_norm h'.neg).2]]
  refine op_binS O (D := 223) (f := 143) (by kernel_rfl) (by kernel_rfl) (by kernel_rfl) (add_q O h h'.neg hn hm (by rw [Int.natAbs_neg]; exact hn') hm' hk hl) (Nat.le_refl _) ?_
  rintro _ rfl
  exact ⟨rfl, rfl⟩
theorem rsub_int (O : (GG w loose mean mg mb base).Ok) {n m i : Int} {k l : Nat} (h : Nf n m) (hn : n.natAbs ≤ 2 ^ k) (hm : m.natAbs ≤ 2 ^ k) (hi : i.natAbs ≤ 2 ^ l) (hk : k ≤ 100000) (hl : l ≤ 100000) : Fn (GG w loose mean mg mb base) 104 (.ref 157) [QPV n m, .int i] [] (fun p => p = Qq (-n * 1 + i * m) (m * 1)) none := by
  have h0 : m ≠ 0 := by have := h.1; omega
  refine fn_intro O (d := 103) (ps := [("self", QPV n m), ("other", .int i)]) (by rfl) (by kernel_rfl) (bnds2 fun _ _ => by rfl) ?_ (by rfl) (of_decide_eq_true (by kernel_rfl)) (by rfl) rfl rfl rfl
  walk_at "go"
  refine op_neg O (D := 223) (f := 129) (by kernel_rfl) (by kernel_rfl) (neg_spec O h0) (Nat.le_refl _) ?_
  rintro _ rfl
  rw [show Qq (-n) m = QPV (-n) m from by rw [Qq, (q_norm h.neg).1, (q_norm h.neg).2]]
  walk_at "go"
  refine op_binI O (D := 223) (f := 143) (rc := some (.ref 143)) (fo := some (.builtin "int.__add__")) (ro := some (.builtin "int.__radd__")) (by kernel_rfl) (by kernel_rfl) (by kernel_rfl) (by kernel_rfl) (.inr ⟨_, rfl⟩) (by kernel_rfl) (by kernel_rfl) (by kernel_rfl) (add_int O h0 (by rw [Int.natAbs_neg]; exact hn) hm hi hk hl) (Nat.le_refl _) ?_
  rintro _ rfl
  exact ⟨rfl, rfl⟩
end
end
end Mine

namespace Mine
open PySem PySem.W PySem.Calls PyProof.Rows
section
local macro_rules | `(tactic| walk_at "nm") => `(tactic| first | with_reducible exact nm_add | with_reducible exact nm_mul | with_reducible exact nm_pow_operator | with_reducible exact nm_sub | with_reducible exact nm_truediv | with_reducible exact nm_DefinitionSyntaxError | with_reducible exact nm_common_divisor | with_reducible exact nm_Quotient | with_reducible exact nm_whole | with_reducible exact nm_number_from_text | with_reducible exact nm_TokenInfo | with_reducible exact nm_end_of_figures | with_reducible exact nm_end_of_number | with_reducible exact nm_tokenizer | with_reducible exact nm__power | with_reducible exact nm__divided | with_reducible exact nm__plus | with_reducible exact nm__minus | with_reducible exact nm__UNARY_OPERATOR_MAP | with_reducible exact nm__BINARY_OPERATOR_MAP | with_reducible exact nm__OP_PRIORITY | with_reducible exact nm_EvalTreeNode | with_reducible exact nm__build_eval_tree | with_reducible exact nm_build_eval_tree | with_reducible exact nm__law_cell | with_reducible exact nm__law_tree | with_reducible exact nm__law_bind | with_reducible exact nm__law_is_bare | with_reducible exact nm__law_text | with_reducible exact nm__law_within | with_reducible exact nm__law_told | with_reducible exact nm__law_value | with_reducible exact nm__law_number | with_reducible exact nm__law_is_refused)
local macro_rules | `(tactic| walk_at "mem") => `(tactic| repeat (first | with_reducible exact LMem.head | with_reducible apply LMem.tail))
local macro_rules | `(tactic| walk_at "put") => `(tactic| first
  | with_reducible exact PutR.nil
  | ((with_reducible refine' PutR.pass ?pn ?pr); (case pn => decide); (case pr => walk_at "put"))
  | ((with_reducible refine' PutR.drop ?pr); (case pr => walk_at "put")))
local macro_rules | `(tactic| walk_at "sub") => `(tactic| repeat (first
  | with_reducible exact LSub.nil
  | ((with_reducible refine' LSub.cons ?lm ?_); (case lm => walk_at "mem"))))
local macro_rules | `(tactic| walk_at "go") => `(tactic| repeat (first
  | with_reducible refine' ev_int ?_
  | with_reducible refine' ev_str ?_
  | ((with_reducible refine' ev_var ?hm ?hl ?hd ?_); (case hm => walk_at "mem"); (case hl => rfl); (case hd => decide))
  | ((with_reducible refine' ev_built ?hO ?hv ?he ?hn ?hl ?hd ?_); (case hO => assumption); (case hv => boot_by_name); (case he => kernel_rfl); (case hn => decide); (case hl => rfl); (case hd => decide))
  | ((with_reducible refine' ev_topS ?hO ?he ?hl ?hd ?_); (case he => first | with_reducible exact nm_ENDMARKER | with_reducible exact nm_NAME | with_reducible exact nm_NUMBER | with_reducible exact nm_OP); (case hO => assumption); (case hl => rfl); (case hd => decide))
  | ((with_reducible refine' ev_topI ?hO ?he ?hl ?hd ?_); (case he => with_reducible exact nm__MAX_RECURSION_DEPTH); (case hO => assumption); (case hl => rfl); (case hd => decide))
  | ((with_reducible refine' ev_top ?hO ?he ?hl ?hd ?_); (case hO => assumption); (case he => walk_at "nm"); (case hl => rfl); (case hd => decide))
  | ((with_reducible refine' ev_cel ?hl ?hd ?hc ?hm ?_); (case hl => rfl); (case hd => decide); (case hc => exact rfl); (case hm => exact List.Mem.head _))
  | ((with_reducible refine' And.intro ?hk ?_); (case hk => first | with_reducible exact kp_bi | with_reducible exact kp_ty | ((with_reducible refine' kp_fn ?_); kernel_rfl)))
  | with_reducible refine' evs_nil ?_
  | ((with_reducible refine' evs_more ?he ?_); (case he => intro _; rfl))
  | with_reducible refine' ev_bin ?_
  | with_reducible refine' ev_tup ?_
  | with_reducible refine' ev_lst ?_
  | ((with_reducible refine' And.intro ?hk ?_); (case hk => size_fits))
  | ((with_reducible refine' ev_mcl0 ?hO ?he ?hp ?_); (case hO => assumption); (case he => intro _; exact ⟨_, rfl⟩); (case hp => rfl))
  | ((with_reducible refine' ev_cl0 ?hO ?he ?hp ?_); (case hO => assumption); (case he => intro _; rfl); (case hp => rfl))
  | with_reducible refine' ev_sub ?_
  | ((with_reducible refine' ev_compare ?hm ?_); (case hm => with_unfolding_all rfl))
  | with_reducible refine' ev_attr ?_
  | with_reducible refine' ev_none ?_
  | with_reducible refine' ev_bool ?_
  | with_reducible refine' ev_un ?_
  | with_reducible refine' ev_ife ?_
  | ((with_reducible refine' ev_mcl ?hO ?he ?hp ?hk ?_); (case hO => assumption); (case he => intro _; exact ⟨_, rfl⟩); (case hp => rfl); (case hk => rfl))
  | ((with_reducible refine' ev_cl ?hO ?he ?hp ?hk ?_); (case hO => assumption); (case he => intro _; rfl); (case hp => rfl); (case hk => rfl))
  | with_reducible refine' evk_nil ?_
  | with_reducible refine' evk_cons ?_
  | with_reducible refine' ex_ret ?_
  | ((with_reducible refine' ex_asg ?hl ?hs ?_); (case hl => rfl); (case hs => intro _; rfl))
  | ((with_reducible refine' ex_swap2 ?hs ?hw ?hx ?hy ?_); (case hs => intro _; rfl); (case hw => intro _; rfl); (case hx => rfl); (case hy => rfl))
  | ((with_reducible refine' ex_tup2 ?hs ?hw ?hx ?hy ?_); (case hs => intro _; rfl); (case hw => intro _; rfl); (case hx => rfl); (case hy => rfl))
  | ((with_reducible refine' ex_aug ?hm ?hl ?_); (case hm => walk_at "mem"); (case hl => rfl))
  | ((with_reducible refine' Exists.intro _ (And.intro (?hp : PutR _ _ _ _) ?_)); (case hp => walk_at "put"))
  | with_reducible refine' Exists.intro _ (Exists.intro _ (And.intro rfl ?_))
  | with_reducible refine' Exists.intro _ (And.intro rfl ?_)
  | with_reducible refine' ex_if ?_
  | with_reducible refine' ex_nil ?_
  | with_reducible refine' ex_cont ?_
  | with_reducible refine' ex_pass ?_
  | with_reducible refine' ex_assert ?_
  | with_reducible refine' sq_next ?_
  | with_reducible refine' sq_ret ?_
  | with_reducible refine' sq_brk ?_
  | with_reducible refine' sq_cont ?_
  | with_reducible refine' retp ?_
  | with_reducible refine' loop_ret ?_
  | with_reducible refine' loop_brk ?_
  | with_reducible refine' retn ?_
  | with_reducible refine' ts_not ?_
  | with_reducible refine' ts_andN ?_
  | with_reducible refine' ts_orN ?_
  | with_reducible refine' ts_and ?_
  | with_reducible refine' ts_or ?_
  | ((with_reducible refine' ts_compare ?hm ?_); (case hm => with_unfolding_all rfl))
  | ((with_reducible refine' ts_val ?_ ?he); (case he => intro _ _; rfl))
  | with_reducible refine' d2_add ?_
  | with_reducible refine' d2_sub ?_
  | with_reducible refine' d2_iadd ?_
  | with_reducible refine' d1_neg ?_
  | with_reducible refine' d2_lt ?_
  | with_reducible refine' d2_gt ?_
  | with_reducible refine' d2_le ?_
  | with_reducible refine' d2_ge ?_
  | with_reducible refine' d2_eq ?_
  | with_reducible refine' d2_ne ?_
  | with_reducible refine' d2_seq ?_
  | with_reducible refine' d2_sne ?_
  | with_reducible refine' tr_bool ?_
  | with_reducible refine' tr_none ?_
  | with_reducible refine' tr_int ?_
  | with_reducible refine' cl_abs ?_
  | with_reducible refine' cl_int ?_
  | ((with_reducible refine' op_fdiv ?hO ?hb ?hd ?hg ?hc ?hh ?_); (case hO => assumption); (case hb => decide); (case hd => decide); (case hg => rfl); (case hc => rfl); (case hh => rfl))
  | ((with_reducible refine' op_headNum ?hs ?_); (case hs => intro _ _; exact ⟨_, rfl⟩))
  | ((with_reducible refine' op_headNeg ?hs ?_); (case hs => intro _ _; exact ⟨_, rfl⟩))
  | ((with_reducible refine' op_headBin ?hs ?_); (case hs => intro _ _; exact ⟨_, rfl⟩))
  | ((with_reducible refine' op_head ?hs ?_); (case hs => intro _ _; exact ⟨_, rfl⟩))
  | ((with_reducible refine' op_num1 ?hs ?_); (case hs => intro _ _; exact ⟨_, rfl⟩))
  | ((with_reducible refine' op_neg1 ?hs ?_); (case hs => intro _ _; exact ⟨_, rfl⟩))
  | ((with_reducible refine' op_bin1 ?hs ?_); (case hs => intro _ _; exact ⟨_, rfl⟩))
  | ((with_reducible refine' op_bin2 ?hs ?_); (case hs => intro _ _; exact ⟨_, rfl⟩))
  | ((with_reducible refine' if_t ?hc ?_); (case hc => decide))
  | ((with_reducible refine' if_f ?hc ?_); (case hc => decide))
  | with_reducible refine' ev_slcTo ?_
  | with_reducible refine' ev_slcFrom ?_
  | with_reducible refine' ev_slcBoth ?_
  ))
section
variable {w : World} {loose : List Str} {mean : ExcName → Option Value} {mg mb : Str → Option Value} {base : Heap}
theorem whole_spec (O : (GG w loose mean mg mb base).Ok) {i : Int} : Fn (GG w loose mean mg mb base) 1 (.ref 234) [.int i] [] (fun p => p = .int i) none := by
  refine fn_intro O (d := 0) (ps := [("number", .int i)]) (by rfl) (by kernel_rfl) (bnds1 fun _ => by rfl) ?_ (by rfl) (of_decide_eq_true (by kernel_rfl)) (by rfl) rfl rfl rfl
  walk_at "go"
  refine op_isiInt O (b := false) (by kernel_rfl) ?_
  walk_at "go"
  rfl
theorem pow_spec (O : (GG w loose mean mg mb base).Ok) {n m i : Int} {k : Nat} (h : m ≠ 0) (hn : n.natAbs ≤ 2 ^ k) (hm : m.natAbs ≤ 2 ^ k) (hk : k ≤ 100000) (h0 : 0 ≤ i) (h3 : i ≤ 3) : Fn (GG w loose mean mg mb base) 103 (.ref 185) [QPV n m, .int i] [] (fun p => p = Qq (n ^ i.toNat) (m ^ i.toNat)) none := by
  have b1 := bits_le hn
  have b2 := bits_le hm
  have big : ∀ x : Int, Builtin.Int.intBits x ≤ k + 1 → (Builtin.Int.intBits x : Int) * i ≤ 2 ^ 27 := fun x hx => by
    have : (Builtin.Int.intBits x : Int) * i ≤ 100001 * 3 := Int.mul_le_mul (by omega) h3 h0 (by omega)
    omega
  refine fn_intro O (d := 102) (ps := [("self", QPV n m), ("other", .int i)]) (by rfl) (by kernel_rfl) (bnds2 fun _ _ => by rfl) ?_ (by rfl) (of_decide_eq_true (by kernel_rfl)) (by rfl) rfl rfl rfl
  walk_at "go"
  refine cl_use0 (whole_spec O) (by decide) ?_
  rintro _ rfl
  walk_at "go"
  refine if_f (decide_eq_false (by omega)) ?_
  walk_at "go"
  refine d1_field O (C := 223) rfl ?_ (by kernel_rfl) (by kernel_rfl) (attr := none) (by kernel_rfl) (by kernel_rfl)
  walk_at "go"
  refine d2_pow ?_ h0 (big n b1)
  walk_at "go"
  refine d1_field O (C := 223) rfl ?_ (by kernel_rfl) (by kernel_rfl) (attr := none) (by kernel_rfl) (by kernel_rfl)
  walk_at "go"
  refine d2_pow ?_ h0 (big m b2)
  walk_at "go"
  refine cl_use0 (quot_2 O (Int.pow_ne_zero h)) (Nat.le_refl _) ?_
  rintro _ rfl
  walk_at "go"
  rfl
theorem eq_spec (O : (GG w loose mean mg mb base).Ok) {n m n' m' : Int} : Fn (GG w loose mean mg mb base) 1 (.ref 192) [QPV n m, QPV n' m'] [] (fun p => p = .bool (n == n' && m == m')) none := by
  refine fn_intro O (d := 0) (ps := [("self", QPV n m), ("other", QPV n' m')]) (by rfl) (by kernel_rfl) (bnds2 fun _ _ => by rfl) ?_ (by rfl) (of_decide_eq_true (by kernel_rfl)) (by rfl) rfl rfl rfl
  walk_at "go"
  refine op_isiInst O (b := false) plain_Q (by kernel_rfl) ?_
  walk_at "go"
  refine op_isiInst O (b := true) plain_Q (by kernel_rfl) ?_
  walk_at "go"
  refine ev_and ?_
  walk_at "go"
  refine d1_field O (C := 223) rfl ?_ (by kernel_rfl) (by kernel_rfl) (attr := none) (by kernel_rfl) (by kernel_rfl)
  walk_at "go"
  refine d1_field O (C := 223) rfl ?_ (by kernel_rfl) (by kernel_rfl) (attr := none) (by kernel_rfl) (by kernel_rfl)
  walk_at "go"
  apply if_b
  · intro c
    refine ev_one ?_
    walk_at "go"
    refine d1_field O (C := 223) rfl ?_ (by kernel_rfl) (by kernel_rfl) (attr := none) (by kernel_rfl) (by kernel_rfl)
    walk_at "go"
    refine d1_field O (C := 223) rfl ?_ (by kernel_rfl) (by kernel_rfl) (attr := none) (by kernel_rfl) (by kernel_rfl)
    walk_at "go"
    rw [c, Bool.true_and]
  · intro c
    walk_at "go"
    rw [c, Bool.false_and]
theorem minus_int (O : (GG w loose mean mg mb base).Ok) {i : Int} : Fn (GG w loose mean mg mb base) 104 (.ref 318) [.int i] [] (fun p => p = .int (i * -1)) none := by
  refine fn_intro O (d := 103) (ps := [("x", .int i)]) (by rfl) (by kernel_rfl) (bnds1 fun _ => by rfl) ?_ (by rfl) (of_decide_eq_true (by kernel_rfl)) (by rfl) rfl rfl rfl
  walk_at "go"
  refine op_mul (.of_right (intBits_le_64 (by decide) (by decide))) ?_
  walk_at "go"
  rfl
theorem minus_q (O : (GG w loose mean mg mb base).Ok) {n m : Int} {k : Nat} (h : m ≠ 0) (hn : n.natAbs ≤ 2 ^ k) (hm : m.natAbs ≤ 2 ^ k) (hk : k ≤ 100000) : Fn (GG w loose mean mg mb base) 104 (.ref 318) [QPV n m] [] (fun p => p = Qq (n * -1) (m * 1)) none := by
  refine fn_intro O (d := 103) (ps := [("x", QPV n m)]) (by rfl) (by kernel_rfl) (bnds1 fun _ => by rfl) ?_ (by rfl) (of_decide_eq_true (by kernel_rfl)) (by rfl) rfl rfl rfl
  walk_at "go"
  refine op_binI O (D := 223) (f := 164) (rc := some (.ref 164)) (fo := some (.builtin "int.__mul__")) (ro := some (.builtin "int.__rmul__")) (by kernel_rfl) (by kernel_rfl) (by kernel_rfl) (by kernel_rfl) (.inr ⟨_, rfl⟩) (by kernel_rfl) (by kernel_rfl) (by kernel_rfl) (mul_int O h hn hm (l := 1) (by decide) hk (by decide)) (Nat.le_refl _) ?_
  rintro _ rfl
  exact ⟨rfl, rfl⟩
end
end
end Mine

namespace Mine
open PySem PySem.W PySem.Calls PyProof.Rows
section
local macro_rules | `(tactic| walk_at "nm") => `(tactic| first | with_reducible exact nm_add | with_reducible exact nm_mul | with_reducible exact nm_pow_operator | with_reducible exact nm_sub | with_reducible exact nm_truediv | with_reducible exact nm_DefinitionSyntaxError | with_reducible exact nm_common_divisor | with_reducible exact nm_Quotient | with_reducible exact nm_whole | with_reducible exact nm_number_from_text | with_reducible exact nm_TokenInfo | with_reducible exact nm_end_of_figures | with_reducible exact nm_end_of_number | with_reducible exact nm_tokenizer | with_reducible exact nm__power | with_reducible exact nm__divided | with_reducible exact nm__plus | with_reducible exact nm__minus | with_reducible exact nm__UNARY_OPERATOR_MAP | with_reducible exact nm__BINARY_OPERATOR_MAP | with_reducible exact nm__OP_PRIORITY | with_reducible exact nm_EvalTreeNode | with_reducible exact nm__build_eval_tree | with_reducible exact nm_build_eval_tree | with_reducible exact nm__law_cell | with_reducible exact nm__law_tree | with_reducible exact nm__law_bind | with_reducible exact nm__law_is_bare | with_reducible exact nm__law_text | with_reducible exact nm__law_within | with_reducible exact nm__law_told | with_reducible exact nm__law_value | with_reducible exact nm__law_number | with_reducible exact nm__law_is_refused)
local macro_rules | `(tactic| walk_at "mem") => `(tactic| repeat (first | with_reducible exact LMem.head | with_reducible apply LMem.tail))
local macro_rules | `(tactic| walk_at "put") => `(tactic| first
  | with_reducible exact PutR.nil
  | ((with_reducible refine' PutR.pass ?pn ?pr); (case pn => decide); (case pr => walk_at "put"))
  | ((with_reducible refine' PutR.drop ?pr); (case pr => walk_at "put")))
local macro_rules | `(tactic| walk_at "sub") => `(tactic| repeat (first
  | with_reducible exact LSub.nil
  | ((with_reducible refine' LSub.cons ?lm ?_); (case lm => walk_at "mem"))))
local macro_rules | `(tactic| walk_at "go") => `(tactic| repeat (first
  | with_reducible refine' ev_int ?_
  | with_reducible refine' ev_str ?_
  | ((with_reducible refine' ev_var ?hm ?hl ?hd ?_); (case hm => walk_at "mem"); (case hl => rfl); (case hd => decide))
  | ((with_reducible refine' ev_built ?hO ?hv ?he ?hn ?hl ?hd ?_); (case hO => assumption); (case hv => boot_by_name); (case he => kernel_rfl); (case hn => decide); (case hl => rfl); (case hd => decide))
  | ((with_reducible refine' ev_topS ?hO ?he ?hl ?hd ?_); (case he => first | with_reducible exact nm_ENDMARKER | with_reducible exact nm_NAME | with_reducible exact nm_NUMBER | with_reducible exact nm_OP); (case hO => assumption); (case hl => rfl); (case hd => decide))
  | ((with_reducible refine' ev_topI ?hO ?he ?hl ?hd ?_); (case he => with_reducible exact nm__MAX_RECURSION_DEPTH); (case hO => assumption); (case hl => rfl); (case hd => decide))
  | ((with_reducible refine' ev_top ?hO ?he ?hl ?hd ?_); (case hO => assumption); (case he => walk_at "nm"); (case hl => rfl); (case hd => decide))
  | ((with_reducible refine' ev_cel ?hl ?hd ?hc ?hm ?_); (case hl => rfl); (case hd => decide); (case hc => exact rfl); (case hm => exact List.Mem.head _))
  | ((with_reducible refine' And.intro ?hk ?_); (case hk => first | with_reducible exact kp_bi | with_reducible exact kp_ty | ((with_reducible refine' kp_fn ?_); kernel_rfl)))
  | with_reducible refine' evs_nil ?_
  | ((with_reducible refine' evs_more ?he ?_); (case he => intro _; rfl))
  | with_reducible refine' ev_bin ?_
  | with_reducible refine' ev_tup ?_
  | with_reducible refine' ev_lst ?_
  | ((with_reducible refine' And.intro ?hk ?_); (case hk => size_fits))
  | ((with_reducible refine' ev_mcl0 ?hO ?he ?hp ?_); (case hO => assumption); (case he => intro _; exact ⟨_, rfl⟩); (case hp => rfl))
  | ((with_reducible refine' ev_cl0 ?hO ?he ?hp ?_); (case hO => assumption); (case he => intro _; rfl); (case hp => rfl))
  | with_reducible refine' ev_sub ?_
  | ((with_reducible refine' ev_compare ?hm ?_); (case hm => with_unfolding_all rfl))
  | with_reducible refine' ev_attr ?_
  | with_reducible refine' ev_none ?_
  | with_reducible refine' ev_bool ?_
  | with_reducible refine' ev_un ?_
  | with_reducible refine' ev_ife ?_
  | ((with_reducible refine' ev_mcl ?hO ?he ?hp ?hk ?_); (case hO => assumption); (case he => intro _; exact ⟨_, rfl⟩); (case hp => rfl); (case hk => rfl))
  | ((with_reducible refine' ev_cl ?hO ?he ?hp ?hk ?_); (case hO => assumption); (case he => intro _; rfl); (case hp => rfl); (case hk => rfl))
  | with_reducible refine' evk_nil ?_
  | with_reducible refine' evk_cons ?_
  | with_reducible refine' ex_ret ?_
  | ((with_reducible refine' ex_asg ?hl ?hs ?_); (case hl => rfl); (case hs => intro _; rfl))
  | ((with_reducible refine' ex_swap2 ?hs ?hw ?hx ?hy ?_); (case hs => intro _; rfl); (case hw => intro _; rfl); (case hx => rfl); (case hy => rfl))
  | ((with_reducible refine' ex_tup2 ?hs ?hw ?hx ?hy ?_); (case hs => intro _; rfl); (case hw => intro _; rfl); (case hx => rfl); (case hy => rfl))
  | ((with_reducible refine' ex_aug ?hm ?hl ?_); (case hm => walk_at "mem"); (case hl => rfl))
  | ((with_reducible refine' Exists.intro _ (And.intro (?hp : PutR _ _ _ _) ?_)); (case hp => walk_at "put"))
  | with_reducible refine' Exists.intro _ (Exists.intro _ (And.intro rfl ?_))
  | with_reducible refine' Exists.intro _ (And.intro rfl ?_)
  | with_reducible refine' ex_if ?_
  | with_reducible refine' ex_nil ?_
  | with_reducible refine' ex_cont ?_
  | with_reducible refine' ex_pass ?_
  | with_reducible refine' ex_assert ?_
  | with_reducible refine' sq_next ?_
  | with_reducible refine' sq_ret ?_
  | with_reducible refine' sq_brk ?_
  | with_reducible refine' sq_cont ?_
  | with_reducible refine' retp ?_
  | with_reducible refine' loop_ret ?_
  | with_reducible refine' loop_brk ?_
  | with_reducible refine' retn ?_
  | with_reducible refine' ts_not ?_
  | with_reducible refine' ts_andN ?_
  | with_reducible refine' ts_orN ?_
  | with_reducible refine' ts_and ?_
  | with_reducible refine' ts_or ?_
  | ((with_reducible refine' ts_compare ?hm ?_); (case hm => with_unfolding_all rfl))
  | ((with_reducible refine' ts_val ?_ ?he); (case he => intro _ _; rfl))
  | with_reducible refine' d2_add ?_
  | with_reducible refine' d2_sub ?_
  | with_reducible refine' d2_iadd ?_
  | with_reducible refine' d1_neg ?_
  | with_reducible refine' d2_lt ?_
  | with_reducible refine' d2_gt ?_
  | with_reducible refine' d2_le ?_
  | with_reducible refine' d2_ge ?_
  | with_reducible refine' d2_eq ?_
  | with_reducible refine' d2_ne ?_
  | with_reducible refine' d2_seq ?_
  | with_reducible refine' d2_sne ?_
  | with_reducible refine' tr_bool ?_
  | with_reducible refine' tr_none ?_
  | with_reducible refine' tr_int ?_
  | with_reducible refine' cl_abs ?_
  | with_reducible refine' cl_int ?_
  | ((with_reducible refine' op_fdiv ?hO ?hb ?hd ?hg ?hc ?hh ?_); (case hO => assumption); (case hb => decide); (case hd => decide); (case hg => rfl); (case hc => rfl); (case hh => rfl))
  | ((with_reducible refine' op_headNum ?hs ?_); (case hs => intro _ _; exact ⟨_, rfl⟩))
  | ((with_reducible refine' op_headNeg ?hs ?_); (case hs => intro _ _; exact ⟨_, rfl⟩))
  | ((with_reducible refine' op_headBin ?hs ?_); (case hs => intro _ _; exact ⟨_, rfl⟩))
  | ((with_reducible refine' op_head ?hs ?_); (case hs => intro _ _; exact ⟨_, rfl⟩))
  | ((with_reducible refine' op_num1 ?hs ?_); (case hs => intro _ _; exact ⟨_, rfl⟩))
  | ((with_reducible refine' op_neg1 ?hs ?_); (case hs => intro _ _; exact ⟨_, rfl⟩))
  | ((with_reducible refine' op_bin1 ?hs ?_); (case hs => intro _ _; exact ⟨_, rfl⟩))
  | ((with_reducible refine' op_bin2 ?hs ?_); (case hs => intro _ _; exact ⟨_, rfl⟩))
  | ((with_reducible refine' if_t ?hc ?_); (case hc => decide))
  | ((with_reducible refine' if_f ?hc ?_); (case hc => decide))
  | with_reducible refine' ev_slcTo ?_
  | with_reducible refine' ev_slcFrom ?_
  | with_reducible refine' ev_slcBoth ?_
  ))
/-! ## the functions of the module operator -/
structure Opr (id nm : String) (op : Operator) : Prop where
  kind : builtinKind id = none
  plain : plainId id = true
  entry : ∃ Bi : Builtin, entryFor table id = some Bi ∧ ∀ x y, Bi ⟨[x, y], []⟩ = (do let (a, b) ← Builtin._operator.two nm ⟨[x, y], []⟩; ret (← binaryOp op a b))
  ok : ∀ x y, argsOk id ⟨[x, y], []⟩
theorem opr_add : Opr "_operator.add" "add" .Add := ⟨by decide +kernel, by decide +kernel, ⟨Builtin.«_operator.add», entryFor_of_tree (by kernel_rfl), fun _ _ => rfl⟩, fun _ _ => by unfold argsOk; kernel_rfl⟩
theorem opr_sub : Opr "_operator.sub" "sub" .Sub := ⟨by decide +kernel, by decide +kernel, ⟨Builtin.«_operator.sub», entryFor_of_tree (by kernel_rfl), fun _ _ => rfl⟩, fun _ _ => by unfold argsOk; kernel_rfl⟩
theorem opr_mul : Opr "_operator.mul" "mul" .Mult := ⟨by decide +kernel, by decide +kernel, ⟨Builtin.«_operator.mul», entryFor_of_tree (by kernel_rfl), fun _ _ => rfl⟩, fun _ _ => by unfold argsOk; kernel_rfl⟩
theorem opr_pow : Opr "_operator.pow" "pow" .Pow := ⟨by decide +kernel, by decide +kernel, ⟨Builtin.«_operator.pow», entryFor_of_tree (by kernel_rfl), fun _ _ => rfl⟩, fun _ _ => by unfold argsOk; kernel_rfl⟩
theorem opr_div : Opr "_operator.truediv" "truediv" .Div := ⟨by decide +kernel, by decide +kernel, ⟨Builtin.«_operator.truediv», entryFor_of_tree (by kernel_rfl), fun _ _ => rfl⟩, fun _ _ => by unfold argsOk; kernel_rfl⟩
theorem cl_op {G : Glb} {F : FnLit} {d : Nat} {own : List (Addr × Obj)} {R : PV → Prop} {X : Option Value} {id nm : String} {op : Operator} {a b : PV} (o : Opr id nm op) (h : D2 G F d own (binaryOp op) a b R X) : Cl G F (d + 1) own (.raw (.builtin id)) [a, b] [] R X := cl_opr o.kind o.plain o.entry o.ok h
end
end Mine

namespace Mine
open PySem PySem.W PySem.Calls PyProof.Rows
section
local macro_rules | `(tactic| walk_at "nm") => `(tactic| first | with_reducible exact nm_add | with_reducible exact nm_mul | with_reducible exact nm_pow_operator | with_reducible exact nm_sub | with_reducible exact nm_truediv | with_reducible exact nm_DefinitionSyntaxError | with_reducible exact nm_common_divisor | with_reducible exact nm_Quotient | with_reducible exact nm_whole | with_reducible exact nm_number_from_text | with_reducible exact nm_TokenInfo | with_reducible exact nm_end_of_figures | with_reducible exact nm_end_of_number | with_reducible exact nm_tokenizer | with_reducible exact nm__power | with_reducible exact nm__divided | with_reducible exact nm__plus | with_reducible exact nm__minus | with_reducible exact nm__UNARY_OPERATOR_MAP | with_reducible exact nm__BINARY_OPERATOR_MAP | with_reducible exact nm__OP_PRIORITY | with_reducible exact nm_EvalTreeNode | with_reducible exact nm__build_eval_tree | with_reducible exact nm_build_eval_tree | with_reducible exact nm__law_cell | with_reducible exact nm__law_tree | with_reducible exact nm__law_bind | with_reducible exact nm__law_is_bare | with_reducible exact nm__law_text | with_reducible exact nm__law_within | with_reducible exact nm__law_told | with_reducible exact nm__law_value | with_reducible exact nm__law_number | with_reducible exact nm__law_is_refused)
local macro_rules | `(tactic| walk_at "mem") => `(tactic| repeat (first | with_reducible exact LMem.head | with_reducible apply LMem.tail))
local macro_rules | `(tactic| walk_at "put") => `(tactic| first
  | with_reducible exact PutR.nil
  | ((with_reducible refine' PutR.pass ?pn ?pr); (case pn => decide); (case pr => walk_at "put"))
  | ((with_reducible refine' PutR.drop ?pr); (case pr => walk_at "put")))
local macro_rules | `(tactic| walk_at "sub") => `(tactic| repeat (first
  | with_reducible exact LSub.nil
  | ((with_reducible refine' LSub.cons ?lm ?_); (case lm => walk_at "mem"))))
local macro_rules | `(tactic| walk_at "go") => `(tactic| repeat (first
  | with_reducible refine' ev_int ?_
  | with_reducible refine' ev_str ?_
  | ((with_reducible refine' ev_var ?hm ?hl ?hd ?_); (case hm => walk_at "mem"); (case hl => rfl); (case hd => decide))
  | ((with_reducible refine' ev_built ?hO ?hv ?he ?hn ?hl ?hd ?_); (case hO => assumption); (case hv => boot_by_name); (case he => kernel_rfl); (case hn => decide); (case hl => rfl); (case hd => decide))
  | ((with_reducible refine' ev_topS ?hO ?he ?hl ?hd ?_); (case he => first | with_reducible exact nm_ENDMARKER | with_reducible exact nm_NAME | with_reducible exact nm_NUMBER | with_reducible exact nm_OP); (case hO => assumption); (case hl => rfl); (case hd => decide))
  | ((with_reducible refine' ev_topI ?hO ?he ?hl ?hd ?_); (case he => with_reducible exact nm__MAX_RECURSION_DEPTH); (case hO => assumption); (case hl => rfl); (case hd => decide))
  | ((with_reducible refine' ev_top ?hO ?he ?hl ?hd ?_); (case hO => assumption); (case he => walk_at "nm"); (case hl => rfl); (case hd => decide))
  | ((with_reducible refine' ev_cel ?hl ?hd ?hc ?hm ?_); (case hl => rfl); (case hd => decide); (case hc => exact rfl); (case hm => exact List.Mem.head _))
  | ((with_reducible refine' And.intro ?hk ?_); (case hk => first | with_reducible exact kp_bi | with_reducible exact kp_ty | ((with_reducible refine' kp_fn ?_); kernel_rfl)))
  | with_reducible refine' evs_nil ?_
  | ((with_reducible refine' evs_more ?he ?_); (case he => intro _; rfl))
  | with_reducible refine' ev_bin ?_
  | with_reducible refine' ev_tup ?_
  | with_reducible refine' ev_lst ?_
  | ((with_reducible refine' And.intro ?hk ?_); (case hk => size_fits))
  | ((with_reducible refine' ev_mcl0 ?hO ?he ?hp ?_); (case hO => assumption); (case he => intro _; exact ⟨_, rfl⟩); (case hp => rfl))
  | ((with_reducible refine' ev_cl0 ?hO ?he ?hp ?_); (case hO => assumption); (case he => intro _; rfl); (case hp => rfl))
  | with_reducible refine' ev_sub ?_
  | ((with_reducible refine' ev_compare ?hm ?_); (case hm => with_unfolding_all rfl))
  | with_reducible refine' ev_attr ?_
  | with_reducible refine' ev_none ?_
  | with_reducible refine' ev_bool ?_
  | with_reducible refine' ev_un ?_
  | with_reducible refine' ev_ife ?_
  | ((with_reducible refine' ev_mcl ?hO ?he ?hp ?hk ?_); (case hO => assumption); (case he => intro _; exact ⟨_, rfl⟩); (case hp => rfl); (case hk => rfl))
  | ((with_reducible refine' ev_cl ?hO ?he ?hp ?hk ?_); (case hO => assumption); (case he => intro _; rfl); (case hp => rfl); (case hk => rfl))
  | with_reducible refine' evk_nil ?_
  | with_reducible refine' evk_cons ?_
  | with_reducible refine' ex_ret ?_
  | ((with_reducible refine' ex_asg ?hl ?hs ?_); (case hl => rfl); (case hs => intro _; rfl))
  | ((with_reducible refine' ex_swap2 ?hs ?hw ?hx ?hy ?_); (case hs => intro _; rfl); (case hw => intro _; rfl); (case hx => rfl); (case hy => rfl))
  | ((with_reducible refine' ex_tup2 ?hs ?hw ?hx ?hy ?_); (case hs => intro _; rfl); (case hw => intro _; rfl); (case hx => rfl); (case hy => rfl))
  | ((with_reducible refine' ex_aug ?hm ?hl ?_); (case hm => walk_at "mem"); (case hl => rfl))
  | ((with_reducible refine' Exists.intro _ (And.intro (?hp : PutR _ _ _ _) ?_)); (case hp => walk_at "put"))
  | with_reducible refine' Exists.intro _ (Exists.intro _ (And.intro rfl ?_))
  | with_reducible refine' Exists.intro _ (And.intro rfl ?_)
  | with_reducible refine' ex_if ?_
  | with_reducible refine' ex_nil ?_
  | with_reducible refine' ex_cont ?_
  | with_reducible refine' ex_pass ?_
  | with_reducible refine' ex_assert ?_
  | with_reducible refine' sq_next ?_
  | with_reducible refine' sq_ret ?_
  | with_reducible refine' sq_brk ?_
  | with_reducible refine' sq_cont ?_
  | with_reducible refine' retp ?_
  | with_reducible refine' loop_ret ?_
  | with_reducible refine' loop_brk ?_
  | with_reducible refine' retn ?_
  | with_reducible refine' ts_not ?_
  | with_reducible refine' ts_andN ?_
  | with_reducible refine' ts_orN ?_
  | with_reducible refine' ts_and ?_
  | with_reducible refine' ts_or ?_
  | ((with_reducible refine' ts_compare ?hm ?_); (case hm => with_unfolding_all rfl))
  | ((with_reducible refine' ts_val ?_ ?he); (case he => intro _ _; rfl))
  | with_reducible refine' d2_add ?_
  | with_reducible refine' d2_sub ?_
  | with_reducible refine' d2_iadd ?_
  | with_reducible refine' d1_neg ?_
  | with_reducible refine' d2_lt ?_
  | with_reducible refine' d2_gt ?_
  | with_reducible refine' d2_le ?_
  | with_reducible refine' d2_ge ?_
  | with_reducible refine' d2_eq ?_
  | with_reducible refine' d2_ne ?_
  | with_reducible refine' d2_seq ?_
  | with_reducible refine' d2_sne ?_
  | with_reducible refine' tr_bool ?_
  | with_reducible refine' tr_none ?_
  | with_reducible refine' tr_int ?_
  | with_reducible refine' cl_abs ?_
  | with_reducible refine' cl_int ?_
  | ((with_reducible refine' op_fdiv ?hO ?hb ?hd ?hg ?hc ?hh ?_); (case hO => assumption); (case hb => decide); (case hd => decide); (case hg => rfl); (case hc => rfl); (case hh => rfl))
  | ((with_reducible refine' op_headNum ?hs ?_); (case hs => intro _ _; exact ⟨_, rfl⟩))
  | ((with_reducible refine' op_headNeg ?hs ?_); (case hs => intro _ _; exact ⟨_, rfl⟩))
  | ((with_reducible refine' op_headBin ?hs ?_); (case hs => intro _ _; exact ⟨_, rfl⟩))
  | ((with_reducible refine' op_head ?hs ?_); (case hs => intro _ _; exact ⟨_, rfl⟩))
  | ((with_reducible refine' op_num1 ?hs ?_); (case hs => intro _ _; exact ⟨_, rfl⟩))
  | ((with_reducible refine' op_neg1 ?hs ?_); (case hs => intro _ _; exact ⟨_, rfl⟩))
  | ((with_reducible refine' op_bin1 ?hs ?_); (case hs => intro _ _; exact ⟨_, rfl⟩))
  | ((with_reducible refine' op_bin2 ?hs ?_); (case hs => intro _ _; exact ⟨_, rfl⟩))
  | ((with_reducible refine' if_t ?hc ?_); (case hc => decide))
  | ((with_reducible refine' if_f ?hc ?_); (case hc => decide))
  | with_reducible refine' ev_slcTo ?_
  | with_reducible refine' ev_slcFrom ?_
  | with_reducible refine' ev_slcBoth ?_
  ))
section
variable {w : World} {loose : List Str} {mean : ExcName → Option Value} {mg mb : Str → Option Value} {base : Heap}
theorem power_int (O : (GG w loose mean mg mb base).Ok) {a i : Int} {k : Nat} (ha : a.natAbs ≤ 2 ^ k) (hk : k ≤ 100000) (h0 : 0 ≤ i) (h3 : i ≤ 3) : Fn (GG w loose mean mg mb base) 106 (.ref 297) [.int a, .int i] [] (fun p => p = Qq (a ^ i.toNat) (1 ^ i.toNat)) none := by
  refine fn_intro O (d := 105) (ps := [("left", .int a), ("right", .int i)]) (by rfl) (by kernel_rfl) (bnds2 fun _ _ => by rfl) ?_ (by rfl) (of_decide_eq_true (by kernel_rfl)) (by rfl) rfl rfl rfl
  walk_at "go"
  refine op_isiInt O (b := true) (by kernel_rfl) ?_
  walk_at "go"
  refine cl_use0 (quot_int O) (by decide) ?_
  rintro _ rfl
  walk_at "go"
  refine cl_op opr_pow ?_
  refine op_binI O (D := 223) (f := 185) (rc := none) (fo := some (.builtin "int.__pow__")) (ro := some (.builtin "int.__rpow__")) (by kernel_rfl) (by kernel_rfl) (by kernel_rfl) (by kernel_rfl) (.inl rfl) (by kernel_rfl) (by kernel_rfl) (by kernel_rfl) (pow_spec O (k := k) (by decide) ha (Nat.one_le_two_pow) hk h0 h3) (by decide) ?_
  rintro _ rfl
  exact ⟨rfl, rfl⟩
theorem power_q (O : (GG w loose mean mg mb base).Ok) {n m i : Int} {k : Nat} (h : m ≠ 0) (hn : n.natAbs ≤ 2 ^ k) (hm : m.natAbs ≤ 2 ^ k) (hk : k ≤ 100000) (h0 : 0 ≤ i) (h3 : i ≤ 3) : Fn (GG w loose mean mg mb base) 106 (.ref 297) [QPV n m, .int i] [] (fun p => p = Qq (n ^ i.toNat) (m ^ i.toNat)) none := by
  refine fn_intro O (d := 105) (ps := [("left", QPV n m), ("right", .int i)]) (by rfl) (by kernel_rfl) (bnds2 fun _ _ => by rfl) ?_ (by rfl) (of_decide_eq_true (by kernel_rfl)) (by rfl) rfl rfl rfl
  walk_at "go"
  refine op_isiInst O (b := false) plain_Q (by kernel_rfl) ?_
  walk_at "go"
  refine cl_op opr_pow ?_
  refine op_binI O (D := 223) (f := 185) (rc := none) (fo := some (.builtin "int.__pow__")) (ro := some (.builtin "int.__rpow__")) (by kernel_rfl) (by kernel_rfl) (by kernel_rfl) (by kernel_rfl) (.inl rfl) (by kernel_rfl) (by kernel_rfl) (by kernel_rfl) (pow_spec O h hn hm hk h0 h3) (by decide) ?_
  rintro _ rfl
  exact ⟨rfl, rfl⟩
theorem div_ii (O : (GG w loose mean mg mb base).Ok) {a i : Int} {k l : Nat} (ha : a.natAbs ≤ 2 ^ k) (hi : i.natAbs ≤ 2 ^ l) (h0 : i ≠ 0) (hk : k ≤ 100000) (hl : l ≤ 100000) : Fn (GG w loose mean mg mb base) 106 (.ref 304) [.int a, .int i] [] (fun p => p = Qq (a * 1) (1 * i)) none := by
  refine fn_intro O (d := 105) (ps := [("left", .int a), ("right", .int i)]) (by rfl) (by kernel_rfl) (bnds2 fun _ _ => by rfl) ?_ (by rfl) (of_decide_eq_true (by kernel_rfl)) (by rfl) rfl rfl rfl
  walk_at "go"
  refine op_isiInt O (b := true) (by kernel_rfl) ?_
  walk_at "go"
  refine cl_use0 (quot_int O) (by decide) ?_
  rintro _ rfl
  walk_at "go"
  refine cl_op opr_div ?_
  refine op_binI O (D := 223) (f := 171) (rc := some (.ref 178)) (fo := some (.builtin "int.__truediv__")) (ro := some (.builtin "int.__rtruediv__")) (by kernel_rfl) (by kernel_rfl) (by kernel_rfl) (by kernel_rfl) (.inr ⟨_, rfl⟩) (by kernel_rfl) (by kernel_rfl) (by kernel_rfl) (div_int O (k := k) (by decide) h0 ha (Nat.one_le_two_pow) hi hk hl) (by decide) ?_
  rintro _ rfl
  exact ⟨rfl, rfl⟩
theorem div_qi (O : (GG w loose mean mg mb base).Ok) {n m i : Int} {k l : Nat} (h : m ≠ 0) (hn : n.natAbs ≤ 2 ^ k) (hm : m.natAbs ≤ 2 ^ k) (hi : i.natAbs ≤ 2 ^ l) (h0 : i ≠ 0) (hk : k ≤ 100000) (hl : l ≤ 100000) : Fn (GG w loose mean mg mb base) 106 (.ref 304) [QPV n m, .int i] [] (fun p => p = Qq (n * 1) (m * i)) none := by
  refine fn_intro O (d := 105) (ps := [("left", QPV n m), ("right", .int i)]) (by rfl) (by kernel_rfl) (bnds2 fun _ _ => by rfl) ?_ (by rfl) (of_decide_eq_true (by kernel_rfl)) (by rfl) rfl rfl rfl
  walk_at "go"
  refine op_isiInst O (b := false) plain_Q (by kernel_rfl) ?_
  walk_at "go"
  refine cl_op opr_div ?_
  refine op_binI O (D := 223) (f := 171) (rc := some (.ref 178)) (fo := some (.builtin "int.__truediv__")) (ro := some (.builtin "int.__rtruediv__")) (by kernel_rfl) (by kernel_rfl) (by kernel_rfl) (by kernel_rfl) (.inr ⟨_, rfl⟩) (by kernel_rfl) (by kernel_rfl) (by kernel_rfl) (div_int O h h0 hn hm hi hk hl) (by decide) ?_
  rintro _ rfl
  exact ⟨rfl, rfl⟩
theorem div_iq (O : (GG w loose mean mg mb base).Ok) {a n' m' : Int} {k l : Nat} (ha : a.natAbs ≤ 2 ^ k) (h' : Nf n' m') (h0 : n' ≠ 0) (hn' : n'.natAbs ≤ 2 ^ l) (hm' : m'.natAbs ≤ 2 ^ l) (hk : k ≤ 100000) (hl : l ≤ 100000) : Fn (GG w loose mean mg mb base) 106 (.ref 304) [.int a, QPV n' m'] [] (fun p => p = Qq (a * m') (1 * n')) none := by
  refine fn_intro O (d := 105) (ps := [("left", .int a), ("right", QPV n' m')]) (by rfl) (by kernel_rfl) (bnds2 fun _ _ => by rfl) ?_ (by rfl) (of_decide_eq_true (by kernel_rfl)) (by rfl) rfl rfl rfl
  walk_at "go"
  refine op_isiInt O (b := true) (by kernel_rfl) ?_
  walk_at "go"
  refine cl_use0 (quot_int O) (by decide) ?_
  rintro _ rfl
  walk_at "go"
  refine cl_op opr_div ?_
  refine op_binS O (D := 223) (f := 171) (by kernel_rfl) (by kernel_rfl) (by kernel_rfl) (div_q O (k := k) (by decide) h' h0 ha (Nat.one_le_two_pow) hn' hm' hk hl) (by decide) ?_
  rintro _ rfl
  exact ⟨rfl, rfl⟩
theorem div_qq (O : (GG w loose mean mg mb base).Ok) {n m n' m' : Int} {k l : Nat} (h : m ≠ 0) (hn : n.natAbs ≤ 2 ^ k) (hm : m.natAbs ≤ 2 ^ k) (h' : Nf n' m') (h0 : n' ≠ 0) (hn' : n'.natAbs ≤ 2 ^ l) (hm' : m'.natAbs ≤ 2 ^ l) (hk : k ≤ 100000) (hl : l ≤ 100000) : Fn (GG w loose mean mg mb base) 106 (.ref 304) [QPV n m, QPV n' m'] [] (fun p => p = Qq (n * m') (m * n')) none := by
  refine fn_intro O (d := 105) (ps := [("left", QPV n m), ("right", QPV n' m')]) (by rfl) (by kernel_rfl) (bnds2 fun _ _ => by rfl) ?_ (by rfl) (of_decide_eq_true (by kernel_rfl)) (by rfl) rfl rfl rfl
  walk_at "go"
  refine op_isiInst O (b := false) plain_Q (by kernel_rfl) ?_
  walk_at "go"
  refine cl_op opr_div ?_
  refine op_binS O (D := 223) (f := 171) (by kernel_rfl) (by kernel_rfl) (by kernel_rfl) (div_q O h h' h0 hn hm hn' hm' hk hl) (by decide) ?_
  rintro _ rfl
  exact ⟨rfl, rfl⟩
end
end
end Mine

namespace Mine
open PySem PySem.W PySem.Calls PyProof.Rows
section
local macro_rules | `(tactic| walk_at "nm") => `(tactic| first | with_reducible exact nm_add | with_reducible exact nm_mul | with_reducible exact nm_pow_operator | with_reducible exact nm_sub | with_reducible exact nm_truediv | with_reducible exact nm_DefinitionSyntaxError | with_reducible exact nm_common_divisor | with_reducible exact nm_Quotient | with_reducible exact nm_whole | with_reducible exact nm_number_from_text | with_reducible exact nm_TokenInfo | with_reducible exact nm_end_of_figures | with_reducible exact nm_end_of_number | with_reducible exact nm_tokenizer | with_reducible exact nm__power | with_reducible exact nm__divided | with_reducible exact nm__plus | with_reducible exact nm__minus | with_reducible exact nm__UNARY_OPERATOR_MAP | with_reducible exact nm__BINARY_OPERATOR_MAP | with_reducible exact nm__OP_PRIORITY | with_reducible exact nm_EvalTreeNode | with_reducible exact nm__build_eval_tree | with_reducible exact nm_build_eval_tree | with_reducible exact nm__law_cell | with_reducible exact nm__law_tree | with_reducible exact nm__law_bind | with_reducible exact nm__law_is_bare | with_reducible exact nm__law_text | with_reducible exact nm__law_within | with_reducible exact nm__law_told | with_reducible exact nm__law_value | with_reducible exact nm__law_number | with_reducible exact nm__law_is_refused)
local macro_rules | `(tactic| walk_at "mem") => `(tactic| repeat (first | with_reducible exact LMem.head | with_reducible apply LMem.tail))
local macro_rules | `(tactic| walk_at "put") => `(tactic| first
  | with_reducible exact PutR.nil
  | ((with_reducible refine' PutR.pass ?pn ?pr); (case pn => decide); (case pr => walk_at "put"))
  | ((with_reducible refine' PutR.drop ?pr); (case pr => walk_at "put")))
local macro_rules | `(tactic| walk_at "sub") => `(tactic| repeat (first
  | with_reducible exact LSub.nil
  | ((with_reducible refine' LSub.cons ?lm ?_); (case lm => walk_at "mem"))))
local macro_rules | `(tactic| walk_at "go") => `(tactic| repeat (first
  | with_reducible refine' ev_int ?_
  | with_reducible refine' ev_str ?_
  | ((with_reducible refine' ev_var ?hm ?hl ?hd ?_); (case hm => walk_at "mem"); (case hl => rfl); (case hd => decide))
  | ((with_reducible refine' ev_built ?hO ?hv ?he ?hn ?hl ?hd ?_); (case hO => assumption); (case hv => boot_by_name); (case he => kernel_rfl); (case hn => decide); (case hl => rfl); (case hd => decide))
  | ((with_reducible refine' ev_topS ?hO ?he ?hl ?hd ?_); (case he => first | with_reducible exact nm_ENDMARKER | with_reducible exact nm_NAME | with_reducible exact nm_NUMBER | with_reducible exact nm_OP); (case hO => assumption); (case hl => rfl); (case hd => decide))
  | ((with_reducible refine' ev_topI ?hO ?he ?hl ?hd ?_); (case he => with_reducible exact nm__MAX_RECURSION_DEPTH); (case hO => assumption); (case hl => rfl); (case hd => decide))
  | ((with_reducible refine' ev_top ?hO ?he ?hl ?hd ?_); (case hO => assumption); (case he => walk_at "nm"); (case hl => rfl); (case hd => decide))
  | ((with_reducible refine' ev_cel ?hl ?hd ?hc ?hm ?_); (case hl => rfl); (case hd => decide); (case hc => exact rfl); (case hm => exact List.Mem.head _))
  | ((with_reducible refine' And.intro ?hk ?_); (case hk => first | with_reducible exact kp_bi | with_reducible exact kp_ty | ((with_reducible refine' kp_fn ?_); kernel_rfl)))
  | with_reducible refine' evs_nil ?_
  | ((with_reducible refine' evs_more ?he ?_); (case he => intro _; rfl))
  | with_reducible refine' ev_bin ?_
  | with_reducible refine' ev_tup ?_
  | with_reducible refine' ev_lst ?_
  | ((with_reducible refine' And.intro ?hk ?_); (case hk => size_fits))
  | ((with_reducible refine' ev_mcl0 ?hO ?he ?hp ?_); (case hO => assumption); (case he => intro _; exact ⟨_, rfl⟩); (case hp => rfl))
  | ((with_reducible refine' ev_cl0 ?hO ?he ?hp ?_); (case hO => assumption); (case he => intro _; rfl); (case hp => rfl))
  | with_reducible refine' ev_sub ?_
  | ((with_reducible refine' ev_compare ?hm ?_); (case hm => with_unfolding_all rfl))
  | with_reducible refine' ev_attr ?_
  | with_reducible refine' ev_none ?_
  | with_reducible refine' ev_bool ?_
  | with_reducible refine' ev_un ?_
  | with_reducible refine' ev_ife ?_
  | ((with_reducible refine' ev_mcl ?hO ?he ?hp ?hk ?_); (case hO => assumption); (case he => intro _; exact ⟨_, rfl⟩); (case hp => rfl); (case hk => rfl))
  | ((with_reducible refine' ev_cl ?hO ?he ?hp ?hk ?_); (case hO => assumption); (case he => intro _; rfl); (case hp => rfl); (case hk => rfl))
  | with_reducible refine' evk_nil ?_
  | with_reducible refine' evk_cons ?_
  | with_reducible refine' ex_ret ?_
  | ((with_reducible refine' ex_asg ?hl ?hs ?_); (case hl => rfl); (case hs => intro _; rfl))
  | ((with_reducible refine' ex_swap2 ?hs ?hw ?hx ?hy ?_); (case hs => intro _; rfl); (case hw => intro _; rfl); (case hx => rfl); (case hy => rfl))
  | ((with_reducible refine' ex_tup2 ?hs ?hw ?hx ?hy ?_); (case hs => intro _; rfl); (case hw => intro _; rfl); (case hx => rfl); (case hy => rfl))
  | ((with_reducible refine' ex_aug ?hm ?hl ?_); (case hm => walk_at "mem"); (case hl => rfl))
  | ((with_reducible refine' Exists.intro _ (And.intro (?hp : PutR _ _ _ _) ?_)); (case hp => walk_at "put"))
  | with_reducible refine' Exists.intro _ (Exists.intro _ (And.intro rfl ?_))
  | with_reducible refine' Exists.intro _ (And.intro rfl ?_)
  | with_reducible refine' ex_if ?_
  | with_reducible refine' ex_nil ?_
  | with_reducible refine' ex_cont ?_
  | with_reducible refine' ex_pass ?_
  | with_reducible refine' ex_assert ?_
  | with_reducible refine' sq_next ?_
  | with_reducible refine' sq_ret ?_
  | with_reducible refine' sq_brk ?_
  | with_reducible refine' sq_cont ?_
  | with_reducible refine' retp ?_
  | with_reducible refine' loop_ret ?_
  | with_reducible refine' loop_brk ?_
  | with_reducible refine' retn ?_
  | with_reducible refine' ts_not ?_
  | with_reducible refine' ts_andN ?_
  | with_reducible refine' ts_orN ?_
  | with_reducible refine' ts_and ?_
  | with_reducible refine' ts_or ?_
  | ((with_reducible refine' ts_compare ?hm ?_); (case hm => with_unfolding_all rfl))
  | ((with_reducible refine' ts_val ?_ ?he); (case he => intro _ _; rfl))
  | with_reducible refine' d2_add ?_
  | with_reducible refine' d2_sub ?_
  | with_reducible refine' d2_iadd ?_
  | with_reducible refine' d1_neg ?_
  | with_reducible refine' d2_lt ?_
  | with_reducible refine' d2_gt ?_
  | with_reducible refine' d2_le ?_
  | with_reducible refine' d2_ge ?_
  | with_reducible refine' d2_eq ?_
  | with_reducible refine' d2_ne ?_
  | with_reducible refine' d2_seq ?_
  | with_reducible refine' d2_sne ?_
  | with_reducible refine' tr_bool ?_
  | with_reducible refine' tr_none ?_
  | with_reducible refine' tr_int ?_
  | with_reducible refine' cl_abs ?_
  | with_reducible refine' cl_int ?_
  | ((with_reducible refine' op_fdiv ?hO ?hb ?hd ?hg ?hc ?hh ?_); (case hO => assumption); (case hb => decide); (case hd => decide); (case hg => rfl); (case hc => rfl); (case hh => rfl))
  | ((with_reducible refine' op_headNum ?hs ?_); (case hs => intro _ _; exact ⟨_, rfl⟩))
  | ((with_reducible refine' op_headNeg ?hs ?_); (case hs => intro _ _; exact ⟨_, rfl⟩))
  | ((with_reducible refine' op_headBin ?hs ?_); (case hs => intro _ _; exact ⟨_, rfl⟩))
  | ((with_reducible refine' op_head ?hs ?_); (case hs => intro _ _; exact ⟨_, rfl⟩))
  | ((with_reducible refine' op_num1 ?hs ?_); (case hs => intro _ _; exact ⟨_, rfl⟩))
  | ((with_reducible refine' op_neg1 ?hs ?_); (case hs => intro _ _; exact ⟨_, rfl⟩))
  | ((with_reducible refine' op_bin1 ?hs ?_); (case hs => intro _ _; exact ⟨_, rfl⟩))
  | ((with_reducible refine' op_bin2 ?hs ?_); (case hs => intro _ _; exact ⟨_, rfl⟩))
  | ((with_reducible refine' if_t ?hc ?_); (case hc => decide))
  | ((with_reducible refine' if_f ?hc ?_); (case hc => decide))
  | with_reducible refine' ev_slcTo ?_
  | with_reducible refine' ev_slcFrom ?_
  | with_reducible refine' ev_slcBoth ?_
  ))
section
variable {w : World} {loose : List Str} {mean : ExcName → Option Value} {mg mb : Str → Option Value} {base : Heap}
def vscope : Scope := { kind := .function, names := [(".0", .local), ("one", .local), ("_law_value", .globalImplicit)], isGenerator := false, isCoroutine := false }
theorem vals_of : ∀ {ts : List T} {qs : List PV}, qs.length = (ts.map T.enc).length → (∀ (i : Nat) q, qs[i]? = some q → ∃ t, ts[i]? = some t ∧ q = encV t.value) → qs = ts.map fun t => encV t.value
  | [], qs, hl, _ => by simpa using hl
  | t :: ts, [], hl, _ => by simp at hl
  | t :: ts, q :: qs, hl, h => by
    obtain ⟨u, e, rfl⟩ := h 0 q rfl
    cases e
    rw [vals_of (ts := ts) (qs := qs) (by simpa using hl) fun i q e => h (i + 1) q (by simpa using e)]
    rfl
theorem tupN_encV : ∀ ts : List T, TupN (ts.map fun t => encV t.value)
  | [] => .nil
  | t :: ts => by
    have ih := tupN_encV ts
    rw [List.map_cons]
    cases t.value with
    | none => exact .none ih
    | some p => exact .tup ih
theorem value_spec (O : (GG w loose mean mg mb base).Ok) : ∀ (t : T), t.wf → t.size ≤ 1000 → t.leaves ≤ 7 → Fn (GG w loose mean mg mb base) (t.size + 1) (.ref 426) [t.enc] [] (fun p => p = encV t.value) none
  | .num k, hw, hz, hl => by
    refine fn_intro O (d := 1) (ps := [("tree", T.enc (.num k))]) (by rfl) (by kernel_rfl) (bnds1 fun _ => by rfl) ?_ (by rfl) (of_decide_eq_true (by kernel_rfl)) (by rfl) rfl rfl rfl
    walk_at "go"
    rfl
  | .neg a, hw, hz, hl => by
    have hz' : a.size + 1 ≤ 1000 := hz
    have ih := value_spec O a hw (by omega) hl
    refine fn_intro O (d := a.size + 1) (ps := [("tree", T.enc (.neg a))]) (by rfl) (by kernel_rfl) (bnds1 fun _ => by rfl) ?_ (by rfl) (of_decide_eq_true (by kernel_rfl)) (by rfl) rfl rfl rfl
    walk_at "go"
    refine ex_asgcomp (sc := vscope) (cl := []) rfl (fun _ => by rfl) (fun _ => by rfl) (fun _ => by rfl) (fun _ h => nomatch h) (by decide) rfl rfl (by decide) (by rfl) (by rfl) (fun _ _ => by rfl) ?_
    walk_at "go"
    refine op_sliceT (a := 1) (fun _ _ => ⟨_, rfl⟩) (by decide) (by simp) (by size_fits) ?_
    refine ⟨[a.enc], itr_tup, by size_fits, fun i q => ∃ t, [a][i]? = some t ∧ q = encV t.value, ?_, ?_⟩
    · intro i q own' L hq
      obtain ⟨rfl, rfl⟩ : i = 0 ∧ q = a.enc := by
        cases i with
        | zero => exact ⟨rfl, by simpa using hq.symm⟩
        | succ n => simp at hq
      walk_at "go"
      refine cl_use0 ih (by omega) ?_
      rintro _ rfl
      exact ⟨a, rfl, rfl⟩
    · intro qs hlen hqs
      have e := vals_of (ts := [a]) hlen hqs
      subst e
      walk_at "go"
      refine op_noneIn (tupN_encV [a]) (by omega) ?_
      show Tr _ _ _ _ (.bool _) _ _
      rw [T.value]
      cases ha : a.value with
      | none =>
        simp only [List.map, encV, ha, List.any, PV.isNone, Bool.or_true, Bool.true_or]
        walk_at "go"
        rfl
      | some v =>
        obtain ⟨x, y⟩ := v
        simp only [List.map, encV, ha, List.any, PV.isNone, Bool.or_false, Bool.or_self]
        walk_at "go"
        refine op_at (k := 0) (fun _ _ => ⟨_, rfl⟩) (by decide) rfl ?_
        walk_at "go"
        refine op_atT (k := 0) (fun _ _ => ⟨_, rfl⟩) (by decide) rfl ?_
        walk_at "go"
        refine op_at (k := 0) (fun _ _ => ⟨_, rfl⟩) (by decide) rfl ?_
        walk_at "go"
        refine op_atT (k := 1) (fun _ _ => ⟨_, rfl⟩) (by decide) rfl ?_
        walk_at "go"
        try rfl
  | .bin o a b, hw, hz, hl => by
    have hz' : a.size + b.size + 1 ≤ 1000 := hz
    have hl' : a.leaves + b.leaves ≤ 7 := hl
    have iha := value_spec O a (T.wf_a hw) (by omega) (by omega)
    have ihb := value_spec O b (T.wf_b hw) (by omega) (by omega)
    have Ba : a.B ≤ 5000 := a.B_small (T.wf_a hw) (by omega)
    have Bb : b.B ≤ 5000 := b.B_small (T.wf_b hw) (by omega)
    cases o with
    | add =>
      refine fn_intro O (d := a.size + b.size + 1) (ps := [("tree", T.enc (.bin _ a b))]) (by rfl) (by kernel_rfl) (bnds1 fun _ => by rfl) ?_ (by rfl) (of_decide_eq_true (by kernel_rfl)) (by rfl) rfl rfl rfl
      walk_at "go"
      refine ex_asgcomp (sc := vscope) (cl := []) rfl (fun _ => by rfl) (fun _ => by rfl) (fun _ => by rfl) (fun _ h => nomatch h) (by decide) rfl rfl (by decide) (by rfl) (by rfl) (fun _ _ => by rfl) ?_
      walk_at "go"
      refine op_sliceT (a := 1) (fun _ _ => ⟨_, rfl⟩) (by decide) (by simp) (by size_fits) ?_
      refine ⟨[a.enc, b.enc], itr_tup, by size_fits, fun i q => ∃ t, [a, b][i]? = some t ∧ q = encV t.value, ?_, ?_⟩
      · intro i q own' L hq
        have : (i = 0 ∧ q = a.enc) ∨ (i = 1 ∧ q = b.enc) := by
          rcases i with _ | _ | n
          · exact .inl ⟨rfl, by simpa using hq.symm⟩
          · exact .inr ⟨rfl, by simpa using hq.symm⟩
          · simp at hq
        rcases this with ⟨rfl, rfl⟩ | ⟨rfl, rfl⟩
        · walk_at "go"
          refine cl_use0 iha (by omega) ?_
          rintro _ rfl
          exact ⟨a, rfl, rfl⟩
        · walk_at "go"
          refine cl_use0 ihb (by omega) ?_
          rintro _ rfl
          exact ⟨b, rfl, rfl⟩
      intro qs hlen hqs
      have e := vals_of (ts := [a, b]) hlen hqs
      subst e
      walk_at "go"
      refine op_noneIn (tupN_encV [a, b]) (by omega) ?_
      rw [T.value]
      cases ha : a.value with
      | none =>
        simp only [List.map, encV, ha, List.any, PV.isNone, Bool.or_true, Bool.true_or]
        walk_at "go"
        rfl
      | some v =>
      cases hb : b.value with
      | none =>
        obtain ⟨x, y⟩ := v
        simp only [List.map, encV, ha, hb, List.any, PV.isNone, Bool.or_true, Bool.true_or, Bool.false_or]
        walk_at "go"
        rfl
      | some v' =>
      obtain ⟨x, y⟩ := v
      obtain ⟨z, u⟩ := v'
      obtain ⟨x1, y1, y0⟩ := a.value_le (T.wf_a hw) ha
      obtain ⟨z1, u1, u0⟩ := b.value_le (T.wf_b hw) hb
      simp only [List.map, encV, ha, hb, List.any, PV.isNone, Bool.or_false, Bool.or_self]
      walk_at "go"
      refine ex_pairs (fun _ => by rfl) (fun _ => by rfl) rfl rfl rfl rfl ?_
      walk_at "go"
      refine ⟨_, _, _, _, rfl, ?_⟩
      walk_at "go"
      refine op_inS ["+", "-"] rfl ?_
      walk_at "go"
      refine op_mul (mul_ok x1 u1 (by omega) (by omega)) ?_
      walk_at "go"
      refine op_mul (mul_ok z1 y1 (by omega) (by omega)) ?_
      walk_at "go"
      refine op_mul (mul_ok y1 u1 (by omega) (by omega)) ?_
      walk_at "go"
      rfl
    | sub =>
      refine fn_intro O (d := a.size + b.size + 1) (ps := [("tree", T.enc (.bin _ a b))]) (by rfl) (by kernel_rfl) (bnds1 fun _ => by rfl) ?_ (by rfl) (of_decide_eq_true (by kernel_rfl)) (by rfl) rfl rfl rfl
      walk_at "go"
      refine ex_asgcomp (sc := vscope) (cl := []) rfl (fun _ => by rfl) (fun _ => by rfl) (fun _ => by rfl) (fun _ h => nomatch h) (by decide) rfl rfl (by decide) (by rfl) (by rfl) (fun _ _ => by rfl) ?_
      walk_at "go"
      refine op_sliceT (a := 1) (fun _ _ => ⟨_, rfl⟩) (by decide) (by simp) (by size_fits) ?_
      refine ⟨[a.enc, b.enc], itr_tup, by size_fits, fun i q => ∃ t, [a, b][i]? = some t ∧ q = encV t.value, ?_, ?_⟩
      · intro i q own' L hq
        have : (i = 0 ∧ q = a.enc) ∨ (i = 1 ∧ q = b.enc) := by
          rcases i with _ | _ | n
          · exact .inl ⟨rfl, by simpa using hq.symm⟩
          · exact .inr ⟨rfl, by simpa using hq.symm⟩
          · simp at hq
        rcases this with ⟨rfl, rfl⟩ | ⟨rfl, rfl⟩
        · walk_at "go"
          refine cl_use0 iha (by omega) ?_
          rintro _ rfl
          exact ⟨a, rfl, rfl⟩
        · walk_at "go"
          refine cl_use0 ihb (by omega) ?_
          rintro _ rfl
          exact ⟨b, rfl, rfl⟩
      intro qs hlen hqs
      have e := vals_of (ts := [a, b]) hlen hqs
      subst e
      walk_at "go"
      refine op_noneIn (tupN_encV [a, b]) (by omega) ?_
      rw [T.value]
      cases ha : a.value with
      | none =>
        simp only [List.map, encV, ha, List.any, PV.isNone, Bool.or_true, Bool.true_or]
        walk_at "go"
        rfl
      | some v =>
      cases hb : b.value with
      | none =>
        obtain ⟨x, y⟩ := v
        simp only [List.map, encV, ha, hb, List.any, PV.isNone, Bool.or_true, Bool.true_or, Bool.false_or]
        walk_at "go"
        rfl
      | some v' =>
      obtain ⟨x, y⟩ := v
      obtain ⟨z, u⟩ := v'
      obtain ⟨x1, y1, y0⟩ := a.value_le (T.wf_a hw) ha
      obtain ⟨z1, u1, u0⟩ := b.value_le (T.wf_b hw) hb
      simp only [List.map, encV, ha, hb, List.any, PV.isNone, Bool.or_false, Bool.or_self]
      walk_at "go"
      refine ex_pairs (fun _ => by rfl) (fun _ => by rfl) rfl rfl rfl rfl ?_
      walk_at "go"
      refine ⟨_, _, _, _, rfl, ?_⟩
      walk_at "go"
      refine op_inS ["+", "-"] rfl ?_
      walk_at "go"
      refine op_mul (mul_ok x1 u1 (by omega) (by omega)) ?_
      walk_at "go"
      refine op_mul (mul_ok z1 y1 (by omega) (by omega)) ?_
      walk_at "go"
      refine op_mul (mul_ok y1 u1 (by omega) (by omega)) ?_
      walk_at "go"
      rfl
    | mul =>
      refine fn_intro O (d := a.size + b.size + 1) (ps := [("tree", T.enc (.bin _ a b))]) (by rfl) (by kernel_rfl) (bnds1 fun _ => by rfl) ?_ (by rfl) (of_decide_eq_true (by kernel_rfl)) (by rfl) rfl rfl rfl
      walk_at "go"
      refine ex_asgcomp (sc := vscope) (cl := []) rfl (fun _ => by rfl) (fun _ => by rfl) (fun _ => by rfl) (fun _ h => nomatch h) (by decide) rfl rfl (by decide) (by rfl) (by rfl) (fun _ _ => by rfl) ?_
      walk_at "go"
      refine op_sliceT (a := 1) (fun _ _ => ⟨_, rfl⟩) (by decide) (by simp) (by size_fits) ?_
      refine ⟨[a.enc, b.enc], itr_tup, by size_fits, fun i q => ∃ t, [a, b][i]? = some t ∧ q = encV t.value, ?_, ?_⟩
      · intro i q own' L hq
        have : (i = 0 ∧ q = a.enc) ∨ (i = 1 ∧ q = b.enc) := by
          rcases i with _ | _ | n
          · exact .inl ⟨rfl, by simpa using hq.symm⟩
          · exact .inr ⟨rfl, by simpa using hq.symm⟩
          · simp at hq
        rcases this with ⟨rfl, rfl⟩ | ⟨rfl, rfl⟩
        · walk_at "go"
          refine cl_use0 iha (by omega) ?_
          rintro _ rfl
          exact ⟨a, rfl, rfl⟩
        · walk_at "go"
          refine cl_use0 ihb (by omega) ?_
          rintro _ rfl
          exact ⟨b, rfl, rfl⟩
      intro qs hlen hqs
      have e := vals_of (ts := [a, b]) hlen hqs
      subst e
      walk_at "go"
      refine op_noneIn (tupN_encV [a, b]) (by omega) ?_
      rw [T.value]
      cases ha : a.value with
      | none =>
        simp only [List.map, encV, ha, List.any, PV.isNone, Bool.or_true, Bool.true_or]
        walk_at "go"
        rfl
      | some v =>
      cases hb : b.value with
      | none =>
        obtain ⟨x, y⟩ := v
        simp only [List.map, encV, ha, hb, List.any, PV.isNone, Bool.or_true, Bool.true_or, Bool.false_or]
        walk_at "go"
        rfl
      | some v' =>
      obtain ⟨x, y⟩ := v
      obtain ⟨z, u⟩ := v'
      obtain ⟨x1, y1, y0⟩ := a.value_le (T.wf_a hw) ha
      obtain ⟨z1, u1, u0⟩ := b.value_le (T.wf_b hw) hb
      simp only [List.map, encV, ha, hb, List.any, PV.isNone, Bool.or_false, Bool.or_self]
      walk_at "go"
      refine ex_pairs (fun _ => by rfl) (fun _ => by rfl) rfl rfl rfl rfl ?_
      walk_at "go"
      refine ⟨_, _, _, _, rfl, ?_⟩
      walk_at "go"
      refine op_inS ["+", "-"] rfl ?_
      walk_at "go"
      refine op_inS ["*", ""] rfl ?_
      walk_at "go"
      refine op_mul (mul_ok x1 z1 (by omega) (by omega)) ?_
      walk_at "go"
      refine op_mul (mul_ok y1 u1 (by omega) (by omega)) ?_
      walk_at "go"
      rfl
    | div =>
      refine fn_intro O (d := a.size + b.size + 1) (ps := [("tree", T.enc (.bin _ a b))]) (by rfl) (by kernel_rfl) (bnds1 fun _ => by rfl) ?_ (by rfl) (of_decide_eq_true (by kernel_rfl)) (by rfl) rfl rfl rfl
      walk_at "go"
      refine ex_asgcomp (sc := vscope) (cl := []) rfl (fun _ => by rfl) (fun _ => by rfl) (fun _ => by rfl) (fun _ h => nomatch h) (by decide) rfl rfl (by decide) (by rfl) (by rfl) (fun _ _ => by rfl) ?_
      walk_at "go"
      refine op_sliceT (a := 1) (fun _ _ => ⟨_, rfl⟩) (by decide) (by simp) (by size_fits) ?_
      refine ⟨[a.enc, b.enc], itr_tup, by size_fits, fun i q => ∃ t, [a, b][i]? = some t ∧ q = encV t.value, ?_, ?_⟩
      · intro i q own' L hq
        have : (i = 0 ∧ q = a.enc) ∨ (i = 1 ∧ q = b.enc) := by
          rcases i with _ | _ | n
          · exact .inl ⟨rfl, by simpa using hq.symm⟩
          · exact .inr ⟨rfl, by simpa using hq.symm⟩
          · simp at hq
        rcases this with ⟨rfl, rfl⟩ | ⟨rfl, rfl⟩
        · walk_at "go"
          refine cl_use0 iha (by omega) ?_
          rintro _ rfl
          exact ⟨a, rfl, rfl⟩
        · walk_at "go"
          refine cl_use0 ihb (by omega) ?_
          rintro _ rfl
          exact ⟨b, rfl, rfl⟩
      intro qs hlen hqs
      have e := vals_of (ts := [a, b]) hlen hqs
      subst e
      walk_at "go"
      refine op_noneIn (tupN_encV [a, b]) (by omega) ?_
      rw [T.value]
      cases ha : a.value with
      | none =>
        simp only [List.map, encV, ha, List.any, PV.isNone, Bool.or_true, Bool.true_or]
        walk_at "go"
        rfl
      | some v =>
      cases hb : b.value with
      | none =>
        obtain ⟨x, y⟩ := v
        simp only [List.map, encV, ha, hb, List.any, PV.isNone, Bool.or_true, Bool.true_or, Bool.false_or]
        walk_at "go"
        rfl
      | some v' =>
      obtain ⟨x, y⟩ := v
      obtain ⟨z, u⟩ := v'
      obtain ⟨x1, y1, y0⟩ := a.value_le (T.wf_a hw) ha
      obtain ⟨z1, u1, u0⟩ := b.value_le (T.wf_b hw) hb
      simp only [List.map, encV, ha, hb, List.any, PV.isNone, Bool.or_false, Bool.or_self]
      walk_at "go"
      refine ex_pairs (fun _ => by rfl) (fun _ => by rfl) rfl rfl rfl rfl ?_
      walk_at "go"
      refine ⟨_, _, _, _, rfl, ?_⟩
      walk_at "go"
      refine op_inS ["+", "-"] rfl ?_
      walk_at "go"
      refine op_inS ["*", ""] rfl ?_
      walk_at "go"
      by_cases hz0 : z = 0
      · subst hz0
        refine if_f (by decide) ?_
        walk_at "go"
        rfl
      · refine if_t (by simpa using hz0) ?_
        walk_at "go"
        refine op_mul (mul_ok x1 u1 (by omega) (by omega)) ?_
        walk_at "go"
        refine op_mul (mul_ok y1 z1 (by omega) (by omega)) ?_
        walk_at "go"
        simp only [comb, hz0, ne_eq, not_false_eq_true, if_true, encV]
    | jux =>
      refine fn_intro O (d := a.size + b.size + 1) (ps := [("tree", T.enc (.bin _ a b))]) (by rfl) (by kernel_rfl) (bnds1 fun _ => by rfl) ?_ (by rfl) (of_decide_eq_true (by kernel_rfl)) (by rfl) rfl rfl rfl
      walk_at "go"
      refine ex_asgcomp (sc := vscope) (cl := []) rfl (fun _ => by rfl) (fun _ => by rfl) (fun _ => by rfl) (fun _ h => nomatch h) (by decide) rfl rfl (by decide) (by rfl) (by rfl) (fun _ _ => by rfl) ?_
      walk_at "go"
      refine op_sliceT (a := 1) (fun _ _ => ⟨_, rfl⟩) (by decide) (by simp) (by size_fits) ?_
      refine ⟨[a.enc, b.enc], itr_tup, by size_fits, fun i q => ∃ t, [a, b][i]? = some t ∧ q = encV t.value, ?_, ?_⟩
      · intro i q own' L hq
        have : (i = 0 ∧ q = a.enc) ∨ (i = 1 ∧ q = b.enc) := by
          rcases i with _ | _ | n
          · exact .inl ⟨rfl, by simpa using hq.symm⟩
          · exact .inr ⟨rfl, by simpa using hq.symm⟩
          · simp at hq
        rcases this with ⟨rfl, rfl⟩ | ⟨rfl, rfl⟩
        · walk_at "go"
          refine cl_use0 iha (by omega) ?_
          rintro _ rfl
          exact ⟨a, rfl, rfl⟩
        · walk_at "go"
          refine cl_use0 ihb (by omega) ?_
          rintro _ rfl
          exact ⟨b, rfl, rfl⟩
      intro qs hlen hqs
      have e := vals_of (ts := [a, b]) hlen hqs
      subst e
      walk_at "go"
      refine op_noneIn (tupN_encV [a, b]) (by omega) ?_
      rw [T.value]
      cases ha : a.value with
      | none =>
        simp only [List.map, encV, ha, List.any, PV.isNone, Bool.or_true, Bool.true_or]
        walk_at "go"
        rfl
      | some v =>
      cases hb : b.value with
      | none =>
        obtain ⟨x, y⟩ := v
        simp only [List.map, encV, ha, hb, List.any, PV.isNone, Bool.or_true, Bool.true_or, Bool.false_or]
        walk_at "go"
        rfl
      | some v' =>
      obtain ⟨x, y⟩ := v
      obtain ⟨z, u⟩ := v'
      obtain ⟨x1, y1, y0⟩ := a.value_le (T.wf_a hw) ha
      obtain ⟨z1, u1, u0⟩ := b.value_le (T.wf_b hw) hb
      simp only [List.map, encV, ha, hb, List.any, PV.isNone, Bool.or_false, Bool.or_self]
      walk_at "go"
      refine ex_pairs (fun _ => by rfl) (fun _ => by rfl) rfl rfl rfl rfl ?_
      walk_at "go"
      refine ⟨_, _, _, _, rfl, ?_⟩
      walk_at "go"
      refine op_inS ["+", "-"] rfl ?_
      walk_at "go"
      refine op_inS ["*", ""] rfl ?_
      walk_at "go"
      refine op_mul (mul_ok x1 z1 (by omega) (by omega)) ?_
      walk_at "go"
      refine op_mul (mul_ok y1 u1 (by omega) (by omega)) ?_
      walk_at "go"
      rfl
    | pow =>
      refine fn_intro O (d := a.size + b.size + 1) (ps := [("tree", T.enc (.bin _ a b))]) (by rfl) (by kernel_rfl) (bnds1 fun _ => by rfl) ?_ (by rfl) (of_decide_eq_true (by kernel_rfl)) (by rfl) rfl rfl rfl
      walk_at "go"
      refine ex_asgcomp (sc := vscope) (cl := []) rfl (fun _ => by rfl) (fun _ => by rfl) (fun _ => by rfl) (fun _ h => nomatch h) (by decide) rfl rfl (by decide) (by rfl) (by rfl) (fun _ _ => by rfl) ?_
      walk_at "go"
      refine op_sliceT (a := 1) (fun _ _ => ⟨_, rfl⟩) (by decide) (by simp) (by size_fits) ?_
      refine ⟨[a.enc, b.enc], itr_tup, by size_fits, fun i q => ∃ t, [a, b][i]? = some t ∧ q = encV t.value, ?_, ?_⟩
      · intro i q own' L hq
        have : (i = 0 ∧ q = a.enc) ∨ (i = 1 ∧ q = b.enc) := by
          rcases i with _ | _ | n
          · exact .inl ⟨rfl, by simpa using hq.symm⟩
          · exact .inr ⟨rfl, by simpa using hq.symm⟩
          · simp at hq
        rcases this with ⟨rfl, rfl⟩ | ⟨rfl, rfl⟩
        · walk_at "go"
          refine cl_use0 iha (by omega) ?_
          rintro _ rfl
          exact ⟨a, rfl, rfl⟩
        · walk_at "go"
          refine cl_use0 ihb (by omega) ?_
          rintro _ rfl
          exact ⟨b, rfl, rfl⟩
      intro qs hlen hqs
      have e := vals_of (ts := [a, b]) hlen hqs
      subst e
      walk_at "go"
      refine op_noneIn (tupN_encV [a, b]) (by omega) ?_
      rw [T.value]
      cases ha : a.value with
      | none =>
        simp only [List.map, encV, ha, List.any, PV.isNone, Bool.or_true, Bool.true_or]
        walk_at "go"
        rfl
      | some v =>
      cases hb : b.value with
      | none =>
        obtain ⟨x, y⟩ := v
        simp only [List.map, encV, ha, hb, List.any, PV.isNone, Bool.or_true, Bool.true_or, Bool.false_or]
        walk_at "go"
        rfl
      | some v' =>
      obtain ⟨x, y⟩ := v
      obtain ⟨z, u⟩ := v'
      obtain ⟨x1, y1, y0⟩ := a.value_le (T.wf_a hw) ha
      obtain ⟨z1, u1, u0⟩ := b.value_le (T.wf_b hw) hb
      simp only [List.map, encV, ha, hb, List.any, PV.isNone, Bool.or_false, Bool.or_self]
      walk_at "go"
      refine ex_pairs (fun _ => by rfl) (fun _ => by rfl) rfl rfl rfl rfl ?_
      walk_at "go"
      refine ⟨_, _, _, _, rfl, ?_⟩
      walk_at "go"
      refine op_inS ["+", "-"] rfl ?_
      walk_at "go"
      refine op_inS ["*", ""] rfl ?_
      walk_at "go"
      obtain ⟨_, e, he, rfl⟩ := hw
      cases hb
      walk_at "go"
      refine ex_for (α := Unit) (fun i _ => [("a", .int x), ("b", .int y), ("top", .int (x ^ i)), ("bottom", .int (y ^ i))]) (fun _ _ => True) () rfl (fun _ _ => by rfl) ?_
      walk_at "go"
      refine op_range ?_
      refine ⟨_, itr_rng (by omega), trivial, LSub.all (by show LSub _ [("a", .int x), ("b", .int y), ("top", .int (x ^ 0)), ("bottom", .int (y ^ 0))]; rw [Int.pow_zero, Int.pow_zero]; walk_at "sub"), ?_, ?_⟩
      · intro i _ q hq _
        have hi : i < e := by
          have := (List.getElem?_eq_some_iff.mp hq).1
          simpa using this
        refine ⟨_, by walk_at "put", fun e => ?_⟩
        walk_at "go"
        refine op_mul (mul_ok (le_pow3 (n := i) x1 (by omega)) x1 (by omega) (by omega)) ?_
        walk_at "go"
        refine op_mul (mul_ok (le_pow3 (n := i) y1 (by omega)) y1 (by omega) (by omega)) ?_
        walk_at "go"
        refine ⟨rfl, (), trivial, ?_⟩
        refine LSub.all (τ := [("a", .int x), ("b", .int y), ("top", .int (x ^ (i + 1))), ("bottom", .int (y ^ (i + 1)))]) ?_
        rw [Int.pow_succ, Int.pow_succ]
        walk_at "sub"
      · intro _ _
        walk_at "go"
        simp [comb, encV]
end
end
end Mine

namespace Mine
open PySem PySem.W PySem.Calls PyProof.Rows

/-! ## Dicts of the top, texts -/
section
variable {G : Glb} {F : FnLit} {d : Nat} {own : List (Addr × Obj)} {σ : List (Str × PV)} {R : PV → Prop} {X : Option Value} {B : Bool → Prop} {Q : FO → List (Addr × Obj) → List (Str × PV) → Prop} {a : Addr} {kvs : List (Str × Value)} {x : Str}
def DictAt (G : Glb) (a : Addr) (kvs : List (Str × Value)) : Prop := (a == sysModules) = false ∧ G.base.DictOf (strKind G.prog G.w) a kvs
theorem str_key {prog : Program} {w : World} {x : Str} {t : Tok} : (strKind prog w).is x (.str x t) = true := strKind_is prog w x t
theorem op_inD (D : DictAt G a kvs) (h : R (.bool (valueAt kvs x).isSome)) : D2 G F d own (compareOp .In) (.str x) (.raw (.ref a)) R X := by
  intro A g L Z₀ Z s m v w lv r r'
  cases r; cases r'
  exact wpAny_in_of str_key D.1 (D.2.keep lv.fr.keep).mapOf (got_tk lv (.bool _) h)
theorem op_ninD (D : DictAt G a kvs) (h : R (.bool !(valueAt kvs x).isSome)) : D2 G F d own (compareOp .NotIn) (.str x) (.raw (.ref a)) R X := by
  intro A g L Z₀ Z s m v w lv r r'
  cases r; cases r'
  exact wpAny_notIn_of str_key D.1 (D.2.keep lv.fr.keep).mapOf (got_tk lv (.bool _) h)
theorem op_itemD {e i : Expr} {p : PV} {u : Value} (D : DictAt G a kvs) (hs : ∀ t, subscripted i false (.ref a) (.str x t) = operate [.ref a, .str x t] (getItem (.ref a) (.str x t))) (hg : ∀ r, letTemporaryGo e (.ref a) r = pure ())
    (hv : valueAt kvs x = some u) (hr : ∀ Z, Rd Z u p) (h : R p) : D2 G F d own (subscriptTail e i) (.raw (.ref a)) (.str x) R X := by
  intro A g L Z₀ Z s m v w lv r r'
  cases r; cases r'
  have K := D.2.keep lv.fr.keep
  exact subscriptTail_builtin K.mapOf.typeIs slot_dict_getitem.lookup (wpAny_getItem_of str_key K.mapOf hv (got_tk lv (hr _) h)) (hs _) hg
theorem tr_D (D : DictAt G a kvs) (hz : kvs.length < 2 ^ 62) (h : B (!kvs.isEmpty)) : Tr G F d own (.raw (.ref a)) B X := by
  intro A g L Z₀ Z s m v lv r
  cases r
  exact wpAny_truthy_dict D.1 (D.2.keep lv.fr.keep) (by omega) ⟨Z, .refl _, lv, .tk _, h⟩
theorem mt_getD {Rm : PV → List PV → Prop} (D : DictAt G a kvs) (h : Rm (.raw (.builtin "dict.get")) [.raw (.ref a)]) : Mt G F d own "get" (.raw (.ref a)) Rm X := by
  intro A g L Z₀ Z s m v pl lv r
  cases r
  have K := D.2.keep lv.fr.keep
  exact getMethod_builtin K.mapOf.typeIs PySem.F.plainAttrs_dict PySem.F.slot_dict_get PySem.F.type_dict_get K.mapOf.noDict ⟨Z, _, _, .refl _, lv, .refl _, .raw _, .cons (.raw _) .nil, h⟩
theorem cl_getD {q : PV} (D : DictAt G a kvs) (h : ∀ v, valueAt kvs x = some v → ∃ p, (∀ Z, Rd Z v p) ∧ R p) (h' : valueAt kvs x = none → R q) : Cl G F d own (.raw (.builtin "dict.get")) [.raw (.ref a), .str x, q] [] R X := by
  intro A g L Z₀ Z s m fv vs kws lv rf r hk rk
  obtain rfl : kws = [] := by simpa using hk
  cases rf
  cases r with | cons r r1 =>
  cases r1 with | cons r1 r2 =>
  cases r2 with | cons r2 r3 =>
  cases r3; cases r; cases r1
  have K := D.2.keep lv.fr.keep
  refine call_meetsIn PySem.F.slot_dict_get K.mapOf.typeIs PySem.F.entry_dict_get (PySem.F.args_dict_get_3 _ _ _) (meets_dict_get_default (strKind G.prog G.w) a str_key D.1 _) ⟨_, K.mapOf, ?_⟩
  cases e : valueAt kvs x with
  | none => exact ⟨Z, _, .refl _, lv, .tk _, r2, h' e⟩
  | some v =>
    obtain ⟨p, hp, hR⟩ := h v e
    exact ⟨Z, _, .refl _, lv, .tk _, hp _, hR⟩

/-! ### methods of texts -/
theorem tr_str (hz : x.length < 2 ^ 62) (h : B ((x.length : Int) != 0)) : Tr G F d own (.str x) B X := by
  intro A g L Z₀ Z s m v lv r
  cases r
  exact PySem.P.truthy_str (by omega) ⟨Z, .refl _, lv, .tk _, h⟩
theorem mt_lower {Rm : PV → List PV → Prop} (h : Rm (.raw (.builtin "str.lower")) [.str x]) : Mt G F d own "lower" (.str x) Rm X := by
  intro A g L Z₀ Z s m v pl lv r
  cases r
  exact PySem.GM.lower ⟨Z, _, _, .refl _, lv, .refl _, .raw _, .cons (.str _ _) .nil, h⟩
theorem mt_partition {Rm : PV → List PV → Prop} (h : Rm (.raw (.builtin "str.partition")) [.str x]) : Mt G F d own "partition" (.str x) Rm X := by
  intro A g L Z₀ Z s m v pl lv r
  cases r
  exact PySem.GM.partition ⟨Z, _, _, .refl _, lv, .refl _, .raw _, .cons (.str _ _) .nil, h⟩
theorem cl_lower (hs : KXs.Still x) (hz : x.length ≤ 5592405) (h : R (.str x)) : Cl G F d own (.raw (.builtin "str.lower")) [.str x] [] R X := by
  intro A g L Z₀ Z s m fv vs kws lv rf r hk rk
  obtain rfl : kws = [] := by simpa using hk
  cases rf
  cases r with | cons r r1 =>
  cases r1; cases r
  exact KXs.lower_K hs hz fun t' k => got_tk lv (.str _ _) h
/-- a partition that does not find -/
theorem cl_part0 {y : Str} (hy : (y.length == 0) = false) (hz : x.length ≤ sizeLine) (ho : Builtin.Str.occurrences x y 0 x.length 1 = []) (h : R (.tup [.str x, .str Str.empty, .str Str.empty])) : Cl G F d own (.raw (.builtin "str.partition")) [.str x, .str y] [] R X := by
  intro A g L Z₀ Z s m fv vs kws lv rf r hk rk
  obtain rfl : kws = [] := by simpa using hk
  cases rf
  cases r with | cons r r1 =>
  cases r1 with | cons r1 r2 =>
  cases r2; cases r; cases r1
  refine call_meets PySem.F.slot_str_partition (typeIs_str _ _ _) PySem.F.entry_str_partition (PySem.F.args_str_partition_2 _ _) (meets_str_partition x y _ _ hy hz) ?_
  simp only [ho]
  rename_i t u
  obtain ⟨k, l', e⟩ := lv.new (o := { cls := .type "tuple", data := .seq [.str x t, .str Str.empty s.toks, .str Str.empty s.toks].toArray }) rfl
  exact ⟨_, _, k, l', ⟨rfl, .refl _⟩, .tup e (.cons (.str _ _) (.cons (.str _ _) (.cons (.str _ _) .nil))), h⟩
theorem cl_intStr {n : Int} (h0 : 0 ≤ n) (h1 : n < 10 ^ 10) (h : R (.int n)) : Cl G F d own (.raw (.type "int")) [.str (Str.ofString (toString n))] [] R X := by
  intro A g L Z₀ Z s m fv vs kws lv rf r hk rk
  obtain rfl : kws = [] := by simpa using hk
  cases rf
  cases r with | cons r r1 =>
  cases r1; cases r
  exact KIN.call_num h0 h1 (got_tk lv (.int _ _) h)
theorem ex_tup3 {k : Nat} {xp yp zp tpos pos : Pos} {value : Expr} {rest : List Stmt} {x y z : Str} (hs : ∀ env, swapsWithSole [.Tuple [.Name x xp, .Name y yp, .Name z zp] k tpos] value pos.line env = pure false) (hw : ∀ L, swappedStores [.Tuple [.Name x xp, .Name y yp, .Name z zp] k tpos] value (F.env L) = pure none)
    (hx : F.scope.names.lookup x = some .local) (hy : F.scope.names.lookup y = some .local) (hzz : F.scope.names.lookup z = some .local)
    (h : Ev G F d own σ value (fun p => ∃ a b c, p = .tup [a, b, c] ∧ ∃ σ₁, PutR σ x a σ₁ ∧ ∃ σ₂, PutR σ₁ y b σ₂ ∧ ∃ σ₃, PutR σ₂ z c σ₃ ∧ Ex G F d own σ₃ rest Q X) X) : Ex G F d own σ (.Assign [.Tuple [.Name x xp, .Name y yp, .Name z zp] k tpos] value pos :: rest) Q X :=
  ex_astuple hs hw (h.mono fun p ⟨a, b, c, e, σ₁, p₁, σ₂, p₂, σ₃, p₃, h⟩ => e ▸ as_tuple (fun _ => rfl) (fun _ => rfl) (asn_cons (ts := fun env => [assign (.Name y yp) env, assign (.Name z zp) env]) (as_name p₁ hx (asn_cons (ts := fun env => [assign (.Name z zp) env]) (as_name p₂ hy (asn_cons (ts := fun _ => []) (as_name p₃ hzz (asn_nil h))))))))
end
end Mine

namespace Mine
open PySem PySem.W PySem.Calls PyProof.Rows

/-! ## A list of the frame's own, by append -/
section
variable {G : Glb} {F : FnLit} {d : Nat} {own : List (Addr × Obj)} {σ : List (Str × PV)} {R : PV → Prop} {X : Option Value} {B : Bool → Prop} {Q : FO → List (Addr × Obj) → List (Str × PV) → Prop} {x : Str}
abbrev lstN (ys : List Value) (n : Nat) : Obj := { cls := .type "list", data := .seq ys.toArray n }
theorem lstN_snoc (ys : List Value) (y : Value) (n : Nat) : ({ cls := .type "list", data := .seq (ys.toArray.push y) (n + 1) } : Obj) = lstN (ys ++ [y]) (n + 1) := by
  show ({ cls := .type "list", data := .seq (ys.toArray.push y) (n + 1) } : Obj) = { cls := .type "list", data := .seq (ys ++ [y]).toArray (n + 1) }
  rw [List.push_toArray]
def ExL (G : Glb) (F : FnLit) (d : Nat) (x : Str) (ps : List PV) (own : List (Addr × Obj)) (σ : List (Str × PV)) (ss : List Stmt) (Q : FO → List (Addr × Obj) → List (Str × PV) → Prop) (X : Option Value) : Prop :=
  ∀ D ys n A g L Z₀ Z s m, Live G F d A g L Z₀ Z ((D, lstN ys n) :: own) s.heap m → g.objs.size ≤ D → (∀ q ∈ own, q.1 ≠ D) → m x = some (.ref D) → StR Z m σ → RdL Z ys ps →
    wpAny (model G.prog G.w) A (execs ss (F.env L)) (Dn G F d A g L Z₀ Z Q s) (ThrA G A X g s) s
theorem exl_asg {elts : List Expr} {rest : List Stmt} {np lp pos : Pos} {σ' : List (Str × PV)} (hl : F.scope.names.lookup x = some .local) (hs : ∀ env, swapsWith (.List elts lp) (some (.Name x np)) pos.line env = pure false)
    (hσ : ∀ q ∈ σ', q ∈ σ ∧ q.1 ≠ x) (h : Evs G F d own σ elts (fun ps => ps.length ≤ sizeLine ∧ ExL G F d x ps own σ' rest Q X) X) : Ex G F d own σ (.Assign [.Name x np] (.List elts lp) pos :: rest) Q X := by
  intro A g L Z₀ Z s m lv st
  refine wpAny_execs_cons (wpAny_Assign_Name (List_ (wpAny_mono (h A g L Z₀ Z s m _ lv st) (fun vs s₁ q => ?_) fun _ _ q => q)) (hs _))
  obtain ⟨Z₁, ps, k₁, l₁, q₁, r₁, hz, h₁⟩ := q
  refine wpAny_newList ?_ (by rw [r₁.len]; exact hz)
  obtain ⟨l₂, hne⟩ := l₁.newOwn (o := lstN vs 0) rfl
  refine wp_store (s := { s₁ with heap := s₁.heap.push (lstN vs 0) }) l₂ hl fun h' l' => ?_
  refine back_D (s₁ := ⟨h', s₁.gens, s₁.drawn, s₁.toks + 1, s₁.os⟩) k₁ (q₁.trans ⟨rfl, .refl _⟩) ?_
  refine h₁ s₁.heap.objs.size vs 0 A g L Z₀ Z₁ _ _ l' (l₁.glt) hne (if_pos rfl) (fun q hq => ?_) r₁
  obtain ⟨a, b⟩ := hσ q hq
  obtain ⟨v, c, e⟩ := (st.mono k₁) q a
  exact ⟨v, (if_neg b).trans c, e⟩
theorem wp_app (O : G.Ok) {e : Expr} {np apos pos : Pos} {D : Addr} {ys : List Value} {n : Nat} {A : Around} {g : Heap} {L : Addr} {Z₀ Z : FZ} {s : Shared} {m : Str → Option Value} {P : Value → Shared → Prop} {E : Value → Shared → Prop}
    (lv : Live G F d A g L Z₀ Z ((D, lstN ys n) :: own) s.heap m) (hna : ∀ q ∈ own, q.1 ≠ D) (hm : m x = some (.ref D)) (hl : F.scope.names.lookup x = some .local) (hd : (x == ("__debug__" : Str)) = false) (st : StR Z m σ)
    (he1 : ∀ env, starEach [e] env = (false, eval e env) :: starEach [] env) (hp : plainArgs [e] = true)
    (he : ∀ env, ∃ pl : Sem Bool, eval (.Call (.Attribute (.Name x np) "append" apos) [e] [] pos) env = (do
      let ov ← eval (.Name x np) env
      standAt apos.atName
      let (f, first) ← holding [ov] (getMethod ov "append" pl)
      callWith pos f first (backTo pos (starEach [e] env)) (backToKw pos (keywordEach [] env))))
    (hz : ys.length ≤ sizeLine) (h : Ev G F d ((D, lstN ys n) :: own) σ e R X) (hE : ∀ v s', ThrA G A X g s v s' → E v s')
    (fin : ∀ Z' p v s', FLe Z Z' → Live G F d A g L Z₀ Z' ((D, lstN (ys ++ [v]) (n + 1)) :: own) s'.heap m → SS s s' → Rd Z' v p → R p → P .none s') :
    wpAny (model G.prog G.w) A (eval (.Call (.Attribute (.Name x np) "append" apos) [e] [] pos) (F.env L)) P E s := by
  obtain ⟨pl, ee⟩ := he (F.env L)
  refine methodCall_KW (wpAny_Name (wpAny_loadName_local (by rw [F.scope_env]; exact lv.kind) (by rw [F.kindOf_env]; exact hl) (by rw [F.locals_env]; exact lv.fr.ns) hm ?_) hd) ee
  have zD := (lv.nw (D, lstN ys n) (.head _)).1
  refine getMethod_list_append zD rfl rfl ?_
  have hs := plain_star (env := F.env L) (pos := pos) hp
  refine callWith_of (P := fun _ => True) (by rw [all_false_any _ hs]; rfl) (fun _ _ => ⟨_, .inr (.inl rfl), .now⟩) ?_
  refine wp_evalArgs hs rfl (wpAny_mono ((evs_more (Rs := fun ps => ∃ p, ps = [p] ∧ R p) he1 (h.mono fun p hp => evs_nil ⟨p, rfl, hp⟩) : Evs G F d ((D, lstN ys n) :: own) σ [e] _ X) A g L Z₀ Z s m pos lv st) (fun vs s₁ q => ?_) fun v s' q => hE v s' q)
  obtain ⟨Z₁, as, k₁, l₁, q₁, r₁, p, rfl, hR⟩ := q
  cases r₁ with | cons r₁ r₂ =>
  cases r₂
  refine wpAny_evalAll_nil ⟨trivial, ?_⟩
  have zD' := (l₁.nw (D, lstN ys n) (.head _)).1
  refine append_at zD' (fun h' hs' hD => ?_) (by show ys.toArray.size ≤ sizeLine; rw [List.size_toArray]; exact hz)
  exact fin Z₁ p _ _ k₁ (l₁.setOwn (h' := h') (o' := lstN (ys ++ [_]) (n + 1)) (fun b x hb e => hs'.extBut b x hb e) (hD.trans (congrArg some (lstN_snoc ys _ n))) (.inl fun vs e => by cases e) hna) (q₁.trans ⟨rfl, .refl _⟩) r₁ hR
theorem exl_app (O : G.Ok) {e : Expr} {np apos pos epos : Pos} {ps : List PV} {rest : List Stmt} (hl : F.scope.names.lookup x = some .local) (hd : (x == ("__debug__" : Str)) = false)
    (hi : ∀ L, interactive (F.env L) = false) (hsw : ∀ env, swapsWith (.Call (.Attribute (.Name x np) "append" apos) [e] [] pos) none epos.line env = pure false)
    (he1 : ∀ env, starEach [e] env = (false, eval e env) :: starEach [] env) (hp : plainArgs [e] = true)
    (he : ∀ env, ∃ pl : Sem Bool, eval (.Call (.Attribute (.Name x np) "append" apos) [e] [] pos) env = (do
      let ov ← eval (.Name x np) env
      standAt apos.atName
      let (f, first) ← holding [ov] (getMethod ov "append" pl)
      callWith pos f first (backTo pos (starEach [e] env)) (backToKw pos (keywordEach [] env))))
    (hz : ps.length ≤ sizeLine) (h : ∀ own', Ev G F d own' σ e (fun p => ExL G F d x (ps ++ [p]) own σ rest Q X) X) : ExL G F d x ps own σ (.Expr (.Call (.Attribute (.Name x np) "append" apos) [e] [] pos) epos :: rest) Q X := by
  intro D ys n A g L Z₀ Z s m lv hg hna hm st rd
  refine wpAny_execs_cons (wpAny_Expr_any (wp_app O lv hna hm hl hd st he1 hp he (by rw [rd.len]; exact hz) (h _) (fun _ _ q => q) fun Z' p v s' k l q r hx => ?_) (hi _) (hsw _))
  exact back_D k q (hx D (ys ++ [v]) (n + 1) A g L Z₀ Z' s' m l hg hna hm (st.mono k) ((rd.mono k).app (.cons r .nil)))
theorem exl_ifapp (O : G.Ok) {t e : Expr} {np apos pos epos ipos : Pos} {ps : List PV} {rest : List Stmt} (hl : F.scope.names.lookup x = some .local) (hd : (x == ("__debug__" : Str)) = false)
    (hi : ∀ L, interactive (F.env L) = false) (hsw : ∀ env, swapsWith (.Call (.Attribute (.Name x np) "append" apos) [e] [] pos) none epos.line env = pure false)
    (he1 : ∀ env, starEach [e] env = (false, eval e env) :: starEach [] env) (hp : plainArgs [e] = true)
    (he : ∀ env, ∃ pl : Sem Bool, eval (.Call (.Attribute (.Name x np) "append" apos) [e] [] pos) env = (do
      let ov ← eval (.Name x np) env
      standAt apos.atName
      let (f, first) ← holding [ov] (getMethod ov "append" pl)
      callWith pos f first (backTo pos (starEach [e] env)) (backToKw pos (keywordEach [] env))))
    (hz : ps.length ≤ sizeLine) (h : ∀ own', Ts G F d own' σ t (fun c => if c then (∀ own', Ev G F d own' σ e (fun p => ExL G F d x (ps ++ [p]) own σ rest Q X) X) else ExL G F d x ps own σ rest Q X) X) :
    ExL G F d x ps own σ (.If t [.Expr (.Call (.Attribute (.Name x np) "append" apos) [e] [] pos) epos] [] ipos :: rest) Q X := by
  intro D ys n A g L Z₀ Z s m lv hg hna hm st rd
  refine wpAny_execs_cons (wpAny_If (wpAny_mono (h _ A g L Z₀ Z s m lv st) (fun c s₁ q => ?_) fun _ _ q => q))
  obtain ⟨Z₁, k₁, l₁, q₁, h₁⟩ := q
  cases c with
  | false => exact wpAny_execs_nil (back_D k₁ q₁ (h₁ D ys n A g L Z₀ Z₁ s₁ m l₁ hg hna hm (st.mono k₁) (rd.mono k₁)))
  | true =>
    refine wpAny_execs_cons (wpAny_Expr_any (wp_app O l₁ hna hm hl hd (st.mono k₁) he1 hp he (by rw [rd.len]; exact hz) (h₁ _) (fun _ _ q => q.back k₁ q₁) fun Z' p v s' k l q r hx => ?_) (hi _) (hsw _))
    exact wpAny_execs_nil (back_D (k₁.trans k) (q₁.trans q) (hx D (ys ++ [v]) (n + 1) A g L Z₀ Z' s' m l hg hna hm (st.mono (k₁.trans k)) ((rd.mono (k₁.trans k)).app (.cons r .nil))))
theorem exl_frz {ps : List PV} {ss : List Stmt} (h : Ex G F d own ((x, .lst ps) :: σ) ss Q X) : ExL G F d x ps own σ ss Q X := by
  intro D ys n A g L Z₀ Z s m lv hg hna hm st rd
  obtain ⟨k, l, e⟩ := lv.freeze hg hna
  refine back_D k (.refl _) (h A g L Z₀ _ s m l fun q hq => ?_)
  rcases List.mem_cons.mp hq with rfl | hq
  · exact ⟨_, hm, .lst e rfl rfl (rd.mono k)⟩
  · exact (st.mono k) q hq
end
end Mine

namespace Mine
open PySem PySem.W PySem.Calls PyProof.Rows

/-! ## join and the percent format -/
section
variable {G : Glb} {F : FnLit} {d : Nat} {own : List (Addr × Obj)} {σ : List (Str × PV)} {R : PV → Prop} {X : Option Value} {sep a b c : Str}
theorem mt_join {Rm : PV → List PV → Prop} (h : Rm (.raw (.builtin "str.join")) [.str sep]) : Mt G F d own "join" (.str sep) Rm X := by
  intro A g L Z₀ Z s m v pl lv r
  cases r
  exact PySem.GM.join ⟨Z, _, _, .refl _, lv, .refl _, .raw _, .cons (.str _ _) .nil, h⟩
theorem cl_join2 (hz : a.length + b.length + 2 * sep.length ≤ 1000000) (h : R (.str (a ++ sep ++ b))) : Cl G F d own (.raw (.builtin "str.join")) [.str sep, .lst [.str a, .str b]] [] R X := by
  intro A g L Z₀ Z s m fv vs kws lv rf r hk rk
  obtain rfl : kws = [] := by simpa using hk
  cases rf
  cases r with | cons r r1 =>
  cases r1 with | cons r1 r2 =>
  cases r2; cases r
  rename_i t
  obtain ⟨D, ws, rfl, hl, rl⟩ := r1.isList lv.sub
  obtain ⟨ws⟩ := ws
  cases rl with | cons ra rl =>
  cases rl with | cons rb rl =>
  cases rl; cases ra; cases rb
  rename_i ta tb
  refine call_meets PySem.F.slot_str_join (typeIs_str _ _ _) PySem.F.entry_str_join (PySem.F.args_str_join_2 _ _) (meets_str_join_list sep t D [(a, ta), (b, tb)] ?_) ⟨hl, ?_⟩
  · show Builtin.Str.tooLong (0 + a.length + sep.length + b.length + sep.length) = false
    unfold Builtin.Str.tooLong
    rw [sizeLine_eq]
    exact decide_eq_false (by omega)
  · have e : Builtin.Str.glued sep [a, b] = a ++ sep ++ b := StrLaws.glued_eq_join sep [a, b]
    have := got_tk (R := R) (t := s.toks + 1) lv (.str (a ++ sep ++ b) s.toks) h
    rw [← e] at this
    refine ⟨?_, this⟩
    show (Builtin.Str.glued sep [a, b]).length ≤ sizeLine
    rw [e, sizeLine_eq]
    rw [Str.length_append, Str.length_append]
    omega
theorem cl_join3 (hz : a.length + b.length + c.length + 3 * sep.length ≤ 1000000) (h : R (.str (a ++ sep ++ (b ++ sep ++ c)))) : Cl G F d own (.raw (.builtin "str.join")) [.str sep, .lst [.str a, .str b, .str c]] [] R X := by
  intro A g L Z₀ Z s m fv vs kws lv rf r hk rk
  obtain rfl : kws = [] := by simpa using hk
  cases rf
  cases r with | cons r r1 =>
  cases r1 with | cons r1 r2 =>
  cases r2; cases r
  rename_i t
  obtain ⟨D, ws, rfl, hl, rl⟩ := r1.isList lv.sub
  obtain ⟨ws⟩ := ws
  cases rl with | cons ra rl =>
  cases rl with | cons rb rl =>
  cases rl with | cons rc rl =>
  cases rl; cases ra; cases rb; cases rc
  rename_i ta tb tc
  refine call_meets PySem.F.slot_str_join (typeIs_str _ _ _) PySem.F.entry_str_join (PySem.F.args_str_join_2 _ _) (meets_str_join_list sep t D [(a, ta), (b, tb), (c, tc)] ?_) ⟨hl, ?_⟩
  · show Builtin.Str.tooLong (0 + a.length + sep.length + b.length + sep.length + c.length + sep.length) = false
    unfold Builtin.Str.tooLong
    rw [sizeLine_eq]
    exact decide_eq_false (by omega)
  · have e : Builtin.Str.glued sep [a, b, c] = a ++ sep ++ (b ++ sep ++ c) := StrLaws.glued_eq_join sep [a, b, c]
    have := got_tk (R := R) (t := s.toks + 1) lv (.str (a ++ sep ++ (b ++ sep ++ c)) s.toks) h
    rw [← e] at this
    refine ⟨?_, this⟩
    show (Builtin.Str.glued sep [a, b, c]).length ≤ sizeLine
    rw [e, sizeLine_eq]
    rw [Str.length_append, Str.length_append, Str.length_append, Str.length_append]
    omega
theorem op_pct (hz : a.length ≤ 1000000) (h : R (.str ("(" ++ a ++ ")"))) : D2 G F d own (binaryOp .Mod) (.str "(%s)") (.str a) R X := by
  intro A g L Z₀ Z s m v w lv r r'
  cases r; cases r'
  refine' KPc.mod_str (T := fun z => ("(" ++ z ++ ")" : Str)) ?kpcF hz ?kpcm ?_
  case kpcF => kpc_eq
  case kpcm => kpc_run_s
  intro t' k
  exact got_tk lv (.str _ _) h
end
end Mine

namespace Mine
open PySem PySem.W PySem.Calls PyProof.Rows Builtin Builtin.ObjectAttr

/-! ## An own exception with an __init__ that stores its one argument -/
section
variable {prog : Program} {w : World} {A : Around} {E : Value → Shared → Prop} {h : Heap} {g : Array GenState} {d : Drawn} {t : Nat} {os : OsState}
variable {nm q : Str} {C N : Addr} {bs bm bmB : List Value} {hdct : Bool} {sn : List Str} {sub : List Value} {ab : Bool} {col : Option Bool} {dd : Option Addr} {k0 k1 k2 k3 k5 : Option Value} {B newId initId : String}

theorem exc_checkNew (F : ExcBaseFacts B newId initId bmB) (hB : bm.contains (.type B) = true) {M : Model} {rest : List Value} {Q : Unit → Shared → Prop} (hC : h.get? C = some (excClassObj nm q C N bs bm hdct sn sub ab col dd k0 k1 k2 k3 k5 newId))
    (hq : Q () ⟨h, g, d, t, os⟩) : wpAny M A (checkBuiltinCall newId ⟨.ref C :: rest, []⟩) Q E ⟨h, g, d, t, os⟩ := by
  have hcont : (Value.ref C :: bm).contains (.type B) = true := by rw [List.contains_cons, hB, Bool.or_true]
  have hstar := F.noStar
  simp only [checkBuiltinCall, F.newKind, F.newSplit, F.newRow]
  repeat (first | refine wpAny_loadPart_at hC ?_ | (refine wpAny_isSubtype_exc hC ?_; rw [hcont]) | refine wpAny_staticBase_exc hC ?_ | refine wpAny_madeBy_exc hC ?_ | simp only [bne_self_eq_false, Bool.false_eq_true, if_false] | wp_step)
  exact hq
abbrev excObj (C t : Addr) (dx : Option Addr) : Obj := { cls := .ref C, dict := dx, data := .fields #[.ref t, .none, .none, .none, .bool false, .none] }
theorem exc_new (F : ExcBaseFacts B newId initId bmB) (hB : bm.contains (.type B) = true) (hAE : bm.contains (.type "AttributeError") = false) (hNE : bm.contains (.type "NameError") = false) {R : Result → Shared → Prop} {rest : List Value}
    (hC : h.get? C = some (excClassObj nm q C N bs bm hdct sn sub ab col dd k0 k1 k2 k3 k5 newId))
    (hq : R (.ok (.ret (.ref (h.objs.size + 1)))) ⟨(h.push { cls := .type "tuple", data := .seq rest.toArray }).push (excObj C h.objs.size none), g, d, t, os⟩) (hrest : rest.length ≤ sizeLine) :
    codeAny (model prog w) A (.builtin newId ⟨.ref C :: rest, []⟩) R ⟨h, g, d, t, os⟩ := by
  have hends := F.ends
  have hcB : (Value.ref C :: bm).contains (.type B) = true := by rw [List.contains_cons, hB, Bool.or_true]
  have hcA : (Value.ref C :: bm).contains (.type "AttributeError") = false := by rw [List.contains_cons, hAE]; rfl
  have hcN : (Value.ref C :: bm).contains (.type "NameError") = false := by rw [List.contains_cons, hNE]; rfl
  refine codeAny_builtinAt F.entry ?_
  unfold Builtin.«BaseException.__new__»
  refine PySem.wpAt_bind ?_
  show PySem.wpAt _ _ _ (stack >>= _) _ _ _
  refine PySem.wpAt_bind (PySem.wpAt_stack fun p below => PySem.wpAt_of_wpAny ?_)
  wp_walk
  refine PySem.wpAt_of_wpAny ?_
  rw [F.owner]
  repeat (first | with_reducible refine wpAny_madeHere_exc F.canon hC ?_ | with_reducible refine wpAny_loadPart_at hC ?_ | (with_reducible refine wpAny_isSubtype_exc hC ?_; first | rw [hcB] | rw [hcA] | rw [hcN]) | wp_step)
  show R _ _
  rw [Heap.size_push]
  exact hq
/-- the class is called: the new object, then its __init__ (a def) -/
theorem exc_call (F : ExcBaseFacts B newId initId bmB) (hB : bm.contains (.type B) = true) (hAE : bm.contains (.type "AttributeError") = false) (hNE : bm.contains (.type "NameError") = false) {K : Frag} {rest : List Value} {fI : Addr} {Q : Value → Shared → Prop} (X : K.In h)
    (hC : h.get? C = some (excClassObj nm q C N bs bm hdct sn sub ab col dd k0 k1 k2 k3 k5 newId)) (hi : findIn K (.ref C) "__init__" = some (some (.ref fI))) (hf : typeIn K (.ref fI) = some (.type "function"))
    (hq : wpAny (model prog w) (A.under (.builtin "type.__call__" ⟨.ref C :: rest, []⟩)) (call (.ref fI) (.ref (h.objs.size + 1) :: rest)) (fun r s' => r = .none ∧ Q (.ref (h.objs.size + 1)) s') E
      ⟨(h.push { cls := .type "tuple", data := .seq rest.toArray }).push (excObj C h.objs.size none), g, d, t, os⟩) (hrest : rest.length ≤ sizeLine) :
    wpAny (model prog w) A (call (.ref C) rest) Q E ⟨h, g, d, t, os⟩ := by
  have f1 := tc_lookup
  have f2 := tc_bind (.ref C)
  have hT : (⟨h, g, d, t, os⟩ : Shared).TypeIs (.ref C) "type" := ⟨_, hC, rfl⟩
  refine wpAny_call (codeAny_of_tree ?_)
  show wpAny _ _ (callAny (.ref C) _) _ _ _
  repeat (any_goals (first | assumption | with_reducible refine wpAny_loadPart_at hC ?_ | wp_step))
  refine ⟨rfl, ?_⟩
  refine codeAny_call_builtin_at (Code.quiet_builtin _ (by decide +kernel)) entry_typeCall (wpAny_check_type_call_sub hC ?_)
  repeat (first | with_reducible refine wpAny_loadPart_at hC ?_ | with_reducible refine wpAny_madeBy_exc hC ?_ | wp_step)
  refine codeAny_call_builtin_code (Code.quiet_builtin _ F.quiet) (exc_checkNew F hB hC ?_)
  refine exc_new F hB hAE hNE hC ?_ hrest
  show wpAny _ _ _ _ _ _
  have kp : ∀ b o, h.get? b = some o → ((h.push { cls := .type "tuple", data := .seq rest.toArray }).push (excObj C h.objs.size none)).get? b = some o := fun b o e => Heap.get?_push_of_some _ (Heap.get?_push_of_some _ e)
  have hC₁ := kp _ _ hC
  have hget : ((h.push { cls := .type "tuple", data := .seq rest.toArray }).push (excObj C h.objs.size none)).get? (h.objs.size + 1) = some (excObj C h.objs.size none) := by heap_get
  have hcC : (Value.ref C :: bm).contains (.ref C) = true := by simp
  unfold isInstance
  repeat (first | with_reducible refine wpAny_loadPart_at hget ?_ | wp_step)
  show wpAny _ _ (isSubtype (.ref C) (.ref C)) _ _ _
  refine wpAny_isSubtype_exc hC₁ ?_
  rw [hcC]
  repeat (first | with_reducible refine wpAny_loadPart_at hget ?_ | wp_step)
  show wpAny _ _ (typeLookup (.ref C) _) _ _ _
  refine (looks_findIn (X.keeps kp) hi).here ?_
  refine wpAny_holding (wpAny_bind ((bind_fn (X.keeps kp) _ hf).here ?_))
  refine wpAny_bind (wpAny_mono hq (fun r s' hr => ?_) fun _ _ x => x)
  obtain ⟨rfl, hQ⟩ := hr
  wp_walk
  exact hQ
end
end Mine

namespace Mine
open PySem PySem.W PySem.Calls PyProof.Rows Builtin Builtin.ObjectAttr

theorem ref_type {self : Value} {n : String} {l : List Value} (h1 : (n == "_thread._local") = false) (h2 : (n == "_pickle.Pickler" || n == "_pickle.Unpickler") = false) (h3 : classOwn (.type n) "__setattr__" = pure none) : refuseLoop self "__setattr__" (.type n :: l) = refuseLoop self "__setattr__" l := by
  unfold refuseLoop
  simp only [List.forIn_cons, h1, h2, h3]
  rfl
theorem co1 : classOwn (.type "ValueError") "__setattr__" = pure none := by kernel_rfl
theorem co2 : classOwn (.type "Exception") "__setattr__" = pure none := by kernel_rfl
theorem co3 : classOwn (.type "BaseException") "__setattr__" = pure none := by kernel_rfl
theorem ref_mro (self : Value) (a b : Addr) : refuseLoop self "__setattr__" [.ref a, .type "ValueError", .ref b, .type "Exception", .type "BaseException", .type "object"] = pure () := by
  rw [refuseLoop_ref, ref_type (by decide) (by decide) co1, refuseLoop_ref, ref_type (by decide) (by decide) co2, ref_type (by decide) (by decide) co3]
  exact PySem.F.store_object.passes self
section
variable {prog : Program} {w : World} {A : Around} {K : Frag} {C x : Addr} {s : Shared} {E : Value → Shared → Prop} {R : Result → Shared → Prop}
theorem osa_openX {ox : Obj} {od : Option Obj} {name : Str} {tk : Tok} {v : Value} {r : Option Value} {cd : ClassData} (X : K.In s.heap) (I : InstAt s.heap x ox C od) (hc : clsIn K C = some cd) (ne : cd.mro.isEmpty = false) (hob : cd.mro.contains (.type "object") = true)
    (hr : refuseLoop (.ref x) "__setattr__" cd.mro = pure ()) (ht : takerIn K C name = some r)
    (h : ∀ b, wpAny (model prog w) A.in1 (match r with | some a => setByDescriptor a (.ref x) v | none => storeInOwnDict (.ref x) (.ref C) (.str name tk) name v b)
      (fun fin s' => match fin with | .done f => R (.ok f) s' | .again c' => c'.quiet = true ∧ codeAny (model prog w) A c' R s') (fun e s' => R (.error e) s') s) :
    codeAny (model prog w) A (.call (.builtin "object.__setattr__") ⟨[.ref x, .str name tk, v], []⟩) R s := by
  have SF := PySem.F.store_object
  have sub : Looks (model prog w) s.heap (isInstance (.ref x) (.type "object")) true := I.type.andThen (looks_mroIn X (by unfold mroIn; rw [hc, Option.bind_some, if_neg (by rw [ne]; decide), hob]))
  refine codeAny_call_builtin SF.slot.plain SF.entry (@check_slot (model prog w) _ _ s "object.__setattr__" "object" "__setattr__" (.ref x) [.str name tk, v] [] _ SF.kind SF.split sub (SF.args (.ref x) (.str name tk) v) ?_)
  obtain ⟨attr, ha, hr'⟩ := Option.bind_eq_some_iff.mp ht
  have hm : Looks (model prog w) s.heap (mroOf (.ref C)) cd.mro := (looks_clsIn X hc).andThen .now
  have L3 : Looks (model prog w) s.heap (storeTaker? attr) r := by
    cases attr with
    | none => cases hr'; exact .now
    | some a =>
      obtain ⟨b, hb, rfl⟩ := Option.map_eq_some_iff.mp hr'
      refine (looks_takesIn X hb).andThen ?_
      cases b <;> exact .now
  rw [osa_eq, refuse_eq]
  refine wpAny_bind (wpAny_bind (I.type.here (wpAny_bind (hm.here ?_))))
  rw [hr]
  exact wpAny_pure (wpAny_bind (I.type.here (wpAny_bind ((looks_findIn X ha).here (wpAny_bind (L3.here (h _)))))))
/-- the one field of a new exception -/
theorem setX {Q : Unit → Shared → Prop} {name : Str} {v : Value} {t : Addr} {cd : ClassData} (X : K.In s.heap) (hx : s.heap.get? x = some (excObj C t none)) (hc : clsIn K C = some cd) (ne : cd.mro.isEmpty = false) (hob : cd.mro.contains (.type "object") = true)
    (hr : refuseLoop (.ref x) "__setattr__" cd.mro = pure ()) (hs : findIn K (.ref C) "__setattr__" = some (some (.builtin "object.__setattr__"))) (ht : takerIn K C name = some none) (hd : cd.hasDict = true)
    (h : ∀ h' dx k, (∀ b o, b ≠ x → s.heap.get? b = some o → h'.get? b = some o) → h'.get? x = some (excObj C t (some dx)) → Q () { s with heap := h', toks := k }) :
    wpAny (model prog w) A (setAttr (.ref x) name v) Q E s := by
  have I : InstAt s.heap x (excObj C t none) C none := ⟨hx, rfl, rfl, trivial⟩
  refine set_plain X I hs (osa_openX (s := { s with toks := s.toks + 1 }) X I hc ne hob hr ht fun b => ?_)
  dsimp only
  have lk := looks_clsIn (M := model prog w) X hc
  refine wpAny_bind (wpAny_pure (wpAny_bind (wpAny_bind (wpAny_loadPart hx (wpAny_bind (lk _ _ _ _ (fun _ _ e => e) ?_))))))
  rw [hd]
  show wpAny _ _ (alloc emptyDict >>= fun d => update x (fun o => { o with dict := some d }) >>= fun _ => pure (some d)) _ _ _
  have hx1 : (s.heap.push emptyDict).get? x = some (excObj C t none) := Heap.get?_push_of_some _ hx
  have gd1 : (s.heap.push emptyDict).get? s.heap.objs.size = some emptyDict := Heap.get?_push_size _ rfl
  have ne0 : s.heap.objs.size ≠ x := Ne.symm (Nat.ne_of_lt (Heap.lt_size hx))
  refine wpAny_bind (wpAny_alloc (wpAny_bind (wpAny_update hx1 (wpAny_pure ?_))))
  dsimp only
  generalize hH : (s.heap.push emptyDict).update x (fun o => { o with dict := some s.heap.objs.size }) = H
  have gx : H.get? x = some (excObj C t (some s.heap.objs.size)) := by rw [← hH]; exact Heap.get?_update_self _ hx1 rfl
  have gd : H.get? s.heap.objs.size = some emptyDict := by rw [← hH, Heap.get?_update_other _ _ (Ne.symm ne0)]; exact gd1
  have ok : ∀ b o, b ≠ x → s.heap.get? b = some o → H.get? b = some o := fun b o hb e => by rw [← hH, Heap.get?_update_other _ _ (Ne.symm hb)]; exact Heap.get?_push_of_some _ e
  unfold storeInDict nsSet
  refine wpAny_bind (wpAny_pure (wpAny_bind (wpAny_bind (wpAny_bind (wpAny_askSetting (wpAny_pure (wpAny_bind (wpAny_mkText (wpAny_bind (wpAny_loadPart gd ?_))))))))))
  dsimp only
  rw [aRefKeyMayBeTheName_at]
  have ea : ∀ p : DictEntry → Bool, Array.any #[] p = false := fun p => by simp
  simp only [ea, Bool.and_false, Bool.false_eq_true, if_false]
  refine wpAny_updatePart (s := { s with heap := H, toks := s.toks + 1 + 1 }) gd ?_
  dsimp only
  have gd2 : (H.update s.heap.objs.size (Obj.putName name (PyData.keyHash w.params name) (.str name (s.toks + 1)) v)).get? s.heap.objs.size = some (dictOf (putL name (PyData.keyHash w.params name) (.str name (s.toks + 1)) v []) (putN name [] 0)) := by
    rw [Heap.get?_update_self _ gd (by show (Obj.putName name _ (Value.str name (s.toks + 1)) v (dictOf [] 0)).isFreed = false; rw [putName_dict]; rfl)]
    show some (Obj.putName name _ (Value.str name (s.toks + 1)) v (dictOf [] 0)) = _
    rw [putName_dict]
  refine wpAny_bind (wpAny_lookBehind gd2 (pastItsLine_dict (by rw [List.size_toArray]; show 1 ≤ sizeLine + 1; exact Nat.le_add_left 1 sizeLine)) ?_)
  refine wpAny_pure (h _ s.heap.objs.size _ (fun b o hb e => ?_) ?_)
  · rw [Heap.get?_update_other _ _ (Ne.symm (Nat.ne_of_lt (Heap.lt_size e)))]; exact ok b o hb e
  · rw [Heap.get?_update_other _ _ ne0]; exact gx
end
end Mine

namespace Mine
open PySem PySem.W PySem.Calls PyProof.Rows

section
variable {G : Glb} {C N fI : Addr} {B newId initId : String} {bmB bm bs : List Value} {nm q : Str} {hdct : Bool} {sn : List Str} {sub : List Value} {ab : Bool} {col : Option Bool} {dd : Option Addr} {k0 k1 k2 k3 k5 : Option Value}
/-- the call of the class of an exception -/
theorem exc_made (O : G.Ok) (F : ExcBaseFacts B newId initId bmB) (hB : bm.contains (.type B) = true) (hAE : bm.contains (.type "AttributeError") = false) (hNE : bm.contains (.type "NameError") = false)
    (hC : G.K.lookup C = some (excClassObj nm q C N bs bm true sn sub ab col dd k0 k1 k2 k3 k5 newId)) (hob : bm.contains (.type "object") = true) (hr : ∀ self, refuseLoop self "__setattr__" (.ref C :: bm) = pure ())
    (hs : findIn G.K (.ref C) "__setattr__" = some (some (.builtin "object.__setattr__"))) (hi : findIn G.K (.ref C) "__init__" = some (some (.ref fI))) (hf : typeIn G.K (.ref fI) = some (.type "function"))
    {name qual : Str} {params : Arguments} {scope : Scope} {dV kV doc pm cdv ct oc : Value} {an od : Option Addr} {osl : Array (Option Value)} {self msg fld : Str} {p1 p2 p3 p4 : Pos}
    (ho : G.K.lookup fI = some ⟨oc, od, .func (fnOf name qual params [.Assign [.Attribute (.Name self p1) fld p2] (.Name msg p3) p4] scope dV kV doc pm an cdv ct), osl⟩) (hcd : codeIn G.K cdv qual = true)
    (hb : ∀ u v, bindArgs (fnOf name qual params [.Assign [.Attribute (.Name self p1) fld p2] (.Name msg p3) p4] scope dV kV doc pm an cdv ct) ⟨[u, v], []⟩ = pure [(self, u), (msg, v)])
    (hsw : ∀ env, swapsWith (.Name msg p3) (some (.Attribute (.Name self p1) fld p2)) p4.line env = pure false) (ht : takerIn G.K C fld = some none)
    (hne : self ≠ msg) (hl1 : scope.names.lookup self = some .local) (hl2 : scope.names.lookup msg = some .local) (hd1 : (self == ("__debug__" : Str)) = false) (hd2 : (msg == ("__debug__" : Str)) = false)
    (hcell : (scope.names.all fun q => q.2 != .cell) = true) (hco : scope.isCoroutine = false) (hgen : scope.isGenerator = false) (hk : scope.kind = .function)
    {A : Around} {l : List Env} {s : Shared} {v : Value} {Q : Value → Shared → Prop} {E : Value → Shared → Prop} (c : CallCtx G 3 A l s.heap)
    (fin : ∀ h' x t dx k, (∀ b o, s.heap.get? b = some o → h'.get? b = some o) → s.heap.get? x = none → h'.get? x = some (excObj C t dx) → Q (.ref x) { s with heap := h', toks := k }) :
    wpAny (model G.prog G.w) A (call (.ref C) [v]) Q E s := by
  obtain ⟨hh, gg, dr, tk, os⟩ := s
  have X : G.K.In hh := O.kin.keeps c.stay
  refine exc_call F hB hAE hNE X (X _ _ hC) hi hf ?_ (by show 1 ≤ sizeLine; rw [sizeLine_eq]; decide)
  have k0 : ∀ b o, hh.get? b = some o → ((hh.push { cls := .type "tuple", data := .seq [v].toArray }).push (excObj C hh.objs.size none)).get? b = some o := fun b o e => Heap.get?_push_of_some _ (Heap.get?_push_of_some _ e)
  have gx : ((hh.push { cls := .type "tuple", data := .seq [v].toArray }).push (excObj C hh.objs.size none)).get? (hh.objs.size + 1) = some (excObj C hh.objs.size none) := by
    have := Heap.get?_push_size (hh.push { cls := .type "tuple", data := .seq [v].toArray }) (o := excObj C hh.objs.size none) rfl
    rwa [Heap.size_push] at this
  generalize hH : (hh.push { cls := .type "tuple", data := .seq [v].toArray }).push (excObj C hh.objs.size none) = H at *
  have fx : hh.get? (hh.objs.size + 1) = none := Heap.get?_none_of_le (Nat.le_succ _)
  generalize hx : hh.objs.size + 1 = x at *
  refine wpAny_call (codeAny_call_def (s := ⟨H, gg, dr, tk, os⟩) (fd := fnOf name qual params [.Assign [.Attribute (.Name self p1) fld p2] (.Name msg p3) p4] scope dV kV doc pm an cdv ct) (body := _) (binds := [(self, .ref x), (msg, v)]) (by have := c.room; show A.depth + 1 < _; omega)
    (k0 _ _ (X _ _ ho)) rfl ((O.top.nolimit.keeps c.stay).keeps k0) (codeRec_of (X.keeps k0) hcd) rfl (.of_eq (hb _ _)) ?_ ?_ (fun h₁ hns hk₁ => ?_) hco hgen hk)
  · intro z hz
    have := List.all_eq_true.mp hcell z hz
    simpa using this
  · intro z hz
    rcases List.mem_cons.mp hz with rfl | hz
    · exact hl1
    · rw [List.mem_singleton.mp hz]; exact hl2
  dsimp only at hns hk₁ ⊢
  have X1 : G.K.In h₁ := (X.keeps k0).keeps hk₁
  have m2 : (List.reverse [(self, Value.ref x), (msg, v)]).lookup msg = some v := by
    show List.lookup msg [(msg, v), (self, Value.ref x)] = _
    rw [List.lookup_cons, beq_self_eq_true]
  have m1 : (List.reverse [(self, Value.ref x), (msg, v)]).lookup self = some (.ref x) := by
    show List.lookup self [(msg, v), (self, Value.ref x)] = _
    rw [List.lookup_cons, beq_eq_false_iff_ne.mpr hne]
    show List.lookup self [(self, Value.ref x)] = _
    rw [List.lookup_cons, beq_self_eq_true]
  refine wpAny_execs_cons (plainObj_wpAny_Assign_Attribute ?_ (hsw _))
  refine wpAny_Name (wpAny_loadName_local hk (show scope.names.lookup msg = _ from hl2) hns m2 ?_) hd2
  refine wpAny_Name (wpAny_loadName_local hk (show scope.names.lookup self = _ from hl1) hns m1 ?_) hd1
  have hcl : clsIn G.K C = some { name := nm, bases := bs, mro := .ref C :: bm, ns := N, qualname := q, hasDict := true, slotNames := sn, subclasses := sub, abstract := ab, collection := col, hasDel := false } := by
    unfold clsIn; rw [hC]
  refine setX X1 (hk₁ _ _ gx) hcl rfl (by show (Value.ref C :: bm).contains _ = true; rw [List.contains_cons, hob, Bool.or_true]) (hr _) hs ht rfl fun h' dx k ok gx' => ?_
  refine wpAny_execs_nil ?_
  exact ⟨rfl, fin h' x _ _ k (fun b o e => ok b o (fun e' => by rw [e', fx] at e; cases e) (hk₁ _ _ (k0 _ _ e))) fx gx'⟩
end
end Mine

namespace Mine
open PySem PySem.W PySem.Calls PyProof.Rows

section
variable {C N : Addr} {newId : String} {bm bs : List Value} {nm q : Str} {hdct : Bool} {sn : List Str} {sub : List Value} {ab : Bool} {col : Option Bool} {dd : Option Addr} {k0 k1 k2 k3 k5 : Option Value} {M : Model} {A : Around} {E : Value → Shared → Prop} {env : Env}
theorem raise_st {s : Shared} {x : Sem Value} {Q : Flow → Shared → Prop} (hbase : bm.contains (.type "BaseException") = true) (hh : A.handled = none)
    (h : wpAny M A x (fun v s₁ => ∃ e t dx, v = .ref e ∧ s₁.heap.get? C = some (excClassObj nm q C N bs bm hdct sn sub ab col dd k0 k1 k2 k3 k5 newId) ∧ s₁.heap.get? e = some (excObj C t dx) ∧ E (.ref e) s₁) E s) :
    wpAny M A (raiseStmt env (some x) none) Q E s := by
  have hcB : (Value.ref C :: bm).contains (.type "BaseException") = true := by rw [List.contains_cons, hbase, Bool.or_true]
  unfold raiseStmt
  refine wpAny_bind (wpAny_mono h (fun v s₁ h₁ => ?_) fun _ _ x => x)
  obtain ⟨e, t, dx, rfl, hC, he, hE⟩ := h₁
  obtain ⟨hp, g, d, tk, os⟩ := s₁
  have he' : hp.get? e = some { cls := .ref C, dict := dx, data := .fields #[.ref t, .none, .none, .none, .bool false, .none] } := he
  repeat (first | with_reducible refine wpAny_loadPart_at he' ?_ | with_reducible refine wpAny_loadPart_at hC ?_ | (with_reducible refine wpAny_isSubtype_exc hC ?_; rw [hcB]) | wp_step)
  exact wpAny_raiseNew_none hh hE
end
/-- what an exception's class is -/
structure ExcC (G : Glb) (cn : Str) (C : Addr) : Prop where
  name : nsIn G.K mainGlobals cn = some (some (.ref C))
  keep : keepIn G.K (.ref C) = true
  obj : ∃ nm q N bs bm sn sub ab col dd k0 k1 k2 k3 k5 newId, G.K.lookup C = some (excClassObj nm q C N bs bm true sn sub ab col dd k0 k1 k2 k3 k5 newId) ∧ bm.contains (.type "BaseException") = true
  made : ∀ (A : Around) (l : List Env) (s : Shared) (v : Value) (Q : Value → Shared → Prop) (E : Value → Shared → Prop), CallCtx G 3 A l s.heap →
    (∀ h' x t dx k, (∀ b o, s.heap.get? b = some o → h'.get? b = some o) → s.heap.get? x = none → h'.get? x = some (excObj C t dx) → Q (.ref x) { s with heap := h', toks := k }) → wpAny (model G.prog G.w) A (call (.ref C) [v]) Q E s
section
variable {G : Glb} {F : FnLit} {d : Nat} {own : List (Addr × Obj)} {σ : List (Str × PV)} {Q : FO → List (Addr × Obj) → List (Str × PV) → Prop}
theorem ex_raise (O : G.Ok) {cn : Str} {C : Addr} (K : ExcC G cn C) (hd : 3 ≤ d) {e : Expr} {np cpos pos : Pos} {rest : List Stmt} (hl : F.scope.names.lookup cn = some .globalImplicit) (hdb : (cn == ("__debug__" : Str)) = false)
    (he1 : ∀ env, starEach [e] env = (false, eval e env) :: starEach [] env) (hp : plainArgs [e] = true) (h : Ev G F d own σ e (fun _ => True) (some (.ref C))) :
    Ex G F d own σ (.Raise (some (.Call (.Name cn np) [e] [] cpos)) none pos :: rest) Q (some (.ref C)) := by
  intro A g L Z₀ Z s m lv st
  obtain ⟨nm, q, N, bs, bm, sn, sub, ab, col, dd, k0, k1, k2, k3, k5, newId, hC, hbe⟩ := K.obj
  refine wpAny_execs_cons ?_
  rw [arm_exec_Raise]
  simp only [evalOpt, Option.map]
  refine wpAny_bind (wpAny_standAt (raise_st (C := C) (nm := nm) (q := q) (N := N) (bs := bs) (bm := bm) (hdct := true) (sn := sn) (sub := sub) (ab := ab) (col := col) (dd := dd) (k0 := k0) (k1 := k1) (k2 := k2) (k3 := k3) (k5 := k5) (newId := newId) hbe lv.hd ?_))
  refine wpAny_bind (wpAny_mono (wpAny_Call_ofName (Name_function_global (by rw [F.scope_env]; exact lv.kind) (by rw [F.kindOf_env]; exact hl) (loadGlobal_global (by rw [F.globals_env]; exact (topRead_of O.top).g.keeps lv.fr.keep) (mg_of O.kin (topRead_of O.top).g K.name) ?_) hdb)) (fun v s₃ h₃ => wpAny_bind (wpAny_standAt (wpAny_pure h₃))) fun _ _ x => x)
  have hs := plain_star (env := F.env L) (pos := cpos) hp
  refine callWith_of (P := fun hh => G.K.In hh) (by rw [all_false_any _ hs]; rfl) (fun hh x => keeps_K K.keep hh x) ?_
  refine wp_evalArgs hs rfl (wpAny_mono ((evs_more (Rs := fun ps => ∃ p, ps = [p]) he1 (h.mono fun p _ => evs_nil ⟨p, rfl⟩) : Evs G F d own σ [e] _ _) A g L Z₀ Z s m cpos lv st) (fun vs s₁ q => ?_) fun v s' q => q)
  obtain ⟨Z₁, as, k₁, l₁, q₁, r₁, p, rfl⟩ := q
  cases r₁ with | cons r₁ r₂ =>
  cases r₂
  refine wpAny_evalAll_nil ⟨O.kin.keeps l₁.fr.keep, ?_⟩
  obtain ⟨o, hA, c⟩ := l₁.ctx hd
  refine K.made A _ s₁ _ _ _ c fun h' x t dx k kk fx gx => ?_
  refine ⟨x, t, dx, rfl, kk _ _ (l₁.fr.keep _ _ (O.kin _ _ hC)), gx, .ref C, _, rfl, hA, ?_⟩
  have bn : G.base.get? x = none := by
    cases q : G.base.get? x with
    | none => rfl
    | some o => have := l₁.fr.keep _ _ q; rw [fx] at this; cases this
  exact ⟨⟨x, .ref t, rfl, fun b o e => kk _ _ (l₁.fr.keep b o e), bn, c.ff.of_keeps fun b o e _ => ⟨o, kk b o e, rfl⟩, .inl ⟨_, _, gx, rfl, rfl, rfl, rfl⟩⟩, q₁.trans ⟨rfl, .refl _⟩, l₁.up.trans (Heap.UpToSlots.of_keeps kk)⟩
end
end Mine

namespace Mine
open PySem PySem.W PySem.Calls PyProof.Rows

/-! ## f-strings; a contract that does not raise -/
theorem Fn.lx {G : Glb} {d : Nat} {f : Value} {as : List PV} {ks : List (Str × PV)} {R : PV → Prop} {X : Option Value} (T : Fn G d f as ks R none) : Fn G d f as ks R X := fun A l s Z vs kvs c sub r hk rk =>
  codeAny_mono (T A l s Z vs kvs c sub r hk rk) fun q s' hq => by
    rcases q with e | (v | _ | _ | _)
    · obtain ⟨C, hX, _⟩ := hq; cases hX
    all_goals exact hq
section
variable {G : Glb} {F : FnLit} {d : Nat} {own : List (Addr × Obj)} {σ : List (Str × PV)} {R : PV → Prop} {X : Option Value}
def Jn (G : Glb) (F : FnLit) (d : Nat) (own : List (Addr × Obj)) (σ : List (Str × PV)) (out : Str) (es : List Expr) (R : PV → Prop) (X : Option Value) : Prop :=
  ∀ A g L Z₀ Z s m, Live G F d A g L Z₀ Z own s.heap m → StR Z m σ →
    wpAny (model G.prog G.w) A (joinParts out (evalEach es (F.env L))) (Got G F d A g L Z₀ Z own m R s) (ThrA G A X g s) s
theorem jn_nil {out : Str} (hz : out.length ≤ sizeLine) (h : R (.str out)) : Jn G F d own σ out [] R X := fun A g L Z₀ Z s m lv st => joinParts_nil (got_tk lv (.str _ _) h) hz
theorem jn_cons {out : Str} {e : Expr} {rest : List Expr} (he : ∀ env, evalEach (e :: rest) env = eval e env :: evalEach rest env) (h : Ev G F d own σ e (fun p => ∃ x, p = .str x ∧ (out ++ x).length ≤ sizeLine ∧ Jn G F d own σ (out ++ x) rest R X) X) : Jn G F d own σ out (e :: rest) R X := by
  intro A g L Z₀ Z s m lv st
  rw [he]
  refine joinParts_cons (wpAny_mono (h A g L Z₀ Z s m lv st) (fun v s₁ q => ?_) fun _ _ q => q)
  obtain ⟨Z₁, p, k₁, l₁, q₁, r₁, x, rfl, hz, h₁⟩ := q
  cases r₁
  exact ⟨hz, back_G k₁ q₁ (h₁ A g L Z₀ Z₁ s₁ m l₁ (st.mono k₁))⟩
theorem ev_joined {a b : Expr} {rest : List Expr} {pos : Pos} (he : ∀ env, evalEach (a :: b :: rest) env = eval a env :: eval b env :: evalEach rest env) (h : Jn G F d own σ Str.empty (a :: b :: rest) R X) : Ev G F d own σ (.JoinedStr (a :: b :: rest) pos) R X := by
  intro A g L Z₀ Z s m lv st
  have := h A g L Z₀ Z s m lv st
  rw [he] at this
  exact JoinedStr_many this
theorem ev_fmt {e : Expr} {pos : Pos} (h : Ev G F d own σ e (fun p => ∃ x, p = .str x ∧ x.length ≤ sizeLine ∧ R (.str x)) X) : Ev G F d own σ (.FormattedValue e (-1) none pos) R X := by
  intro A g L Z₀ Z s m lv st
  refine FormattedValue_plain (wpAny_mono (h A g L Z₀ Z s m lv st) (fun v s₁ q => ?_) fun _ _ q => q)
  obtain ⟨Z₁, p, k₁, l₁, q₁, r₁, x, rfl, hz, h₁⟩ := q
  cases r₁
  exact formatField_str (fun t' tk => Got.back k₁ q₁ (got_tk l₁ (.str _ _) h₁)) hz
end
end Mine

namespace Mine
open PySem PySem.W PySem.Calls PyProof.Rows

theorem execs_app (env : Env) (b : List Stmt) : ∀ a : List Stmt, execs (a ++ b) env = execs a env >>= fun f => match f with | .next => execs b env | f => pure f
  | [] => by
    rw [List.nil_append, execs_nil, pure_bind]
  | st :: r => by
    rw [List.cons_append, execs_cons, execs_cons, bind_assoc]
    congr 1
    funext f
    cases f with
    | next => exact execs_app env b r
    | _ => rw [pure_bind]
section
variable {G : Glb} {F : FnLit} {d : Nat} {own : List (Addr × Obj)} {σ : List (Str × PV)} {R : PV → Prop} {X : Option Value} {Q : FO → List (Addr × Obj) → List (Str × PV) → Prop}
/-- what holds at a cut -/
def CutQ {α : Type} (own : List (Addr × Obj)) (τ : α → List (Str × PV)) (W : α → Prop) (Q : FO → List (Addr × Obj) → List (Str × PV) → Prop) : FO → List (Addr × Obj) → List (Str × PV) → Prop
  | .next, o, σ => o = own ∧ ∃ a, W a ∧ ∀ q ∈ τ a, q ∈ σ
  | fo, o, σ => Q fo o σ
theorem ex_cut {α : Type} {ss : List Stmt} (n : Nat) (τ : α → List (Str × PV)) (W : α → Prop) (h1 : Ex G F d own σ (ss.take n) (CutQ own τ W Q) X) (h2 : ∀ a, W a → Ex G F d own (τ a) (ss.drop n) Q X) : Ex G F d own σ ss Q X := by
  intro A g L Z₀ Z s m lv st
  rw [← List.take_append_drop n ss, execs_app]
  refine wpAny_bind (wpAny_mono (h1 A g L Z₀ Z s m lv st) (fun fl s₁ q => ?_) fun _ _ q => q)
  obtain ⟨Z₁, m₁, own₁, σ₁, fo, k₁, l₁, q₁, st₁, fr, h₁⟩ := q
  cases fl <;> cases fo <;> first | exact fr.elim | skip
  · obtain ⟨rfl, a, ha, hs⟩ := h₁
    exact back_D k₁ q₁ (h2 a ha A g L Z₀ Z₁ s₁ m₁ l₁ fun q hq => st₁ q (hs q hq))
  all_goals exact wpAny_pure ⟨Z₁, m₁, own₁, σ₁, _, k₁, l₁, q₁, st₁, fr, h₁⟩
section
variable {α : Type} {τ : α → List (Str × PV)} {W : α → Prop}
theorem cut_next (a : α) (hW : W a) (hs : LSub σ (τ a)) : CutQ own τ W Q .next own σ := ⟨rfl, a, hW, hs.all⟩
theorem cut_ret {p : PV} (h : Q (.ret p) own σ) : CutQ own τ W Q (.ret p) own σ := h
theorem cut_brk (h : Q .brk own σ) : CutQ own τ W Q .brk own σ := h
theorem cut_cont (h : Q .cont own σ) : CutQ own τ W Q .cont own σ := h
end
end
end Mine

namespace Mine
open PySem PySem.W PySem.Calls PyProof.Rows

/-! ## A generator that list() drains: its own side -/
structure GC where
  F : FnLit
  d : Nat
  A : Around
  g : Heap
  Lg : Addr
  L3 : Addr
  o3 : Obj
  I : Addr
  oI : Obj
  gi : Nat
  S : Addr
  Zb : FZ
  outer : List Env
def GC.ZM (c : GC) (h : Heap) : FZ := fun b => if b = c.Lg ∨ b = c.L3 ∨ b = c.I ∨ b = c.S then none else if b < c.g.objs.size then c.Zb b else h.get? b
def GC.own (c : GC) (oS : Obj) : List (Addr × Obj) := [(c.L3, c.o3), (c.I, c.oI), (c.S, oS)]
structure GC.Ok (G : Glb) (c : GC) : Prop where
  hd : c.A.handled = none
  fr : c.A.frames = some c.outer
  room : c.A.depth + c.d + 10 < recursionLimit
  unit : c.A.units + 20 + 10 * c.d < cLine
  host : c.F.host = none
  cells : c.F.cells = []
  kind : c.F.scope.kind = .function
  gLg : c.g.objs.size ≤ c.Lg
  gL3 : c.g.objs.size ≤ c.L3
  gI : c.g.objs.size ≤ c.I
  gS : c.g.objs.size ≤ c.S
  n1 : c.L3 ≠ c.Lg
  n2 : c.I ≠ c.Lg
  n3 : c.S ≠ c.Lg
  n4 : c.S ≠ c.L3
  n5 : c.S ≠ c.I
  base : ∀ b o, G.base.get? b = some o → c.g.get? b = some o
  bsz : G.base.objs.size ≤ c.g.objs.size
  zb : ∀ a o, a < c.g.objs.size → c.Zb a = some o → c.g.get? a = some o
  gen : ∃ nm qn, c.oI = { cls := .type "generator", data := .fields #[.int c.gi 0, nm, qn] }
structure GC.Inv (G : Glb) (c : GC) (h : Heap) (m : Str → Option Value) : Prop where
  ns : h.Ns c.Lg m
  keep : ∀ b o, c.g.get? b = some o → h.get? b = some o
  h3 : h.get? c.L3 = some c.o3
  hI : h.get? c.I = some c.oI
  hS : ∃ oS, h.get? c.S = some oS
  ff : h.FunFrames G.base (c.F.env c.Lg :: c.outer)
structure GC.Kp (c : GC) (s s' : Shared) : Prop where
  ss : SS s s'
  keep : ∀ b o, b ≠ c.Lg → c.g.objs.size ≤ b → s.heap.get? b = some o → s'.heap.get? b = some o
theorem GC.Kp.refl (c : GC) (s : Shared) : c.Kp s s := ⟨.refl _, fun _ _ _ _ e => e⟩
theorem GC.Kp.trans {c : GC} {a b e : Shared} (x : c.Kp a b) (y : c.Kp b e) : c.Kp a e := ⟨x.ss.trans y.ss, fun q o hq hs h => y.keep q o hq hs (x.keep q o hq hs h)⟩
/-- what the consumer may do between -/
structure GC.Cons (c : GC) (s s' : Shared) : Prop where
  keep : ∀ b o, b ≠ c.S → s.heap.get? b = some o → s'.heap.get? b = some o
  lst : ∃ oS, s'.heap.get? c.S = some oS ∧ ∀ vs, oS.data ≠ .fields vs
def GC.OverOk (c : GC) (code : Code) (fs : List Frame) : Prop :=
  (c.A.over code fs).handled = none ∧ (c.A.over code fs).frames = some (c.F.env c.Lg :: c.outer) ∧ (c.A.over code fs).depth ≤ c.A.depth + 10 ∧ (c.A.over code fs).units ≤ c.A.units + 20
section
variable {G : Glb} {c : GC} {h h' : Heap} {m m' : Str → Option Value}
theorem GC.sub (C : c.Ok G) (i : c.Inv G h m) : Sub (c.ZM h) h := fun a o e => by
  unfold GC.ZM at e
  by_cases q : a = c.Lg ∨ a = c.L3 ∨ a = c.I ∨ a = c.S
  · rw [if_pos q] at e; cases e
  · rw [if_neg q] at e
    by_cases q2 : a < c.g.objs.size
    · rw [if_pos q2] at e; exact i.keep _ _ (C.zb a o q2 e)
    · rw [if_neg q2] at e; exact e
theorem GC.live (C : c.Ok G) (i : c.Inv G h m) {code : Code} {fs : List Frame} (ov : c.OverOk code fs) : ∃ oS, h.get? c.S = some oS ∧ Live G c.F c.d (c.A.over code fs) c.g c.Lg c.Zb (c.ZM h) (c.own oS) h m := by
  obtain ⟨oS, hS⟩ := i.hS
  have bn : ∀ a, c.g.objs.size ≤ a → G.base.get? a = none := fun a ha => Heap.get?_none_of_le (Nat.le_trans C.bsz ha)
  refine ⟨oS, hS, {
    fr := ⟨i.ns, fun b o e => i.keep b o (C.base b o e), Nat.le_trans C.bsz C.gLg⟩
    up := Heap.UpToSlots.of_keeps i.keep
    ek := fun _ => i.keep
    og := fun q hq => ?_
    sz := C.gLg
    sub := GC.sub C i
    zL := if_pos (.inl rfl)
    z0 := fun a ha => ?_
    nw := fun q hq => ?_
    zo := fun q hq => ?_
    hd := ov.1
    stk := ⟨c.outer, by rw [FnLit.top_env C.host]; exact ov.2.1, by rw [FnLit.top_env C.host]; exact i.ff⟩
    room := by have := C.room; have := ov.2.2.1; omega
    unit := by have := C.unit; have := ov.2.2.2; omega
    kind := C.kind
    cel := fun q hq => by rw [C.cells] at hq; cases hq }⟩
  · rcases List.mem_cons.mp hq with rfl | hq
    · exact Heap.get?_none_of_le C.gL3
    · rcases List.mem_cons.mp hq with rfl | hq
      · exact Heap.get?_none_of_le C.gI
      · rw [List.mem_singleton.mp hq]; exact Heap.get?_none_of_le C.gS
  · unfold GC.ZM
    rw [if_neg (by
      rintro (e | e | e | e)
      · exact Nat.lt_irrefl _ (Nat.lt_of_lt_of_le ha (e ▸ C.gLg))
      · exact Nat.lt_irrefl _ (Nat.lt_of_lt_of_le ha (e ▸ C.gL3))
      · exact Nat.lt_irrefl _ (Nat.lt_of_lt_of_le ha (e ▸ C.gI))
      · exact Nat.lt_irrefl _ (Nat.lt_of_lt_of_le ha (e ▸ C.gS))), if_pos ha]
  · rcases List.mem_cons.mp hq with rfl | hq
    · exact ⟨i.h3, C.n1, bn _ C.gL3⟩
    · rcases List.mem_cons.mp hq with rfl | hq
      · exact ⟨i.hI, C.n2, bn _ C.gI⟩
      · rw [List.mem_singleton.mp hq]; exact ⟨hS, C.n3, bn _ C.gS⟩
  · rcases List.mem_cons.mp hq with rfl | hq
    · exact if_pos (.inr (.inl rfl))
    · rcases List.mem_cons.mp hq with rfl | hq
      · exact if_pos (.inr (.inr (.inl rfl)))
      · rw [List.mem_singleton.mp hq]; exact if_pos (.inr (.inr (.inr rfl)))
theorem GC.back (C : c.Ok G) {A' : Around} {Z' : FZ} {oS : Obj} (hA : A'.frames = some (c.F.env c.Lg :: c.outer)) (hex : c.F.ex = true) (l : Live G c.F c.d A' c.g c.Lg c.Zb Z' (c.own oS) h' m') : c.Inv G h' m' ∧ FLe Z' (c.ZM h') := by
  obtain ⟨o, ho, ff⟩ := l.stk
  rw [FnLit.top_env C.host] at ho ff
  obtain rfl : o = c.outer := by
    have := ho.symm.trans hA
    injection this with this
    injection this
  refine ⟨⟨l.fr.ns, l.ek hex, (l.nw _ (.head _)).1, (l.nw _ (.tail _ (.head _))).1, ⟨oS, (l.nw _ (.tail _ (.tail _ (.head _)))).1⟩, ff⟩, fun a o e => ?_⟩
  unfold GC.ZM
  have n : ¬ (a = c.Lg ∨ a = c.L3 ∨ a = c.I ∨ a = c.S) := by
    rintro (rfl | rfl | rfl | rfl)
    · rw [l.zL] at e; cases e
    · have := l.zo (c.L3, c.o3) (.head _); rw [this] at e; cases e
    · have := l.zo (c.I, c.oI) (.tail _ (.head _)); rw [this] at e; cases e
    · have := l.zo (c.S, oS) (.tail _ (.tail _ (.head _))); rw [this] at e; cases e
  rw [if_neg n]
  by_cases q : a < c.g.objs.size
  · rw [if_pos q, ← l.z0 a q]; exact e
  · rw [if_neg q]; exact l.sub a o e
theorem GC.kp (C : c.Ok G) {Z' : FZ} {oS : Obj} {s s' : Shared} {A' : Around} (hex : c.F.ex = true) (i : c.Inv G s.heap m) (hS : s.heap.get? c.S = some oS) (k : FLe (c.ZM s.heap) Z') (q : SS s s') (l : Live G c.F c.d A' c.g c.Lg c.Zb Z' (c.own oS) s'.heap m') : c.Kp s s' := by
  refine ⟨q, fun b o hb hge e => ?_⟩
  by_cases h1 : b = c.L3
  · subst h1; rw [i.h3] at e; cases e; exact (l.nw _ (.head _)).1
  by_cases h2 : b = c.I
  · subst h2; rw [i.hI] at e; cases e; exact (l.nw _ (.tail _ (.head _))).1
  by_cases h3 : b = c.S
  · subst h3; rw [hS] at e; cases e; exact (l.nw _ (.tail _ (.tail _ (.head _)))).1
  refine l.sub b o (k b o ?_)
  unfold GC.ZM
  rw [if_neg (by rintro (e | e | e | e) <;> contradiction), if_neg (Nat.not_lt.mpr hge)]
  exact e
end
end Mine

namespace Mine
open PySem PySem.W PySem.Calls PyProof.Rows

theorem FOR.mono {Z Z' : FZ} (k : FLe Z Z') : ∀ {fl : Flow} {fo : FO}, FOR Z fl fo → FOR Z' fl fo := by
  intro fl fo x
  cases fl <;> cases fo <;> first | exact x | exact Rd.mono k x
theorem execs_app_wrap (a b : List Stmt) {env : Env} {β : Type} (K : Flow → Sem β) (H : Value → Sem β) (gd : Bool → Bool) (lv : List Value → List Value) :
    (execs (a ++ b) env).wrap K H gd lv = (execs a env).wrap (fun f => match f with | .next => (execs b env).wrap K H gd lv | f => K f) H gd lv := by
  rw [execs_app, Sem.bind_eq_wrap', Sem.wrap_wrap]
  exact Sem.wrap_congr _ _ _ (fun f => by cases f <;> rfl) (fun _ => rfl)
def Yp (G : Glb) (c : GC) (ps : List PV) : Protocol := fun n s₀ v s' kap =>
  (∃ m, c.Inv G s'.heap m) ∧ c.Kp s₀ s' ∧ (∃ p, ps[ps.length - 1 - n]? = some p ∧ Rd (c.ZM s'.heap) v p) ∧ ∀ s'', c.Cons s' s'' → kap (.send .none) s''
def Pe (G : Glb) (c : GC) (n : Nat) (s₀ s₁ : Shared) : Prop := n = 0 ∧ (∃ m, c.Inv G s₁.heap m) ∧ c.Kp s₀ s₁
abbrev SG (G : Glb) (c : GC) (ps : List PV) (n : Nat) (s₀ : Shared) (code : Code) (t : Sem Fin) (fs : List Frame) (s : Shared) : Prop :=
  Seg (model G.prog G.w) c.A (fun n s₀ r s₁ => r = .ok (.ret .none) ∧ Pe G c n s₀ s₁) (Yp G c ps) n s₀ code t fs s
section
variable {G : Glb} {c : GC} {ps : List PV} {s s' s₀ : Shared} {m : Str → Option Value} {σ : List (Str × PV)} {code : Code} {fs : List Frame} {n : Nat} {K : Flow → Sem Fin} {H : Value → Sem Fin} {gd : Bool → Bool} {lv : List Value → List Value}
theorem zm_cons (x : c.Cons s s') : FLe (c.ZM s.heap) (c.ZM s'.heap) := fun a o e => by
  unfold GC.ZM at e ⊢
  by_cases q : a = c.Lg ∨ a = c.L3 ∨ a = c.I ∨ a = c.S
  · rw [if_pos q] at e; cases e
  · rw [if_neg q] at e ⊢
    by_cases q2 : a < c.g.objs.size
    · rw [if_pos q2] at e ⊢; exact e
    · rw [if_neg q2] at e ⊢
      exact x.keep a o (fun h => q (.inr (.inr (.inr h)))) e
theorem inv_cons (C : c.Ok G) (i : c.Inv G s.heap m) (x : c.Cons s s') : c.Inv G s'.heap m := by
  obtain ⟨oS, hS⟩ := i.hS
  obtain ⟨oS', hS', hd⟩ := x.lst
  have gS : c.g.get? c.S = none := Heap.get?_none_of_le C.gS
  exact { ns := i.ns.at' fun o e => x.keep _ o (Ne.symm C.n3) e
          keep := fun b o e => x.keep b o (fun h => by rw [h, gS] at e; cases e) (i.keep b o e)
          h3 := x.keep _ _ (Ne.symm C.n4) i.h3
          hI := x.keep _ _ (Ne.symm C.n5) i.hI
          hS := ⟨oS', hS'⟩
          ff := funFrames_upd (fun b o hb e => x.keep b o hb e) hS hS' (.inl hd) i.ff }
theorem cons_setGen (x : c.Cons s s') (g : Nat) (gs : GenState) : c.Cons s (s'.setGen g gs) := ⟨x.keep, x.lst⟩
theorem sg_ex (C : c.Ok G) (hex : c.F.ex = true) {ss : List Stmt} {P : FO → List (Str × PV) → Prop} (ov : c.OverOk code fs) (inv : c.Inv G s.heap m) (st : StR (c.ZM s.heap) m σ) (hx : ∀ own, Ex G c.F c.d own σ ss (fun fo o σ' => o = own ∧ P fo σ') none)
    (k : ∀ fl s' m' σ' fo, c.Inv G s'.heap m' → c.Kp s s' → StR (c.ZM s'.heap) m' σ' → FOR (c.ZM s'.heap) fl fo → P fo σ' → SG G c ps n s₀ code (K fl) fs s') :
    SG G c ps n s₀ code ((execs ss (c.F.env c.Lg)).wrap K H gd lv) fs s := by
  obtain ⟨oS, hS, l⟩ := GC.live C inv ov
  refine seg_wrap (wpAny_mono (hx _ _ c.g c.Lg c.Zb _ s m l st) (fun fl s₁ q => ?_) fun _ _ q => q.no.elim)
  obtain ⟨Z₁, m₁, own₁, σ₁, fo, k₁, l₁, q₁, st₁, fr, rfl, hP⟩ := q
  obtain ⟨inv₁, le₁⟩ := GC.back C ov.2.1 hex l₁
  exact k fl s₁ m₁ σ₁ fo inv₁ (GC.kp C hex inv hS k₁ q₁ l₁) (st₁.mono le₁) (FOR.mono le₁ fr) hP
theorem sg_test (C : c.Ok G) (hex : c.F.ex = true) {t : Expr} {B : Bool → Prop} {Q : Bool → Shared → Prop} {E : Value → Shared → Prop} (ov : c.OverOk code fs) (inv : c.Inv G s.heap m) (st : StR (c.ZM s.heap) m σ) (ht : ∀ own, Ts G c.F c.d own σ t B none)
    (k : ∀ b s', c.Inv G s'.heap m → c.Kp s s' → StR (c.ZM s'.heap) m σ → B b → Q b s') : wpAny (model G.prog G.w) (c.A.over code fs) (isTrue t (c.F.env c.Lg) (eval t (c.F.env c.Lg))) Q E s := by
  obtain ⟨oS, hS, l⟩ := GC.live C inv ov
  refine wpAny_mono (ht _ _ c.g c.Lg c.Zb _ s m l st) (fun b s₁ q => ?_) fun _ _ q => q.no.elim
  obtain ⟨Z₁, k₁, l₁, q₁, hB⟩ := q
  obtain ⟨inv₁, le₁⟩ := GC.back C ov.2.1 hex l₁
  exact k b s₁ inv₁ (GC.kp C hex inv hS k₁ q₁ l₁) (st.mono (k₁.trans le₁)) hB
theorem sg_yield (C : c.Ok G) (hex : c.F.ex = true) {e : Expr} {ypos pos : Pos} {p : PV} (hfs : splitAtGen fs = none) (hgd : gd false = false) (hfg : fs.any Frame.guarded = false) (ov : c.OverOk code fs) (inv : c.Inv G s.heap m) (kp : c.Kp s₀ s) (st : StR (c.ZM s.heap) m σ)
    (hp : ps[ps.length - 1 - n]? = some p) (he : ∀ own, Ev G c.F c.d own σ e (fun q => q = p) none) (hco : c.F.scope.isCoroutine = false)
    (k : ∀ s'', c.Inv G s''.heap m → StR (c.ZM s''.heap) m σ → SG G c ps n s'' code (K .next) fs s'') :
    SG G c ps (n + 1) s₀ code ((exec (.Expr (.Yield (some e) ypos) pos) (c.F.env c.Lg)).wrap K H gd lv) fs s := by
  obtain ⟨oS, hS, l⟩ := GC.live C inv ov
  refine seg_Expr_Yield hfs hgd hfg (wpAny_mono (he _ _ c.g c.Lg c.Zb _ s m l st) (fun v s₁ q => ?_) fun _ _ q => q.no.elim) (by rw [FnLit.scope_env]; exact hco) (by unfold interactive; rw [FnLit.scope_env, C.kind]; rfl)
  obtain ⟨Z₁, p₁, k₁, l₁, q₁, r₁, rfl⟩ := q
  obtain ⟨inv₁, le₁⟩ := GC.back C ov.2.1 hex l₁
  intro kap hk
  refine ⟨⟨m, inv₁⟩, kp.trans (GC.kp C hex inv hS k₁ q₁ l₁), ⟨p₁, hp, r₁.mono le₁⟩, fun s'' hc => hk .none s'' ?_⟩
  exact k s'' (inv_cons C inv₁ hc) (st.mono ((k₁.trans le₁).trans (zm_cons hc)))
end
end Mine

namespace Mine
open PySem PySem.W PySem.Calls PyProof.Rows

/-! ## A generator that list() drains: the list's side -/
structure GC.Rl (c : GC) (s s' : Shared) : Prop where
  os : s'.os = s.os
  g1 : ∀ (k : Nat) (x : GenState), k ≠ c.gi → s.gens[k]? = some x → s'.gens[k]? = some x
  g2 : ∀ (k : Nat) (x : GenState), k ≠ c.gi → s'.gens[k]? = some x → s.gens[k]? = some x ∨ x.bare = true
  keep : ∀ b o, b ≠ c.Lg → b ≠ c.S → c.g.objs.size ≤ b → s.heap.get? b = some o → s'.heap.get? b = some o
theorem GC.Rl.refl (c : GC) (s : Shared) : c.Rl s s := ⟨rfl, fun _ _ _ e => e, fun _ _ _ e => .inl e, fun _ _ _ _ _ e => e⟩
theorem GC.Rl.trans {c : GC} {a b e : Shared} (x : c.Rl a b) (y : c.Rl b e) : c.Rl a e :=
  ⟨y.os.trans x.os, fun k z h q => y.g1 k z h (x.g1 k z h q), fun k z h q => (y.g2 k z h q).elim (x.g2 k z h) .inr, fun b o h1 h2 h3 q => y.keep b o h1 h2 h3 (x.keep b o h1 h2 h3 q)⟩
theorem setGen_ne (s : Shared) {g k : Nat} (x : GenState) (h : k ≠ g) : (s.setGen g x).gens[k]? = s.gens[k]? := by simp [Shared.setGen, Ne.symm h]
theorem Rl_of_kp {c : GC} {s s₁ : Shared} {x y : GenState} (k : c.Kp (s.setGen c.gi x) s₁) : c.Rl s (s₁.setGen c.gi y) where
  os := k.ss.os
  g1 := fun i z h q => by
    rw [setGen_ne _ _ h]
    exact k.ss.gens.1 i z (by rw [setGen_ne _ _ h]; exact q)
  g2 := fun i z h q => by
    rw [setGen_ne _ _ h] at q
    refine (k.ss.gens.2 i z q).imp (fun q => ?_) id
    rw [setGen_ne _ _ h] at q
    exact q
  keep := fun b o h1 _ h3 q => k.keep b o h1 h3 q
theorem zm_le {c : GC} {h h' : Heap} (k : ∀ b o, b ≠ c.Lg → b ≠ c.S → c.g.objs.size ≤ b → h.get? b = some o → h'.get? b = some o) : FLe (c.ZM h) (c.ZM h') := fun a o e => by
  unfold GC.ZM at e ⊢
  by_cases q : a = c.Lg ∨ a = c.L3 ∨ a = c.I ∨ a = c.S
  · rw [if_pos q] at e; cases e
  · rw [if_neg q] at e ⊢
    by_cases q2 : a < c.g.objs.size
    · rw [if_pos q2] at e ⊢; exact e
    · rw [if_neg q2] at e ⊢
      exact k a o (fun h => q (.inl h)) (fun h => q (.inr (.inr (.inr h)))) (Nat.not_lt.mp q2) e
theorem GC.Inv.keeps {G : Glb} {c : GC} {h h' : Heap} {m : Str → Option Value} (i : c.Inv G h m) (k : ∀ b o, h.get? b = some o → h'.get? b = some o) : c.Inv G h' m :=
  ⟨i.ns.keeps k, fun b o e => k b o (i.keep b o e), k _ _ i.h3, k _ _ i.hI, let ⟨o, e⟩ := i.hS; ⟨o, k _ _ e⟩, i.ff.of_keeps fun b o e _ => ⟨o, k b o e, rfl⟩⟩
section
variable {G : Glb} {c : GC} {ps : List PV} {R : Result → Shared → Prop}
abbrev lstA (acc : Array Value) (cc : Nat) : Obj := { cls := .type "list", dict := none, data := .seq acc cc, slots := #[] }
def Going (G : Glb) (c : GC) (ps : List PV) (n : Nat) (s : Shared) : Prop := ∃ gs, s.gens[c.gi]? = some gs ∧ ∀ s'', c.Cons s s'' → gs.Goes (model G.prog G.w) c.A (fun n s₀ r s₁ => r = .ok (.ret .none) ∧ Pe G c n s₀ s₁) (Yp G c ps) n (.send .none) s''
theorem drain (O : G.Ok) (C : c.Ok G) {A1 : Around} (hA : c.A = A1.in1.in1) (hz : ps.length ≤ sizeLine) (hroom : A1.depth < recursionLimit) :
    ∀ (k i : Nat) (s : Shared) (acc : Array Value) (cc : Nat), ps.length - i = k → i ≤ ps.length → (∃ m, c.Inv G s.heap m) → s.heap.get? c.S = some (lstA acc cc) → RdL (c.ZM s.heap) acc.toList (ps.take i) → Going G c ps (ps.length - i) s →
    (∀ s' acc' cc', (∃ m, c.Inv G s'.heap m) → s'.heap.get? c.S = some (lstA acc' cc') → RdL (c.ZM s'.heap) acc'.toList ps → s'.gens[c.gi]? = some .finished → c.Rl s s' → R (.ok (.ret .none)) s') →
    codeAny (model G.prog G.w) A1 (.builtin "list.extend.loop" ⟨[.ref c.S, .ref c.I, .none], []⟩) R s := by
  have hh : A1.in1.handled = none := by have := C.hd; rw [hA] at this; exact this
  intro k
  induction k with
  | zero =>
    intro i s acc cc hk hi ⟨m, inv⟩ hS rd ⟨gs, hgs, hgo⟩ fin
    obtain rfl : i = ps.length := by omega
    rw [Nat.sub_self] at hgo
    refine codeAny_builtin PySem.F.entry_extend_loop ?_
    rw [Around.under_plainId PySem.F.plain_extend_loop _]
    show wpAny _ A1.in1 (pyNext (.ref c.I) >>= _) _ _ s
    obtain ⟨nm, qn, hgen⟩ := C.gen
    have hl : s.heap.NoLimit := (O.top.nolimit.keeps fun b o e => C.base b o e).keeps inv.keep
    refine wpAny_bind (wpAny_pyNext_gen (P := Pe G c) (Y := Yp G c ps) (n := 0) hh hl hroom ⟨c.oI, nm, qn, inv.hI, by rw [hgen], by rw [hgen], by rw [hgen]⟩ hgs (by rw [hA] at hgo; exact hgo _ ⟨fun b o _ e => e, _, hS, fun vs e => by cases e⟩) (fun v s₁ gs' hv => ?_) fun s₁ hp h' hk' => ?_)
    · obtain ⟨⟨m₁, inv₁⟩, kp, _, hkap⟩ := hv
      exact (hkap s₁ ⟨fun b o _ e => e, _, kp.keep c.S _ C.n3 C.gS hS, fun vs e => by cases e⟩).elim
    · obtain ⟨_, ⟨m₁, inv₁⟩, kp⟩ := hp
      have hlt : c.gi < s.gens.size := by
        rcases Nat.lt_or_ge c.gi s.gens.size with h' | h'
        · exact h'
        · rw [Array.getElem?_eq_none h'] at hgs; cases hgs
      have run : s₁.gens[c.gi]? = some .running := kp.ss.gens.1 _ _ (setGen_self hgs)
      refine wpAny_pure (fin _ acc cc ⟨m₁, inv₁.keeps hk'⟩ (hk' _ _ (kp.keep c.S _ C.n3 C.gS hS)) ?_ (setGen_self run) ?_)
      · have := rd.mono (zm_le (c := c) (h := s.heap) (h' := h') fun b o h1 _ h3 e => hk' _ _ (kp.keep b o h1 h3 e))
        rwa [List.take_length] at this
      · have := Rl_of_kp (y := .finished) kp
        exact ⟨this.os, this.g1, this.g2, fun b o h1 h2 h3 e => hk' _ _ (this.keep b o h1 h2 h3 e)⟩
  | succ k ih =>
    intro i s acc cc hk hi ⟨m, inv⟩ hS rd ⟨gs, hgs, hgo⟩ fin
    have hlt : i < ps.length := by omega
    obtain ⟨n, hn⟩ : ∃ n, ps.length - i = n + 1 := ⟨ps.length - i - 1, by omega⟩
    rw [hn] at hgo
    refine codeAny_builtin PySem.F.entry_extend_loop ?_
    rw [Around.under_plainId PySem.F.plain_extend_loop _]
    show wpAny _ A1.in1 (pyNext (.ref c.I) >>= _) _ _ s
    obtain ⟨nm, qn, hgen⟩ := C.gen
    have hl : s.heap.NoLimit := (O.top.nolimit.keeps fun b o e => C.base b o e).keeps inv.keep
    refine wpAny_bind (wpAny_pyNext_gen (P := Pe G c) (Y := Yp G c ps) (n := n + 1) hh hl hroom ⟨c.oI, nm, qn, inv.hI, by rw [hgen], by rw [hgen], by rw [hgen]⟩ hgs (by rw [hA] at hgo; exact hgo _ ⟨fun b o _ e => e, _, hS, fun vs e => by cases e⟩) (fun v s₁ gs' hv => ?_) fun s₁ hp h' hk' => ?_)
    · obtain ⟨⟨m₁, inv₁⟩, kp, ⟨p, hp, rv⟩, hkap⟩ := hv
      have run : s₁.gens[c.gi]? = some .running := kp.ss.gens.1 _ _ (setGen_self hgs)
      have hS₁ : s₁.heap.get? c.S = some (lstA acc cc) := kp.keep c.S _ C.n3 C.gS hS
      have hacc : acc.size = i := by
        have := rd.len
        rw [List.length_take, Array.length_toList] at this
        omega
      show wpAny _ A1.in1 (updateSeq c.S (·.push v) >>= _) _ _ _
      refine wpAny_bind ?_
      have oth : ∀ b o, b ≠ c.S → s₁.heap.get? b = some o → (s₁.heap.update c.S (Obj.mapSeq (·.push v))).get? b = some o := fun b o hb e => (Heap.get?_update_other _ _ (Ne.symm hb)).trans e
      refine wpAny_updateSeq (s := s₁.setGen c.gi gs') hS₁ rfl (wpAny_pure ⟨plainId_quiet PySem.F.plain_extend_loop _, ih (i + 1) _ (acc.push v) _ (by omega) hlt ?_ (Heap.get?_update_self _ hS₁ rfl) ?_ ?_ fun s' acc' cc' a1 a2 a3 a4 a5 => ?_⟩) (by rw [hacc]; omega) (by show (acc.push v).size ≤ sizeLine + 1; rw [Array.size_push, hacc]; omega)
      · exact ⟨m₁, inv_cons (s := s₁) (s' := { s₁ with heap := s₁.heap.update c.S (Obj.mapSeq (·.push v)) }) C inv₁ ⟨oth, _, Heap.get?_update_self _ hS₁ rfl, fun vs e => by cases e⟩⟩
      · have e1 : (ps.take (i + 1)) = ps.take i ++ [p] := by
          rw [List.take_succ]
          have : ps.length - 1 - (n + 1 - 1) = i := by omega
          rw [this] at hp
          rw [hp]; rfl
        rw [e1, Array.toList_push]
        refine RdL.app (rd.mono (zm_le fun b o h1 h2 h3 e => ?_)) (.cons (rv.mono (zm_le fun b o h1 h2 h3 e => oth b o h2 e)) .nil)
        exact oth b o h2 (kp.keep b o h1 h3 e)
      · refine ⟨gs', setGen_self run, fun s'' hc => ?_⟩
        have : ps.length - (i + 1) = n := by omega
        rw [this]
        have hc' : c.Cons s₁ s'' := ⟨fun b o hb e => hc.keep b o hb (oth b o hb e), hc.lst⟩
        have := hkap s'' hc'
        rw [hA]
        exact this
      · refine fin s' acc' cc' a1 a2 a3 a4 (GC.Rl.trans ?_ a5)
        have := Rl_of_kp (y := gs') kp
        exact ⟨this.os, this.g1, this.g2, fun b o h1 h2 h3 e => oth b o h2 (this.keep b o h1 h2 h3 e)⟩
    · exact absurd hp.1 (Nat.succ_ne_zero n)
end
end Mine

namespace Mine
open PySem PySem.W PySem.Calls PyProof.Rows

/-- list(g) comes down to the loop that draws -/
theorem list_loop {prog : Program} {w : World} {A : Around} {E : Value → Shared → Prop} {s : Shared} {I : Addr} {gi : Nat} {Q : Value → Shared → Prop} (hg : s.heap.IsGen I gi)
    (loop : ∀ h₁ cc, (∀ b o, b ≠ s.heap.objs.size → s.heap.get? b = some o → h₁.get? b = some o) → h₁.get? s.heap.objs.size = some (lstA #[] cc) →
      codeAny (model prog w) A.in1 (.builtin "list.extend.loop" ⟨[.ref s.heap.objs.size, .ref I, .none], []⟩) (wants (fun r s₂ => r = .none ∧ Q (.ref s.heap.objs.size) s₂) E) { s with heap := h₁ }) :
    wpAny (model prog w) A (call (.type "list") [.ref I]) Q E s := by
  have hIlt : I < s.heap.objs.size := let ⟨o, _, _, ho, _⟩ := hg; Heap.lt_size ho
  refine callType_codes (Q₁ := fun obj s₁ => obj = .ref s.heap.objs.size ∧ s₁ = { s with heap := s.heap.push { cls := .type "list", data := .seq #[] } }) PySem.F.called_list (PySem.F.typeCall_list_1 _) PySem.F.entry_list_init
    (code_list_new _ ⟨rfl, rfl⟩) fun obj s₁ h₁ => ?_
  obtain ⟨rfl, rfl⟩ := h₁
  have hS : (s.heap.push { cls := .type "list", data := .seq #[] }).get? s.heap.objs.size = some { cls := .type "list", data := .seq #[] } := Heap.get?_push_size _ rfl
  refine ⟨⟨_, hS, rfl⟩, PySem.F.args_list_init_2 _ _, ?_⟩
  show wpAny _ A.in1.in1 (do let old ← Builtin.List.listItems (.ref s.heap.objs.size); Builtin.List.listUpdate (.ref s.heap.objs.size) (fun _ => #[]); letGo old.toList.reverse; Builtin.List.listExtendWith (.ref s.heap.objs.size) (.ref I) .none) _ _ _
  refine wpAny_bind ?_
  unfold Builtin.List.listItems
  refine wpAny_bind (wpAny_seqItems hS rfl (wpAny_pure ?_))
  show wpAny _ A.in1.in1 (updateSeq s.heap.objs.size (fun _ => #[]) >>= fun _ => letGo (#[] : Array Value).toList.reverse >>= fun _ => Builtin.List.listExtendWith (.ref s.heap.objs.size) (.ref I) .none) _ _ _
  refine wpAny_bind (wpAny_updateSeq hS rfl ?_)
  have hS₂ := Heap.get?_update_self (Obj.mapSeq (fun _ => (#[] : Array Value))) hS rfl
  have oth2 : ∀ b o, b ≠ s.heap.objs.size → s.heap.get? b = some o → ((s.heap.push { cls := .type "list", data := .seq #[] }).update s.heap.objs.size (Obj.mapSeq (fun _ => (#[] : Array Value)))).get? b = some o :=
    fun b o hb e => (Heap.get?_update_other _ _ (Ne.symm hb)).trans (Heap.get?_push_of_some _ e)
  refine wpAny_bind (wpAny_letGo ?_)
  have hSI : s.heap.objs.size ≠ I := Ne.symm (Nat.ne_of_lt hIlt)
  generalize hH : (s.heap.push { cls := .type "list", data := .seq #[] }).update s.heap.objs.size (Obj.mapSeq (fun _ => (#[] : Array Value))) = H at *
  have hg₂ : H.IsGen I gi := let ⟨o, nm, qn, ho, r⟩ := hg; ⟨o, nm, qn, oth2 _ _ (Ne.symm hSI) ho, r⟩
  unfold Builtin.List.listExtendWith
  refine wpAny_bind (wpAny_typeOf (T := "generator") (let ⟨o, _, _, ho, hc, _⟩ := hg₂; ⟨o, ho, hc⟩) ?_)
  have h1 : Builtin.List.listSameRef (.ref s.heap.objs.size) (.ref I) = false := by simp [Builtin.List.listSameRef, hSI]
  have h2 : (Value.type "generator" == Value.type "list") = false := by decide
  have h3 : (Value.type "generator" == Value.type "tuple") = false := by decide
  simp only [h1, h2, h3, Bool.or_false, Bool.false_eq_true, if_false]
  refine wpAny_bind (wpAny_pyIter_gen hg₂ ?_)
  refine wpAny_bind (wpAny_holding ?_)
  unfold Builtin.List.listLengthHint
  refine wpAny_bind (wpAny_specialOf (let ⟨o, _, _, ho, hc, _⟩ := hg₂; ⟨o, ho, hc⟩) PySem.F.gen_no_len ?_)
  show wpAny _ A.in1.in1 (specialOf (Value.ref I) (Str.ofString "__length_hint__") >>= _) _ _ _
  refine wpAny_bind (wpAny_specialOf (let ⟨o, _, _, ho, hc, _⟩ := hg₂; ⟨o, ho, hc⟩) PySem.F.gen_no_hint ?_)
  refine wpAny_pure ?_
  show wpAny _ A.in1.in1 (rule "list.extend.makes-room" >>= fun _ => Builtin.List.listTouch (.ref s.heap.objs.size) >>= fun _ =>
    again (.builtin "list.extend.loop" ⟨[.ref s.heap.objs.size, .ref I, .none], []⟩)) _ _ _
  refine wpAny_bind (wpAny_rule ?_)
  refine wpAny_bind ?_
  show wpAny _ A.in1.in1 (updateSeq s.heap.objs.size (·.push .none) >>= fun _ => updateSeq s.heap.objs.size (·.pop)) _ _ _
  refine wpAny_bind (wpAny_updateSeq hS₂ rfl ?_)
  have hS₃ := Heap.get?_update_self (Obj.mapSeq (·.push Value.none)) hS₂ rfl
  refine wpAny_updateSeq (hz := by seq_fits) hS₃ rfl ?_
  have hS₄ := Heap.get?_update_self (Obj.mapSeq (·.pop)) hS₃ rfl
  refine wpAny_pure ⟨plainId_quiet PySem.F.plain_extend_loop _, loop _ _ (fun b o hb e => ?_) hS₄⟩
  exact (Heap.get?_update_other _ _ (Ne.symm hb)).trans ((Heap.get?_update_other _ _ (Ne.symm hb)).trans (oth2 b o hb e))
end Mine

namespace Mine
open PySem PySem.W PySem.Calls PyProof.Rows
open PySem.F

/-! ## isinstance of a generator -/
theorem gen_ga_slot : Slot "generator" "__getattribute__" "object.__getattribute__" :=
  .of (owner := "object") (n := "__getattribute__") (by rw [typeLookup_type, builtinLookup_eq_fast]; kernel_rfl) (by decide +kernel) (by decide +kernel) (by decide +kernel)
    (by first | exact .inl (by decide +kernel) | exact .inr (by decide +kernel)) (by rw [isSubtype_type]; kernel_rfl)
theorem gen_lk_class : typeLookup (.type "generator") "__class__" = pure (some (.builtin "object.__class__")) := by rw [typeLookup_type, builtinLookup_eq_fast]; kernel_rfl
theorem gen_sub_owner : isSubtype (.type "generator") (.type (".".intercalate ("object.__class__".cutAt '.').dropLast)) = pure true := by
  rw [owner_object_class, isSubtype_type]; kernel_rfl
section
variable {prog : Program} {w : World} {A : Around} {E : Value → Shared → Prop} {h : Heap} {g : Array GenState} {d : Drawn} {t : Nat} {os : OsState} {a : Addr} {o : Obj}
theorem gen_class_get {R : Result → Shared → Prop} (hx : h.get? a = some o) (hc : o.cls = .type "generator") (hq : R (.ok (.ret (.type "generator"))) ⟨h, g, d, t, os⟩) :
    codeAny (model prog w) A (.call (.builtin "getset_descriptor.__get__") ⟨[.builtin "object.__class__", .ref a, .type "generator"], []⟩) R ⟨h, g, d, t, os⟩ := by
  have hT : (⟨h, g, d, t, os⟩ : Shared).TypeIs (.ref a) "generator" := ⟨_, hx, hc⟩
  have hT5 : (⟨h, g, d, t, os⟩ : Shared).TypeIs (.builtin "object.__class__") "getset_descriptor" := typeOf_object_class
  have f8 := gen_sub_owner
  refine codeAny_call_builtin slot_gs_get.plain entry_gs_get (slot_gs_get.check _ _ _ _ _ _ _ _ hT5 (args_gs_get _ _ _) ?_)
  repeat (any_goals (first | assumption | wp_step))
  refine ⟨Code.quiet_builtin _ (by decide +kernel), codeAny_builtin entry_object_class ?_⟩
  repeat (any_goals (first | assumption | wp_step))
theorem gen_class_entry {tk : Tok} {Q : Fin → Shared → Prop} (hx : h.get? a = some o) (hc : o.cls = .type "generator") (hq : Q (.done (.ret (.type "generator"))) ⟨h, g, d, t, os⟩) :
    wpAny (model prog w) A (Builtin.«object.__getattribute__» ⟨[.ref a, .str "__class__" tk], []⟩) Q E ⟨h, g, d, t, os⟩ := by
  have hT : (⟨h, g, d, t, os⟩ : Shared).TypeIs (.ref a) "generator" := ⟨_, hx, hc⟩
  have hT5 : (⟨h, g, d, t, os⟩ : Shared).TypeIs (.builtin "object.__class__") "getset_descriptor" := typeOf_object_class
  have f4 := gen_lk_class
  have f5 := typeOf_object_class
  have f6 := slot_gs_get.lookup
  have f7 := slot_gs_set.lookup
  repeat (any_goals (first | assumption | wp_step))
  refine gen_class_get hx hc ?_
  repeat (any_goals (first | assumption | wp_step))
theorem gen_class_by {tk : Tok} {Q : Value → Shared → Prop} (hx : h.get? a = some o) (hc : o.cls = .type "generator") (hq : Q (.type "generator") ⟨h, g, d, t, os⟩) : wpAny (model prog w) A (getAttrBy (.ref a) (.str "__class__" tk) false) Q E ⟨h, g, d, t, os⟩ := by
  have hT : (⟨h, g, d, t, os⟩ : Shared).TypeIs (.ref a) "generator" := ⟨_, hx, hc⟩
  have f2 := gen_ga_slot.lookup
  have f3 := gen_ga_slot.bind (.ref a)
  repeat (any_goals (first | assumption | wp_step))
  refine codeAny_call_builtin gen_ga_slot.plain PySem.F.entry_object_getattribute (gen_ga_slot.check _ _ _ _ _ _ _ _ hT (PySem.F.args_object_getattribute_2 _ _) (gen_class_entry hx hc ?_))
  repeat (any_goals (first | assumption | wp_step))
theorem gen_class_attr {Q : Option Value → Shared → Prop} (hx : h.get? a = some o) (hc : o.cls = .type "generator") (hq : Q (some (.type "generator")) ⟨h, g, d, t + 1, os⟩) : wpAny (model prog w) A (getAttr? (.ref a) "__class__") Q E ⟨h, g, d, t, os⟩ := by
  unfold getAttr? getAttrBy?
  repeat (any_goals (first | assumption | with_reducible apply gen_class_by hx hc | wp_step))
end
section
variable {G : Glb} {F : FnLit} {d : Nat} {own : List (Addr × Obj)} {σ : List (Str × PV)} {R : PV → Prop} {X : Option Value}
theorem op_isiGen (O : G.Ok) {a : Addr} {oI : Obj} {c : Value} {b : Bool} (hm : (a, oI) ∈ own) (hcl : oI.cls = .type "generator") (e : kitOne G.K (.type "generator") c = some b) (h : R (.bool b)) : Cl G F d own (.raw (.builtin "isinstance")) [.raw (.ref a), .raw c] [] R X := by
  intro A g L Z₀ Z s m fv vs kvs lv rf r hk rk
  obtain rfl : kvs = [] := by simpa using hk
  cases rf
  cases r with | cons r r' =>
  cases r' with | cons r' r'' =>
  cases r''; cases r; cases r'
  exact kia_one (kitx_of (T := "generator") kitAt_ty (fun {_ _ _ _ _ s} p k => by obtain ⟨h, g, d, t, os⟩ := s; obtain ⟨o, h1, h2⟩ := p; exact gen_class_attr h1 h2 k)) (O.kin.keeps lv.fr.keep) ⟨oI, (lv.nw _ hm).1, hcl⟩ e (by intro q; cases q) fun tk => got_tk lv (.bool _) h
end
end Mine

namespace Mine
open PySem PySem.W PySem.Calls PyProof.Rows

/-! ## A call that drains a generator that was just made -/
structure SX (gi : Nat) (s s' : Shared) : Prop where
  os : s'.os = s.os
  g1 : ∀ (k : Nat) (x : GenState), k ≠ gi → s.gens[k]? = some x → s'.gens[k]? = some x
  g2 : ∀ (k : Nat) (x : GenState), k ≠ gi → s'.gens[k]? = some x → s.gens[k]? = some x ∨ x.bare = true
  fin : s'.gens[gi]? = some .finished
theorem SX.more {gi : Nat} {a b e : Shared} (x : SX gi a b) (y : SS b e) : SX gi a e :=
  ⟨y.os.trans x.os, fun k z h q => y.gens.1 k z (x.g1 k z h q), fun k z h q => (y.gens.2 k z q).elim (x.g2 k z h) .inr, y.gens.1 _ _ x.fin⟩
theorem SX.pre {gi : Nat} {a b e : Shared} (x : SS a b) (y : SX gi b e) : SX gi a e :=
  ⟨y.os.trans x.os, fun k z h q => y.g1 k z h (x.gens.1 k z q), fun k z h q => (y.g2 k z h q).elim (x.gens.2 k z) .inr, y.fin⟩
section
variable {G : Glb} {F1 F2 : FnLit} {d2 : Nat} {R : PV → Prop} {X : Option Value} {x1 x2 y2 iN lN : Str} {ip tp lp cp np tp2 lp2 tp3 cp2 ap ifp : Pos} {st1 : Stmt} {body1 rest : List Stmt} {ps : List PV} {tx : Str} {py : PV}
theorem bet_body (O : G.Ok) (hF1 : F1.host = none) (hF1c : F1.cells = []) (hF1e : F1.ex = true) (hF1k : F1.scope.kind = .function) (hF2 : F2.host = none) (hF2e : F2.ex = true) (hps : ps.length ≤ sizeLine) (hd2 : 200 ≤ d2)
    (walk : ∀ (c : GC), c.Ok G → c.F = F1 → 100 ≤ c.d → ∀ s m, c.Inv G s.heap m → StR (c.ZM s.heap) m [(x1, .str tx)] → SG G c ps ps.length s (.func body1 (c.F.env c.Lg)) ((model G.prog G.w).den (.func body1 (c.F.env c.Lg))) [] s)
    (h1 : ∀ own a, Ex G F2 d2 own [(x2, .raw (.ref a)), (y2, .none)] [st1] (fun fo o σ' => fo = .next ∧ o = own ∧ LSub σ' [(x2, .raw (.ref a)), (y2, py)]) none)
    (ht : ∀ own a oI, (a, oI) ∈ own → oI.cls = .type "generator" → Ts G F2 d2 own [(x2, .raw (.ref a)), (y2, py)] (.UnaryOp .Not (.Call (.Name iN ip) [.Name x2 tp, .Name lN lp] [] cp) np) (fun b => b = true) none)
    (hlist : ∀ own σ, Ev G F2 d2 own σ (.Name lN lp2) (fun p => p = .raw (.type "list")) none)
    (hx2 : F2.scope.names.lookup x2 = some .local) (hx2d : (x2 == ("__debug__" : Str)) = false) (hxy : x2 ≠ y2)
    (hsw : ∀ env, swapsWith (.Call (.Name lN lp2) [.Name x2 tp3] [] cp2) (some (.Name x2 tp2)) ap.line env = pure false)
    (h2 : ∀ own, Ex G F2 d2 own [(x2, .lst ps), (y2, py)] rest (RetP R) X)
    {A3 : Around} {g : Heap} {L3 Lg I : Addr} {Z₀ Z3 : FZ} {s3 : Shared} {m3 m1 : Str → Option Value} {oLg oI : Obj} {gi : Nat} {nm qn : Value} {t1 : Tok}
    (l3 : Live G F2 d2 A3 g L3 Z₀ Z3 [(Lg, oLg), (I, oI)] s3.heap m3) (st3 : StR Z3 m3 [(x2, .raw (.ref I)), (y2, .none)]) (hoI : oI = { cls := .type "generator", data := .fields #[.int gi 0, nm, qn] })
    (hgs : s3.gens[gi]? = some (.fresh (.func body1 (F1.env Lg)))) (nso : LCg.NsObj oLg m1) (hm1 : m1 x1 = some (.str tx t1)) (zb : ∀ a o, a < g.objs.size → Z₀ a = some o → g.get? a = some o)
    (hbase : ∀ b o, G.base.get? b = some o → g.get? b = some o) (hbsz : G.base.objs.size ≤ g.objs.size) (gLg : g.objs.size ≤ Lg) (gI : g.objs.size ≤ I) (nLI : Lg ≠ I) (hffg : G.base.get? Lg = none) :
    wpAny (model G.prog G.w) A3 (execs (st1 :: .If (.UnaryOp .Not (.Call (.Name iN ip) [.Name x2 tp, .Name lN lp] [] cp) np) [.Assign [.Name x2 tp2] (.Call (.Name lN lp2) [.Name x2 tp3] [] cp2) ap] [] ifp :: rest) (F2.env L3))
      (fun fl s' => ∃ Z' m' own' fo, FLe Z3 Z' ∧ Live G F2 d2 A3 g L3 Z₀ Z' own' s'.heap m' ∧ SX gi s3 s' ∧ FOR Z' fl fo ∧ RetP R fo [] [])
      (fun e s' => ∃ C l', X = some C ∧ A3.frames = some l' ∧ InFl G.base l' C e s'.heap ∧ g.UpToSlots s'.heap ∧ SX gi s3 s') s3 := by
  -- statement 1
  refine wpAny_execs_cons (wpAny_mono (execs_one (h1 _ I A3 g L3 Z₀ Z3 s3 m3 l3 st3)) (fun fl s4 q => ?_) fun _ _ q => q.no.elim)
  obtain ⟨Z4, m4, own4, σ4, fo4, k4, l4, q4, st4, fr4, rfl, rfl, ls4⟩ := q
  cases fl <;> first | exact fr4.elim | skip
  have st4' : StR Z4 m4 [(x2, .raw (.ref I)), (y2, py)] := fun q hq => st4 q (ls4.all q hq)
  -- the test
  refine wpAny_execs_cons (wpAny_If (wpAny_mono (ht _ I oI (.tail _ (.head _)) (by rw [hoI]) A3 g L3 Z₀ Z4 s4 m4 l4 st4') (fun b s5 q => ?_) fun _ _ q => q.no.elim))
  obtain ⟨Z5, k5, l5, q5, rfl⟩ := q
  have st5 := st4'.mono k5
  -- tokens = list(tokens)
  refine wpAny_execs_cons (wpAny_Assign_Name (wpAny_Call_ofName (wpAny_mono (hlist _ _ A3 g L3 Z₀ Z5 s5 m4 l5 st5) (fun fv s6 q => ?_) fun _ _ q => q.no.elim)) (hsw _))
  obtain ⟨Z6, p6, k6, l6, q6, r6, rfl⟩ := q
  cases r6
  have st6 := st5.mono k6
  refine callWith_of (P := fun _ => True) rfl (fun _ _ => ⟨_, .inr (.inl rfl), .now⟩) ?_
  refine wp_evalArgs rfl rfl ?_
  have gx := st6 (x2, .raw (.ref I)) (.head _)
  obtain ⟨vx, hvx, rvx⟩ := gx
  cases rvx
  refine spliced_more (wpAny_Name (wpAny_loadName_local (by rw [F2.scope_env]; exact l6.kind) (by rw [F2.kindOf_env]; exact hx2) (by rw [F2.locals_env]; exact l6.fr.ns) hvx ?_) hx2d) rfl
  refine spliced_none (wpAny_evalAll_nil ⟨trivial, ?_⟩)
  -- list(g)
  have hgs6 : s6.gens[gi]? = some (.fresh (.func body1 (F1.env Lg))) := q6.gens.1 _ _ (q5.gens.1 _ _ (q4.gens.1 _ _ hgs))
  have zI := (l6.nw (I, oI) (.tail _ (.head _))).1
  have zG := (l6.nw (Lg, oLg) (.head _)).1
  dsimp only at zI zG
  have hIG : s6.heap.IsGen I gi := ⟨oI, nm, qn, zI, by rw [hoI], by rw [hoI], by rw [hoI]⟩
  obtain ⟨oL3, es3, ep3, hL3, hL3d, hL3k⟩ := l6.fr.ns
  obtain ⟨o3, hA3, ff3⟩ := l6.stk
  rw [FnLit.top_env hF2] at hA3 ff3
  let c : GC := ⟨F1, d2 - 20, A3.in1.in1.in1, g, Lg, L3, oL3, I, oI, gi, s6.heap.objs.size, Z₀, F2.env L3 :: o3⟩
  have nL3 : I ≠ L3 := (l6.nw (I, oI) (.tail _ (.head _))).2.1
  have nLg : Lg ≠ L3 := (l6.nw (Lg, oLg) (.head _)).2.1
  have C : c.Ok G := {
    hd := l6.hd, fr := hA3
    room := by have := l6.room; show A3.depth + 0 + 0 + 0 + (d2 - 20) + 10 < _; omega
    unit := by have := l6.unit; show A3.units + 1 + 1 + 1 + 20 + 10 * (d2 - 20) < _; omega
    host := hF1, cells := hF1c, kind := hF1k, gLg := gLg, gL3 := l6.sz, gI := gI
    gS := Nat.le_of_lt (Nat.lt_of_le_of_lt l6.sz l6.lt)
    n1 := Ne.symm nLg, n2 := Ne.symm nLI
    n3 := Ne.symm (Nat.ne_of_lt (Heap.lt_size zG)), n4 := Ne.symm (Nat.ne_of_lt l6.lt), n5 := Ne.symm (Nat.ne_of_lt (Heap.lt_size zI))
    base := hbase, bsz := hbsz, zb := zb, gen := ⟨nm, qn, hoI⟩ }
  refine list_loop hIG fun h₁ cc kk hS => ?_
  have inv : c.Inv G h₁ m1 := {
    ns := nso.ns (kk _ _ (Nat.ne_of_lt (Heap.lt_size zG)) zG)
    keep := fun b o e => by
      have e' := l6.ek hF2e b o e
      exact kk _ _ (Nat.ne_of_lt (Heap.lt_size e')) e'
    h3 := kk _ _ (Nat.ne_of_lt l6.lt) hL3
    hI := kk _ _ (Nat.ne_of_lt (Heap.lt_size zI)) zI
    hS := ⟨_, hS⟩
    ff := by
      have ns1 : h₁.Ns Lg m1 := nso.ns (kk _ _ (Nat.ne_of_lt (Heap.lt_size zG)) zG)
      refine Heap.FunFrames.cons (by show (F1.env Lg).scope.kind ≠ .module; rw [F1.scope_env, hF1k]; decide) (FnLit.frame_env hF1 Lg) ns1 hffg ?_
      exact ff3.of_keeps fun b o e _ => ⟨o, kk _ _ (Nat.ne_of_lt (Heap.lt_size e)) e, rfl⟩ }
  refine drain (c := c) (ps := ps) O C rfl hps (by have := l6.room; show A3.depth + 0 < _; omega) ps.length 0 { s6 with heap := h₁ } #[] cc rfl (Nat.zero_le _) ⟨m1, inv⟩ hS .nil ⟨_, hgs6, fun s'' hc => ?_⟩ fun s' acc' cc' ⟨mE, invE⟩ hS' rdE gF rl => ?_
  · exact ⟨rfl, walk c C rfl (by show 100 ≤ d2 - 20; omega) s'' m1 (inv_cons (s := { s6 with heap := h₁ }) C inv hc) fun q hq => by
      rw [List.mem_singleton.mp hq]; exact ⟨_, hm1, .str _ _⟩⟩
  -- behind the list
  refine ⟨rfl, ?_⟩
  have hSne : ∀ b o, s6.heap.get? b = some o → b ≠ c.S := fun b o e => Nat.ne_of_lt (Heap.lt_size e)
  have keepE : ∀ b o, b ≠ Lg → s6.heap.get? b = some o → g.objs.size ≤ b → s'.heap.get? b = some o := fun b o hb e hge => rl.keep b o hb (hSne b o e) hge (kk _ _ (hSne b o e) e)
  let Zf : FZ := fun b => if b = c.S then some (lstA acc' cc') else c.ZM s'.heap b
  have zmS : c.ZM s'.heap c.S = none := if_pos (.inr (.inr (.inr rfl)))
  have zfle : FLe (c.ZM s'.heap) Zf := fun a o e => by
    show (if a = c.S then _ else _) = _
    rw [if_neg (fun h => by rw [h, zmS] at e; cases e)]
    exact e
  have subM := GC.sub C invE
  have le6 : FLe Z6 Zf := fun a o e => by
    have hlt := l6.sub a o e
    refine zfle a o ?_
    unfold GC.ZM
    rw [if_neg (by
      rintro (h | h | h | h)
      · rw [h] at e; rw [l6.zo (Lg, oLg) (.head _)] at e; cases e
      · rw [h] at e; rw [l6.zL] at e; cases e
      · rw [h] at e; rw [l6.zo (I, oI) (.tail _ (.head _))] at e; cases e
      · exact hSne a o hlt h)]
    by_cases q : a < c.g.objs.size
    · rw [if_pos q]; show Z₀ a = some o; rw [← l6.z0 a q]; exact e
    · rw [if_neg q]
      refine keepE a o (fun h => ?_) hlt (Nat.not_lt.mp q)
      rw [h] at e; rw [l6.zo (Lg, oLg) (.head _)] at e; cases e
  obtain ⟨oLg', esg, epg, hLg', hLgd, hLgk⟩ := invE.ns
  have bnI : G.base.get? I = none := (l6.nw (I, oI) (.tail _ (.head _))).2.2
  have l7 : Live G F2 d2 A3 g L3 Z₀ Zf [(Lg, oLg'), (I, oI)] s'.heap m4 := {
    fr := ⟨⟨oL3, es3, ep3, invE.h3, hL3d, hL3k⟩, fun b o e => invE.keep b o (hbase b o e), l6.fr.above⟩
    up := Heap.UpToSlots.of_keeps invE.keep
    ek := fun _ => invE.keep
    og := fun q hq => by
      rcases List.mem_cons.mp hq with rfl | hq
      · exact l6.og (Lg, oLg) (.head _)
      · rw [List.mem_singleton.mp hq]; exact l6.og (I, oI) (.tail _ (.head _))
    sz := l6.sz
    sub := fun a o e => by
      have e' : (if a = c.S then some (lstA acc' cc') else c.ZM s'.heap a) = some o := e
      by_cases q : a = c.S
      · rw [if_pos q] at e'; cases e'; rw [q]; exact hS'
      · rw [if_neg q] at e'; exact subM a o e'
    zL := by
      show (if L3 = c.S then some (lstA acc' cc') else c.ZM s'.heap L3) = _
      rw [if_neg (Ne.symm C.n4)]
      exact if_pos (.inr (.inl rfl))
    z0 := fun a ha => by
      show (if a = c.S then some (lstA acc' cc') else c.ZM s'.heap a) = _
      rw [if_neg (fun h : a = c.S => Nat.lt_irrefl _ (Nat.lt_of_lt_of_le ha (h ▸ C.gS)))]
      unfold GC.ZM
      rw [if_neg (by
        rintro (h | h | h | h)
        · exact Nat.lt_irrefl _ (Nat.lt_of_lt_of_le ha (h ▸ C.gLg))
        · exact Nat.lt_irrefl _ (Nat.lt_of_lt_of_le ha (h ▸ C.gL3))
        · exact Nat.lt_irrefl _ (Nat.lt_of_lt_of_le ha (h ▸ C.gI))
        · exact Nat.lt_irrefl _ (Nat.lt_of_lt_of_le ha (h ▸ C.gS))), if_pos ha]
    nw := fun q hq => by
      rcases List.mem_cons.mp hq with rfl | hq
      · exact ⟨hLg', nLg, hffg⟩
      · rw [List.mem_singleton.mp hq]; exact ⟨invE.hI, nL3, bnI⟩
    zo := fun q hq => by
      rcases List.mem_cons.mp hq with rfl | hq
      · show (if Lg = c.S then some (lstA acc' cc') else c.ZM s'.heap Lg) = _
        rw [if_neg (Ne.symm C.n3)]; exact if_pos (.inl rfl)
      · rw [List.mem_singleton.mp hq]
        show (if I = c.S then some (lstA acc' cc') else c.ZM s'.heap I) = _
        rw [if_neg (Ne.symm C.n5)]; exact if_pos (.inr (.inr (.inl rfl)))
    hd := l6.hd
    stk := ⟨o3, by rw [FnLit.top_env hF2]; exact hA3, by rw [FnLit.top_env hF2]; exact invE.ff.2.2⟩
    room := l6.room
    unit := l6.unit
    kind := l6.kind
    cel := fun q hq => let ⟨o, v, a, b, e⟩ := l6.cel q hq; ⟨o, v, le6 _ _ a, b, e.mono le6⟩ }
  have sx7 : SX gi s3 s' := SX.pre (((q4.trans q5).trans q6).trans (⟨rfl, .refl _⟩ : SS s6 { s6 with heap := h₁ })) ⟨rl.os, rl.g1, rl.g2, gF⟩
  have rdS : Rd Zf (.ref c.S) (.lst ps) := .lst (show (if c.S = c.S then some (lstA acc' cc') else _) = _ from if_pos rfl) rfl rfl (rdE.mono zfle)
  refine wp_store (s := s') l7 hx2 fun h8 l8 => ?_
  have st8 : StR Zf (fun y => if y = x2 then some (.ref c.S) else m4 y) [(x2, .lst ps), (y2, py)] := by
    intro q hq
    rcases List.mem_cons.mp hq with rfl | hq
    · exact ⟨_, if_pos rfl, rdS⟩
    · rw [List.mem_singleton.mp hq]
      obtain ⟨v, hv, rv⟩ := st6 (y2, py) (.tail _ (.head _))
      exact ⟨v, (if_neg (Ne.symm hxy)).trans hv, rv.mono le6⟩
  refine wpAny_execs_nil ?_
  refine wpAny_mono (h2 _ A3 g L3 Z₀ Zf { s' with heap := h8, toks := s'.toks + 1 } _ l8 st8) (fun fl s9 q => ?_) fun e s9 q => ?_
  · obtain ⟨Z9, m9, own9, σ9, fo, k9, l9, q9, st9, fr9, hR⟩ := q
    refine ⟨Z9, m9, own9, fo, (((k4.trans k5).trans k6).trans le6).trans k9, l9, (sx7.more (⟨rfl, .refl _⟩ : SS s' { s' with heap := h8, toks := s'.toks + 1 })).more q9, fr9, ?_⟩
    cases fo <;> exact hR
  · obtain ⟨C9, l', hX, hA, t9⟩ := q
    exact ⟨C9, l', hX, hA, t9.fl, t9.up, (sx7.more (⟨rfl, .refl _⟩ : SS s' { s' with heap := h8, toks := s'.toks + 1 })).more t9.ss⟩
end
end Mine

namespace Mine
open PySem PySem.W PySem.Calls PyProof.Rows

theorem gens_push {a : Array GenState} {x : GenState} {s' : Shared} {s : Shared} (h : SX a.size s s') (hs : s.gens = a.push x) : GK a s'.gens := by
  refine ⟨fun i z e => ?_, fun i z e => ?_⟩
  · have hi : i < a.size := by
      rcases Nat.lt_or_ge i a.size with h' | h'
      · exact h'
      · rw [Array.getElem?_eq_none h'] at e; cases e
    refine h.g1 i z (Nat.ne_of_lt hi) ?_
    rw [hs, Array.getElem?_push_lt hi, ← Array.getElem?_eq_getElem hi]; exact e
  · by_cases q : i = a.size
    · rw [q, h.fin] at e; cases e; exact .inr rfl
    · refine (h.g2 i z q e).imp (fun e => ?_) id
      rw [hs, Array.getElem?_push, if_neg q] at e
      exact e
section
variable {G : Glb} {F : FnLit} {d : Nat} {own : List (Addr × Obj)} {σ : List (Str × PV)} {R : PV → Prop} {X : Option Value}
  {f1 f2 : Addr} {name1 qual1 name2 qual2 : Str} {params1 params2 : Arguments} {body1 rest : List Stmt} {scope1 scope2 : Scope} {dV1 kV1 doc1 pm1 cdv1 ct1 oc1 dV2 kV2 doc2 pm2 cdv2 ct2 oc2 : Value} {an1 od1 an2 od2 : Option Addr} {osl1 osl2 : Array (Option Value)}
  {x1 x2 y2 iN lN n1 n2 xt : Str} {ip tp lp cp np tp2 lp2 tp3 cp2 ap ifp p1 p2 px q1 q2 : Pos} {st1 : Stmt} {ps : List PV} {tx : Str} {py : PV}
theorem ev_bet (O : G.Ok) (hps : ps.length ≤ sizeLine) (hd : 210 ≤ d)
    (ho1 : G.K.lookup f1 = some ⟨oc1, od1, .func (fnOf name1 qual1 params1 body1 scope1 dV1 kV1 doc1 pm1 an1 cdv1 ct1), osl1⟩) (hcd1 : codeIn G.K cdv1 qual1 = true) (kp1 : keepIn G.K (.ref f1) = true)
    (hb1 : ∀ v, bindArgs (fnOf name1 qual1 params1 body1 scope1 dV1 kV1 doc1 pm1 an1 cdv1 ct1) ⟨[v], []⟩ = pure [(x1, v)])
    (hl1 : scope1.names.lookup x1 = some .local) (hcell1 : (scope1.names.all fun q => q.2 != .cell) = true) (hco1 : scope1.isCoroutine = false) (hgen1 : scope1.isGenerator = true) (hk1 : scope1.kind = .function)
    (walk : ∀ (c : GC), c.Ok G → c.F = ⟨qual1, scope1, f1, cdv1, true, [], none⟩ → 100 ≤ c.d → ∀ s m, c.Inv G s.heap m → StR (c.ZM s.heap) m [(x1, .str tx)] → SG G c ps ps.length s (.func body1 (c.F.env c.Lg)) ((model G.prog G.w).den (.func body1 (c.F.env c.Lg))) [] s)
    (ho2 : G.K.lookup f2 = some ⟨oc2, od2, .func (fnOf name2 qual2 params2 (st1 :: .If (.UnaryOp .Not (.Call (.Name iN ip) [.Name x2 tp, .Name lN lp] [] cp) np) [.Assign [.Name x2 tp2] (.Call (.Name lN lp2) [.Name x2 tp3] [] cp2) ap] [] ifp :: rest) scope2 dV2 kV2 doc2 pm2 an2 cdv2 ct2), osl2⟩) (hcd2 : codeIn G.K cdv2 qual2 = true) (kp2 : keepIn G.K (.ref f2) = true)
    (hb2 : ∀ (s : Shared) v, G.K.In s.heap → BindsTo s (fnOf name2 qual2 params2 (st1 :: .If (.UnaryOp .Not (.Call (.Name iN ip) [.Name x2 tp, .Name lN lp] [] cp) np) [.Assign [.Name x2 tp2] (.Call (.Name lN lp2) [.Name x2 tp3] [] cp2) ap] [] ifp :: rest) scope2 dV2 kV2 doc2 pm2 an2 cdv2 ct2) ⟨[v], []⟩ [(x2, v), (y2, .none)])
    (hl2 : scope2.names.lookup x2 = some .local) (hl2y : scope2.names.lookup y2 = some .local) (hcell2 : (scope2.names.all fun q => q.2 != .cell) = true) (hco2 : scope2.isCoroutine = false) (hgen2 : scope2.isGenerator = false) (hk2 : scope2.kind = .function)
    (hx2d : (x2 == ("__debug__" : Str)) = false) (hxy : x2 ≠ y2)
    (h1 : ∀ own a, Ex G ⟨qual2, scope2, f2, cdv2, true, [], none⟩ (d - 10) own [(x2, .raw (.ref a)), (y2, .none)] [st1] (fun fo o σ' => fo = .next ∧ o = own ∧ LSub σ' [(x2, .raw (.ref a)), (y2, py)]) none)
    (ht : ∀ own a oI, (a, oI) ∈ own → oI.cls = .type "generator" → Ts G ⟨qual2, scope2, f2, cdv2, true, [], none⟩ (d - 10) own [(x2, .raw (.ref a)), (y2, py)] (.UnaryOp .Not (.Call (.Name iN ip) [.Name x2 tp, .Name lN lp] [] cp) np) (fun b => b = true) none)
    (hlist : ∀ own σ, Ev G ⟨qual2, scope2, f2, cdv2, true, [], none⟩ (d - 10) own σ (.Name lN lp2) (fun p => p = .raw (.type "list")) none)
    (hsw : ∀ env, swapsWith (.Call (.Name lN lp2) [.Name x2 tp3] [] cp2) (some (.Name x2 tp2)) ap.line env = pure false)
    (h2 : ∀ own, Ex G ⟨qual2, scope2, f2, cdv2, true, [], none⟩ (d - 10) own [(x2, .lst ps), (y2, py)] rest (RetP R) X)
    (hn1 : ∀ own σ, Ev G F d own σ (.Name n1 p1) (fun p => p = .raw (.ref f1)) none) (hn2 : Ev G F d own σ (.Name n2 p2) (fun p => p = .raw (.ref f2)) none) (hxt : Ev G F d own σ (.Name xt px) (fun p => p = .str tx) none) :
    Ev G F d own σ (.Call (.Name n2 p2) [.Call (.Name n1 p1) [.Name xt px] [] q1] [] q2) R X := by
  intro A g L Z₀ Z s m lv st
  refine wpAny_Call_ofName (wpAny_mono (hn2 A g L Z₀ Z s m lv st) (fun fv2 sa qa => ?_) fun _ _ q => q.no.elim)
  obtain ⟨Za, pa, ka, la, ja, ra, rfl⟩ := qa
  cases ra
  refine callWith_of (P := fun hh => G.K.In hh) rfl (fun hh x => keeps_K kp2 hh x) ?_
  refine wp_evalArgs rfl rfl ?_
  refine spliced_more (wpAny_Call_ofName (wpAny_mono (hn1 _ _ A g L Z₀ Za sa m la (st.mono ka)) (fun fv1 sc qc => ?_) fun _ _ q => q.no.elim)) rfl
  obtain ⟨Zc, pc, kc, lc, jc, rc, rfl⟩ := qc
  cases rc
  refine callWith_of (P := fun hh => G.K.In hh) rfl (fun hh x => keeps_K kp1 hh x) ?_
  refine wp_evalArgs rfl rfl ?_
  refine spliced_more (wpAny_mono (hxt A g L Z₀ Zc sc m lc ((st.mono ka).mono kc)) (fun tv sb qb => ?_) fun _ _ q => q.no.elim) rfl
  obtain ⟨Zb, pb, kb, lb, jb, rb, rfl⟩ := qb
  cases rb with | str _ tt =>
  obtain ⟨hb, gg, dr, tk, os⟩ := sb
  dsimp only at lb
  have Xb : G.K.In hb := O.kin.keeps lb.fr.keep
  refine spliced_none (wpAny_evalAll_nil ⟨Xb, ?_⟩)
  obtain ⟨o, hA, cc⟩ := lb.ctx (d' := d) (Nat.le_refl _)
  -- the generator is made
  refine wpAny_call (codeAny_call_generator (body := body1) (by have := cc.room; omega) (Xb _ _ ho1) rfl hco1 hgen1 rfl (codeRec_of Xb hcd1) (wpAny_of_eq (hb1 _) (wpAny_newFunctionEnv (fun z hz => by
      have := List.all_eq_true.mp hcell1 z hz
      simpa using this) (fun z hz => by rw [List.mem_singleton.mp hz]; exact hl1) (fun h₁ hns hsb => ?_) hk1)))
  dsimp only at hns hsb ⊢
  have hsz1 : h₁.objs.size = hb.objs.size + 1 := by rw [hsb.1, Heap.size_push]
  have k1 : ∀ b o, hb.get? b = some o → h₁.get? b = some o := fun b o e => hsb.extBut b o (Nat.ne_of_lt (Heap.lt_size e)) (Heap.get?_push_of_some _ e)
  refine ⟨(O.top.nolimit.keeps cc.stay).keeps k1, ?_⟩
  have k2 : ∀ (oI : Obj) b o, hb.get? b = some o → (h₁.push oI).get? b = some o := fun oI b o e => Heap.get?_push_of_some _ (k1 b o e)
  refine spliced_none (wpAny_evalAll_nil ⟨Xb.keeps (k2 _), ?_⟩)
  -- the consumer is called
  generalize hoI : ({ cls := .type "generator", data := .fields #[.int gg.size 0, .str _ _, .str _ _] } : Obj) = oI
  generalize hH : h₁.push oI = H at *
  have gI : H.get? h₁.objs.size = some oI := by rw [← hH]; exact Heap.get?_push_size _ (by rw [← hoI]; rfl)
  have gL : ∀ o, h₁.get? hb.objs.size = some o → H.get? hb.objs.size = some o := fun o e => by rw [← hH]; exact Heap.get?_push_of_some _ e
  have kH : ∀ b o, hb.get? b = some o → H.get? b = some o := fun b o e => by rw [← hH]; exact k2 oI b o e
  have szH : H.objs.size = hb.objs.size + 2 := by rw [← hH, Heap.size_push, hsz1]
  have XH : G.K.In H := Xb.keeps kH
  refine wpAny_call (codeAny_call_def (s := ⟨H, gg.push _, dr, _, os⟩) (fd := fnOf name2 qual2 params2 _ scope2 dV2 kV2 doc2 pm2 an2 cdv2 ct2) (body := _) (binds := [(x2, .ref h₁.objs.size), (y2, .none)]) (by have := cc.room; omega) (XH _ _ ho2) rfl ((O.top.nolimit.keeps cc.stay).keeps kH) (codeRec_of XH hcd2) rfl (hb2 _ _ XH) ?_ ?_ (fun h₃ hns3 hk3 => ?_) hco2 hgen2 hk2)
  · intro z hz
    have := List.all_eq_true.mp hcell2 z hz
    simpa using this
  · intro z hz
    rcases List.mem_cons.mp hz with rfl | hz
    · exact hl2
    · rw [List.mem_singleton.mp hz]; exact hl2y
  dsimp only at hns3 hk3 ⊢
  obtain ⟨oLg, esg, epg, hLg, hLgd, hLgk⟩ := hns
  have kk : ∀ b o, hb.get? b = some o → h₃.get? b = some o := fun b o e => hk3 _ _ (kH _ _ e)
  have hbs : G.base.objs.size ≤ hb.objs.size := cc.bs
  have zbn : ∀ a, hb.objs.size ≤ a → Zb a = none := fun a ha => by
    cases q : Zb a with
    | none => rfl
    | some o => exact absurd (Heap.lt_size (lb.sub _ o q)) (Nat.not_lt.mpr ha)
  have bn : ∀ a, hb.objs.size ≤ a → G.base.get? a = none := fun a ha => Heap.get?_none_of_le (Nat.le_trans hbs ha)
  have l3 : Live G ⟨qual2, scope2, f2, cdv2, true, [], none⟩ (d - 10) (A.deeper (envOf qual2 scope2 H.objs.size f2 cdv2)) hb H.objs.size Zb Zb [(hb.objs.size, oLg), (h₁.objs.size, oI)] h₃ (fun y => (List.reverse [(x2, Value.ref h₁.objs.size), (y2, .none)]).lookup y) := {
    fr := ⟨hns3, fun b o e => kk b o (cc.stay b o e), by rw [szH]; exact Nat.le_trans hbs (Nat.le_add_right _ _)⟩
    up := Heap.UpToSlots.of_keeps kk
    ek := fun _ => kk
    og := fun q hq => by
      rcases List.mem_cons.mp hq with rfl | hq
      · exact Heap.get?_none_of_le (Nat.le_refl _)
      · rw [List.mem_singleton.mp hq]; exact Heap.get?_none_of_le (by rw [hsz1]; exact Nat.le_succ _)
    sz := by rw [szH]; exact Nat.le_add_right _ _
    sub := lb.sub.keeps kk
    zL := zbn _ (by rw [szH]; exact Nat.le_add_right _ _)
    z0 := fun _ _ => rfl
    nw := fun q hq => by
      rcases List.mem_cons.mp hq with rfl | hq
      · exact ⟨hk3 _ _ (gL _ hLg), by rw [szH]; exact Nat.ne_of_lt (by omega), bn _ (Nat.le_refl _)⟩
      · rw [List.mem_singleton.mp hq]; exact ⟨hk3 _ _ gI, by rw [szH, hsz1]; exact Nat.ne_of_lt (by omega), bn _ (by rw [hsz1]; exact Nat.le_succ _)⟩
    zo := fun q hq => by
      rcases List.mem_cons.mp hq with rfl | hq
      · exact zbn _ (Nat.le_refl _)
      · rw [List.mem_singleton.mp hq]; exact zbn _ (by rw [hsz1]; exact Nat.le_succ _)
    hd := cc.hd
    stk := ⟨_, Around.frames_deeper cc.fr, Heap.FunFrames.cons (by show scope2.kind ≠ .module; rw [hk2]; decide) rfl hns3 (bn _ (by rw [szH]; exact Nat.le_add_right _ _)) (cc.ff.of_keeps fun b o e _ => ⟨o, kk b o e, rfl⟩)⟩
    room := by have := cc.room; show A.depth + 1 + (d - 10) < _; omega
    unit := by have := cc.unit; show A.units + 3 + 10 * (d - 10) < _; omega
    kind := hk2
    cel := fun _ hq => nomatch hq }
  have st3 : StR Zb (fun y => (List.reverse [(x2, Value.ref h₁.objs.size), (y2, .none)]).lookup y) [(x2, .raw (.ref h₁.objs.size)), (y2, .none)] := by
    intro q hq
    rcases List.mem_cons.mp hq with rfl | hq
    · refine ⟨.ref h₁.objs.size, ?_, .raw _⟩
      show List.lookup x2 [(y2, Value.none), (x2, .ref h₁.objs.size)] = _
      rw [List.lookup_cons, beq_eq_false_iff_ne.mpr hxy]
      show List.lookup x2 [(x2, Value.ref h₁.objs.size)] = _
      rw [List.lookup_cons, beq_self_eq_true]
    · rw [List.mem_singleton.mp hq]
      refine ⟨.none, ?_, .none⟩
      show List.lookup y2 [(y2, Value.none), (x2, .ref h₁.objs.size)] = _
      rw [List.lookup_cons, beq_self_eq_true]
  refine wpAny_mono (@bet_body G ⟨qual1, scope1, f1, cdv1, true, [], none⟩ ⟨qual2, scope2, f2, cdv2, true, [], none⟩ (d - 10) R X x1 x2 y2 iN lN ip tp lp cp np tp2 lp2 tp3 cp2 ap ifp st1 body1 rest ps tx py O rfl rfl rfl hk1 rfl rfl hps (by omega) walk h1 ht hlist hl2 hx2d hxy hsw h2
    (A.deeper (envOf qual2 scope2 H.objs.size f2 cdv2)) hb H.objs.size hb.objs.size h₁.objs.size Zb Zb
    _ _ (fun y => (List.reverse [(x1, Value.str tx tt)]).lookup y) oLg oI gg.size _ _ tt l3 st3 hoI.symm (Array.getElem?_push_size ..) ⟨esg, epg, hLgd, hLgk⟩
    (by show List.lookup x1 [(x1, Value.str tx tt)] = _; rw [List.lookup_cons, beq_self_eq_true]) (fun a o _ e => lb.sub a o e) (fun b o e => cc.stay b o e) hbs (Nat.le_refl _) (by rw [hsz1]; exact Nat.le_succ _) (by rw [hsz1]; exact Nat.ne_of_lt (Nat.lt_succ_self _)) (bn _ (Nat.le_refl _))) (fun fl s' q => ?_) fun e s' q => ?_
  · obtain ⟨Z', m', own', fo, le, l9, sx, fr, hR⟩ := q
    obtain ⟨o', ho', ff'⟩ := l9.stk
    have eo' : o' = F.top L :: o := by
      have : some (envOf qual2 scope2 H.objs.size f2 cdv2 :: F.top L :: o) = some (envOf qual2 scope2 H.objs.size f2 cdv2 :: o') := (Around.frames_deeper (env := envOf qual2 scope2 H.objs.size f2 cdv2) cc.fr).symm.trans ho'
      injection this with this
      injection this with _ this
      exact this.symm
    have ss : SS ⟨hb, gg, dr, tk, os⟩ s' := ⟨sx.os, gens_push sx rfl⟩
    have bk : Back G (F.top L :: o) Zb Z' ⟨hb, gg, dr, tk, os⟩ s' := ⟨le, l9.sub, l9.ek rfl, l9.z0, ss, eo' ▸ ff'.2.2, l9.fr.keep⟩
    have lf := Live.back (s := ⟨hb, gg, dr, tk, os⟩) lb hA bk
    have kz := ((ka.trans kc).trans kb).trans le
    have qz := ((ja.trans jc).trans jb).trans ss
    cases fl <;> cases fo <;> first | exact fr.elim | exact hR.elim | skip
    · exact ⟨Z', .none, kz, lf, qz, .none, hR⟩
    · exact ⟨Z', _, kz, lf, qz, fr, hR⟩
  · obtain ⟨C, l', hX, hA', fl, up, sx⟩ := q
    have e' : envOf qual2 scope2 H.objs.size f2 cdv2 :: F.top L :: o = l' := by
      have := (Around.frames_deeper (env := envOf qual2 scope2 H.objs.size f2 cdv2) cc.fr).symm.trans hA'
      exact Option.some.inj this
    subst e'
    have ss : SS ⟨hb, gg, dr, tk, os⟩ s' := ⟨sx.os, gens_push sx rfl⟩
    refine wp_leave (Around.frames_deeper cc.fr) rfl fl fun h' fl' u => ?_
    exact ⟨C, _, hX, hA, fl', (((ja.trans jc).trans jb).trans ss).trans ⟨rfl, .refl _⟩, (lb.up.trans up).trans u⟩
end
end Mine

namespace Mine
open PySem PySem.W PySem.Calls PyProof.Rows
section
variable {G : Glb} {F : FnLit} {d : Nat} {own : List (Addr × Obj)} {σ : List (Str × PV)} {R : PV → Prop} {X : Option Value} {x : Str}
theorem mt_isid {Rm : PV → List PV → Prop} (h : Rm (.raw (.builtin "str.isidentifier")) [.str x]) : Mt G F d own "isidentifier" (.str x) Rm X := by
  intro A g L Z₀ Z s m v pl lv r
  cases r
  exact PySem.GM.isidentifier ⟨Z, _, _, .refl _, lv, .refl _, .raw _, .cons (.str _ _) .nil, h⟩
theorem cl_isid (h : R (.bool (Txt.isidentifier x))) : Cl G F d own (.raw (.builtin "str.isidentifier")) [.str x] [] R X := by
  intro A g L Z₀ Z s m fv vs kws lv rf r hk rk
  obtain rfl : kws = [] := by simpa using hk
  cases rf
  cases r with | cons r r1 =>
  cases r1; cases r
  exact PySem.SC.isidentifier (Got.of lv (.bool _) h)
end
end Mine

namespace Mine
open PySem PySem.W PySem.Calls PyProof.Rows

/-! ## The parser, in plain Lean -/
inductive N
  | tok (k x : Str)
  | un (x : Str) (a : N)
  | bin (a : N) (o : Option Str) (b : N)
abbrev k321 : List (Str × Value) := [("+/-", .int 4 730), ("**", .int 3 732), ("^", .int 3 734), ("unary", .int 2 736), ("*", .int 1 738), ("", .int 1 740), ("//", .int 1 742), ("/", .int 1 744), ("%", .int 1 746), ("+", .int 0 748), ("-", .int 0 750)]
def intOf : Value → Option Int
  | .int i _ => some i
  | _ => none
def prio (x : Str) : Option Int := (valueAt k321 x).bind intOf
theorem prio_of {l : List (Str × Value)} (hl : (l.all fun q => (intOf q.2).isSome) = true) (x : Str) : (valueAt l x = none ∧ (valueAt l x).bind intOf = none) ∨ ∃ i t, valueAt l x = some (.int i t) ∧ (valueAt l x).bind intOf = some i := by
  cases e : valueAt l x with
  | none => exact .inl ⟨rfl, rfl⟩
  | some v =>
    right
    unfold valueAt at e
    obtain ⟨q, hq, rfl⟩ := Option.map_eq_some_iff.mp e
    have := List.all_eq_true.mp hl q (List.mem_of_find?_eq_some hq)
    cases h : q.2 with
    | int i t => exact ⟨i, t, rfl, rfl⟩
    | _ => rw [h] at this; cases this
theorem val_prio (x : Str) : (valueAt k321 x = none ∧ prio x = none) ∨ ∃ i t, valueAt k321 x = some (.int i t) ∧ prio x = some i := prio_of (by decide) x
inductive Tn
  | stuck
  | raise
  | ret (n : N) (i : Nat)
  | go (i : Nat) (r : Option N)
abbrev PRes := Option (Option (N × Nat))
/-- behind a call of itself -/
def after (r : PRes) (k : N → Nat → Tn) : Tn := match r with
  | none => .stuck
  | some none => .raise
  | some (some (m, j)) => k m j
def below (n : N) : Nat → Tn
  | 0 => .stuck
  | j + 1 => .ret n j
def turn1 (rec : Nat → Nat → Str → PRes) (ts : List (Str × Str)) (i depth : Nat) (prev : Str) (res : Option N) : Tn := match ts[i]? with
  | none => .stuck
  | some (ty, x) =>
    if (ty == "OP") = true then
      if (x == ")") = true then
        if (prev == "<none>") = true then .raise
        else match res with
          | none => .stuck
          | some n => if (prev == "(") = true then .ret n i else below n i
      else if (x == "(") = true then
        after (rec (i + 1) 0 x) fun m j => match ts[j]? with
          | none => .stuck
          | some (_, y) => if (y == ")") = true then .go j (some (match res with | none => m | some n => .bin n none m)) else .stuck
      else match prio x with
        | none => .raise
        | some p => match res with
          | some n => if (decide (p ≤ (prio prev).getD (-1)) && !(["**", "^"] : List Str).any (· == x)) = true then below n i else after (rec (i + 1) (depth + 1) x) fun m j => .go j (some (.bin n (some x) m))
          | none => after (rec (i + 1) (depth + 1) "unary") fun m j => .go j (some (.un x m))
    else if (["NUMBER", "NAME"] : List Str).any (· == ty) = true then
      match res with
      | some n => if decide (1 ≤ (prio prev).getD (-1)) = true then below n i else after (rec i (depth + 1) "") fun m j => .go j (some (.bin n none m))
      | none => .go i (some (.tok ty x))
    else .go i res
def turn2 (ts : List (Str × Str)) (depth : Nat) (prev : Str) (i : Nat) (res : Option N) : Tn := match ts[i]? with
  | none => .stuck
  | some (ty, _) =>
    if (ty == "ENDMARKER") = true then
      if (prev == "(") = true then .raise
      else match res with
        | none => .raise
        | some n => if (decide (0 < depth) || (prev.length : Int) != 0) = true then .ret n i else .stuck
    else if i + 1 < ts.length then .go (i + 1) res else .stuck
def endT (t : Tn) (k : Nat → Option N → PRes) : PRes := match t with
  | .stuck => none
  | .raise => some none
  | .ret n i => some (some (n, i))
  | .go i r => k i r
def head (ts : List (Str × Str)) : Nat → Nat → Nat → Str → Option N → PRes
  | 0, _, _, _, _ => none
  | k + 1, i, depth, prev, res => endT (turn1 (fun i d p => if d ≤ 100 then head ts k i d p none else none) ts i depth prev res) fun j r => endT (turn2 ts depth prev j r) fun j r => head ts k j depth prev r
end Mine

namespace Mine
open PySem PySem.W PySem.Calls PyProof.Rows
section
local macro_rules | `(tactic| walk_at "nm") => `(tactic| first | with_reducible exact nm_add | with_reducible exact nm_mul | with_reducible exact nm_pow_operator | with_reducible exact nm_sub | with_reducible exact nm_truediv | with_reducible exact nm_DefinitionSyntaxError | with_reducible exact nm_common_divisor | with_reducible exact nm_Quotient | with_reducible exact nm_whole | with_reducible exact nm_number_from_text | with_reducible exact nm_TokenInfo | with_reducible exact nm_end_of_figures | with_reducible exact nm_end_of_number | with_reducible exact nm_tokenizer | with_reducible exact nm__power | with_reducible exact nm__divided | with_reducible exact nm__plus | with_reducible exact nm__minus | with_reducible exact nm__UNARY_OPERATOR_MAP | with_reducible exact nm__BINARY_OPERATOR_MAP | with_reducible exact nm__OP_PRIORITY | with_reducible exact nm_EvalTreeNode | with_reducible exact nm__build_eval_tree | with_reducible exact nm_build_eval_tree | with_reducible exact nm__law_cell | with_reducible exact nm__law_tree | with_reducible exact nm__law_bind | with_reducible exact nm__law_is_bare | with_reducible exact nm__law_text | with_reducible exact nm__law_within | with_reducible exact nm__law_told | with_reducible exact nm__law_value | with_reducible exact nm__law_number | with_reducible exact nm__law_is_refused)
local macro_rules | `(tactic| walk_at "mem") => `(tactic| repeat (first | with_reducible exact LMem.head | with_reducible apply LMem.tail))
local macro_rules | `(tactic| walk_at "put") => `(tactic| first
  | with_reducible exact PutR.nil
  | ((with_reducible refine' PutR.pass ?pn ?pr); (case pn => decide); (case pr => walk_at "put"))
  | ((with_reducible refine' PutR.drop ?pr); (case pr => walk_at "put")))
local macro_rules | `(tactic| walk_at "sub") => `(tactic| repeat (first
  | with_reducible exact LSub.nil
  | ((with_reducible refine' LSub.cons ?lm ?_); (case lm => walk_at "mem"))))
local macro_rules | `(tactic| walk_at "go") => `(tactic| repeat (first
  | with_reducible refine' ev_int ?_
  | with_reducible refine' ev_str ?_
  | ((with_reducible refine' ev_var ?hm ?hl ?hd ?_); (case hm => walk_at "mem"); (case hl => rfl); (case hd => decide))
  | ((with_reducible refine' ev_built ?hO ?hv ?he ?hn ?hl ?hd ?_); (case hO => assumption); (case hv => boot_by_name); (case he => kernel_rfl); (case hn => decide); (case hl => rfl); (case hd => decide))
  | ((with_reducible refine' ev_topS ?hO ?he ?hl ?hd ?_); (case he => first | with_reducible exact nm_ENDMARKER | with_reducible exact nm_NAME | with_reducible exact nm_NUMBER | with_reducible exact nm_OP); (case hO => assumption); (case hl => rfl); (case hd => decide))
  | ((with_reducible refine' ev_topI ?hO ?he ?hl ?hd ?_); (case he => with_reducible exact nm__MAX_RECURSION_DEPTH); (case hO => assumption); (case hl => rfl); (case hd => decide))
  | ((with_reducible refine' ev_top ?hO ?he ?hl ?hd ?_); (case hO => assumption); (case he => walk_at "nm"); (case hl => rfl); (case hd => decide))
  | ((with_reducible refine' ev_cel ?hl ?hd ?hc ?hm ?_); (case hl => rfl); (case hd => decide); (case hc => exact rfl); (case hm => exact List.Mem.head _))
  | ((with_reducible refine' And.intro ?hk ?_); (case hk => first | with_reducible exact kp_bi | with_reducible exact kp_ty | ((with_reducible refine' kp_fn ?_); kernel_rfl)))
  | with_reducible refine' evs_nil ?_
  | ((with_reducible refine' evs_more ?he ?_); (case he => intro _; rfl))
  | with_reducible refine' ev_bin ?_
  | with_reducible refine' ev_tup ?_
  | with_reducible refine' ev_lst ?_
  | ((with_reducible refine' And.intro ?hk ?_); (case hk => size_fits))
  | ((with_reducible refine' ev_mcl0 ?hO ?he ?hp ?_); (case hO => assumption); (case he => intro _; exact ⟨_, rfl⟩); (case hp => rfl))
  | ((with_reducible refine' ev_cl0 ?hO ?he ?hp ?_); (case hO => assumption); (case he => intro _; rfl); (case hp => rfl))
  | with_reducible refine' ev_sub ?_
  | ((with_reducible refine' ev_compare ?hm ?_); (case hm => with_unfolding_all rfl))
  | with_reducible refine' ev_attr ?_
  | with_reducible refine' ev_none ?_
  | with_reducible refine' ev_bool ?_
  | with_reducible refine' ev_un ?_
  | with_reducible refine' ev_ife ?_
  | ((with_reducible refine' ev_mcl ?hO ?he ?hp ?hk ?_); (case hO => assumption); (case he => intro _; exact ⟨_, rfl⟩); (case hp => rfl); (case hk => rfl))
  | ((with_reducible refine' ev_cl ?hO ?he ?hp ?hk ?_); (case hO => assumption); (case he => intro _; rfl); (case hp => rfl); (case hk => rfl))
  | with_reducible refine' evk_nil ?_
  | with_reducible refine' evk_cons ?_
  | with_reducible refine' ex_ret ?_
  | ((with_reducible refine' ex_asg ?hl ?hs ?_); (case hl => rfl); (case hs => intro _; rfl))
  | ((with_reducible refine' ex_swap2 ?hs ?hw ?hx ?hy ?_); (case hs => intro _; rfl); (case hw => intro _; rfl); (case hx => rfl); (case hy => rfl))
  | ((with_reducible refine' ex_tup2 ?hs ?hw ?hx ?hy ?_); (case hs => intro _; rfl); (case hw => intro _; rfl); (case hx => rfl); (case hy => rfl))
  | ((with_reducible refine' ex_aug ?hm ?hl ?_); (case hm => walk_at "mem"); (case hl => rfl))
  | ((with_reducible refine' Exists.intro _ (And.intro (?hp : PutR _ _ _ _) ?_)); (case hp => walk_at "put"))
  | with_reducible refine' Exists.intro _ (Exists.intro _ (And.intro rfl ?_))
  | with_reducible refine' Exists.intro _ (And.intro rfl ?_)
  | with_reducible refine' ex_if ?_
  | with_reducible refine' ex_nil ?_
  | with_reducible refine' ex_cont ?_
  | with_reducible refine' ex_pass ?_
  | with_reducible refine' ex_assert ?_
  | with_reducible refine' sq_next ?_
  | with_reducible refine' sq_ret ?_
  | with_reducible refine' sq_brk ?_
  | with_reducible refine' sq_cont ?_
  | with_reducible refine' retp ?_
  | with_reducible refine' loop_ret ?_
  | with_reducible refine' loop_brk ?_
  | with_reducible refine' retn ?_
  | with_reducible refine' ts_not ?_
  | with_reducible refine' ts_andN ?_
  | with_reducible refine' ts_orN ?_
  | with_reducible refine' ts_and ?_
  | with_reducible refine' ts_or ?_
  | ((with_reducible refine' ts_compare ?hm ?_); (case hm => with_unfolding_all rfl))
  | ((with_reducible refine' ts_val ?_ ?he); (case he => intro _ _; rfl))
  | with_reducible refine' d2_add ?_
  | with_reducible refine' d2_sub ?_
  | with_reducible refine' d2_iadd ?_
  | with_reducible refine' d1_neg ?_
  | with_reducible refine' d2_lt ?_
  | with_reducible refine' d2_gt ?_
  | with_reducible refine' d2_le ?_
  | with_reducible refine' d2_ge ?_
  | with_reducible refine' d2_eq ?_
  | with_reducible refine' d2_ne ?_
  | with_reducible refine' d2_seq ?_
  | with_reducible refine' d2_sne ?_
  | with_reducible refine' tr_bool ?_
  | with_reducible refine' tr_none ?_
  | with_reducible refine' tr_int ?_
  | with_reducible refine' cl_abs ?_
  | with_reducible refine' cl_int ?_
  | ((with_reducible refine' op_fdiv ?hO ?hb ?hd ?hg ?hc ?hh ?_); (case hO => assumption); (case hb => decide); (case hd => decide); (case hg => rfl); (case hc => rfl); (case hh => rfl))
  | ((with_reducible refine' op_headNum ?hs ?_); (case hs => intro _ _; exact ⟨_, rfl⟩))
  | ((with_reducible refine' op_headNeg ?hs ?_); (case hs => intro _ _; exact ⟨_, rfl⟩))
  | ((with_reducible refine' op_headBin ?hs ?_); (case hs => intro _ _; exact ⟨_, rfl⟩))
  | ((with_reducible refine' op_head ?hs ?_); (case hs => intro _ _; exact ⟨_, rfl⟩))
  | ((with_reducible refine' op_num1 ?hs ?_); (case hs => intro _ _; exact ⟨_, rfl⟩))
  | ((with_reducible refine' op_neg1 ?hs ?_); (case hs => intro _ _; exact ⟨_, rfl⟩))
  | ((with_reducible refine' op_bin1 ?hs ?_); (case hs => intro _ _; exact ⟨_, rfl⟩))
  | ((with_reducible refine' op_bin2 ?hs ?_); (case hs => intro _ _; exact ⟨_, rfl⟩))
  | ((with_reducible refine' if_t ?hc ?_); (case hc => decide))
  | ((with_reducible refine' if_f ?hc ?_); (case hc => decide))
  | with_reducible refine' ev_slcTo ?_
  | ((with_reducible refine' tk_string ?hO ?_); (case hO => assumption))
  | ((with_reducible refine' tk_type ?hO ?_); (case hO => assumption))
  | ((with_reducible refine' nd_left ?hO ?_); (case hO => assumption))
  | ((with_reducible refine' nd_op ?hO ?_); (case hO => assumption))
  | ((with_reducible refine' nd_right ?hO ?_); (case hO => assumption))
  | ((with_reducible refine' tr_tok ?hO ?_); (case hO => assumption))
  | ((with_reducible refine' tr_node ?hO ?_); (case hO => assumption))
  | with_reducible refine' ev_slcFrom ?_
  | with_reducible refine' ev_slcBoth ?_
  ))
section
variable {w : World} {loose : List Str} {mean : ExcName → Option Value} {mg mb : Str → Option Value} {base : Heap}
def dg (k : Nat) : Str := Str.ofString (toString (k : Int))
theorem dg_still : ∀ k : Nat, k ≤ 9 → KXs.Still (dg k) := by
  intro k hk
  have : k = 0 ∨ k = 1 ∨ k = 2 ∨ k = 3 ∨ k = 4 ∨ k = 5 ∨ k = 6 ∨ k = 7 ∨ k = 8 ∨ k = 9 := by omega
  rcases this with rfl | rfl | rfl | rfl | rfl | rfl | rfl | rfl | rfl | rfl <;> exact KXs.still_of (by decide +kernel)
theorem dg_e : ∀ k : Nat, k ≤ 9 → Builtin.Str.occurrences (dg k) "e" 0 (dg k).length 1 = [] := by
  intro k hk
  have : k = 0 ∨ k = 1 ∨ k = 2 ∨ k = 3 ∨ k = 4 ∨ k = 5 ∨ k = 6 ∨ k = 7 ∨ k = 8 ∨ k = 9 := by omega
  rcases this with rfl | rfl | rfl | rfl | rfl | rfl | rfl | rfl | rfl | rfl <;> decide +kernel
theorem dg_dot : ∀ k : Nat, k ≤ 9 → Builtin.Str.occurrences (dg k) "." 0 (dg k).length 1 = [] := by
  intro k hk
  have : k = 0 ∨ k = 1 ∨ k = 2 ∨ k = 3 ∨ k = 4 ∨ k = 5 ∨ k = 6 ∨ k = 7 ∨ k = 8 ∨ k = 9 := by omega
  rcases this with rfl | rfl | rfl | rfl | rfl | rfl | rfl | rfl | rfl | rfl <;> decide +kernel
theorem dg_len (k : Nat) (h : k ≤ 9) : (dg k).length = 1 := digit_len k h
theorem nft_spec (O : (GG w loose mean mg mb base).Ok) {k : Nat} (hk : k ≤ 9) {d : Nat} : Fn (GG w loose mean mg mb base) (d + 1) (.ref 241) [.str (dg k)] [] (fun p => p = .int (k : Int)) none := by
  have L := dg_len k hk
  have hz : (dg k).length ≤ sizeLine := by rw [L]; decide
  refine fn_intro O (d := d) (ps := [("text", .str (dg k))]) (by rfl) (by kernel_rfl) (bnds1 fun _ => by rfl) ?_ (by rfl) (of_decide_eq_true (by kernel_rfl)) (by rfl) rfl rfl rfl
  refine ex_tup3 (fun _ => by rfl) (fun _ => by rfl) rfl rfl rfl ?_
  walk_at "go"
  refine mt_lower ?_
  walk_at "go"
  refine cl_lower (dg_still k hk) (by omega) ?_
  refine mt_partition ?_
  walk_at "go"
  refine cl_part0 (by decide) hz (dg_e k hk) ?_
  refine ⟨_, _, _, rfl, ?_⟩
  walk_at "go"
  refine ex_tup3 (fun _ => by rfl) (fun _ => by rfl) rfl rfl rfl ?_
  walk_at "go"
  refine mt_partition ?_
  walk_at "go"
  refine cl_part0 (by decide) hz (dg_dot k hk) ?_
  refine ⟨_, _, _, rfl, ?_⟩
  walk_at "go"
  refine d2_sadd ?_ (by rw [L]; decide)
  rw [PySem.Str.append_empty]
  walk_at "go"
  refine cl_intStr (n := (k : Int)) (by omega) (by omega) ?_
  walk_at "go"
  refine tr_str (by decide) ?_
  walk_at "go"
  refine tr_str (by decide) ?_
  walk_at "go"
  rfl
section
variable {F : FnLit} {d : Nat} {own : List (Addr × Obj)} {R : PV → Prop} {X : Option Value} {k x : Str} {l o r : PV}
theorem tk_string (O : (GG w loose mean mg mb base).Ok) (h : R (.str x)) : D1 (GG w loose mean mg mb base) F d own (fun v => getAttr v "string" true) (tokPV k x) R X :=
  d1_field O (C := 265) rfl h (by kernel_rfl) (by kernel_rfl) (attr := none) (by kernel_rfl) (by kernel_rfl)
theorem tk_type (O : (GG w loose mean mg mb base).Ok) (h : R (.str k)) : D1 (GG w loose mean mg mb base) F d own (fun v => getAttr v "type" true) (tokPV k x) R X :=
  d1_field O (C := 265) rfl h (by kernel_rfl) (by kernel_rfl) (attr := none) (by kernel_rfl) (by kernel_rfl)
theorem nd_left (O : (GG w loose mean mg mb base).Ok) (h : R l) : D1 (GG w loose mean mg mb base) F d own (fun v => getAttr v "left" true) (nodePV l o r) R X :=
  d1_field O (C := 354) rfl h (by kernel_rfl) (by kernel_rfl) (attr := none) (by kernel_rfl) (by kernel_rfl)
theorem nd_op (O : (GG w loose mean mg mb base).Ok) (h : R o) : D1 (GG w loose mean mg mb base) F d own (fun v => getAttr v "operator" true) (nodePV l o r) R X :=
  d1_field O (C := 354) rfl h (by kernel_rfl) (by kernel_rfl) (attr := none) (by kernel_rfl) (by kernel_rfl)
theorem nd_right (O : (GG w loose mean mg mb base).Ok) (h : R r) : D1 (GG w loose mean mg mb base) F d own (fun v => getAttr v "right" true) (nodePV l o r) R X :=
  d1_field O (C := 354) rfl h (by kernel_rfl) (by kernel_rfl) (attr := none) (by kernel_rfl) (by kernel_rfl)
theorem tr_tok (O : (GG w loose mean mg mb base).Ok) {B : Bool → Prop} (h : B true) : Tr (GG w loose mean mg mb base) F d own (tokPV k x) B X := tr_inst O (by kernel_rfl) (by kernel_rfl) h
theorem tr_node (O : (GG w loose mean mg mb base).Ok) {B : Bool → Prop} (h : B true) : Tr (GG w loose mean mg mb base) F d own (nodePV l o r) B X := tr_inst O (by kernel_rfl) (by kernel_rfl) h
end
theorem number_spec (O : (GG w loose mean mg mb base).Ok) {k : Nat} (hk : k ≤ 9) {d : Nat} : Fn (GG w loose mean mg mb base) (d + 2) (.ref 433) [tokPV "NUMBER" (dg k)] [] (fun p => p = .int (k : Int)) none := by
  refine fn_intro O (d := d + 1) (ps := [("token", tokPV "NUMBER" (dg k))]) (by rfl) (by kernel_rfl) (bnds1 fun _ => by rfl) ?_ (by rfl) (of_decide_eq_true (by kernel_rfl)) (by rfl) rfl rfl rfl
  walk_at "go"
  refine tk_string O ?_
  walk_at "go"
  refine cl_use0 (nft_spec O hk) (Nat.le_refl _) ?_
  rintro _ rfl
  walk_at "go"
  rfl
end
end
end Mine

namespace Mine
open PySem PySem.W PySem.Calls PyProof.Rows
section
local macro_rules | `(tactic| walk_at "nm") => `(tactic| first | with_reducible exact nm_add | with_reducible exact nm_mul | with_reducible exact nm_pow_operator | with_reducible exact nm_sub | with_reducible exact nm_truediv | with_reducible exact nm_DefinitionSyntaxError | with_reducible exact nm_common_divisor | with_reducible exact nm_Quotient | with_reducible exact nm_whole | with_reducible exact nm_number_from_text | with_reducible exact nm_TokenInfo | with_reducible exact nm_end_of_figures | with_reducible exact nm_end_of_number | with_reducible exact nm_tokenizer | with_reducible exact nm__power | with_reducible exact nm__divided | with_reducible exact nm__plus | with_reducible exact nm__minus | with_reducible exact nm__UNARY_OPERATOR_MAP | with_reducible exact nm__BINARY_OPERATOR_MAP | with_reducible exact nm__OP_PRIORITY | with_reducible exact nm_EvalTreeNode | with_reducible exact nm__build_eval_tree | with_reducible exact nm_build_eval_tree | with_reducible exact nm__law_cell | with_reducible exact nm__law_tree | with_reducible exact nm__law_bind | with_reducible exact nm__law_is_bare | with_reducible exact nm__law_text | with_reducible exact nm__law_within | with_reducible exact nm__law_told | with_reducible exact nm__law_value | with_reducible exact nm__law_number | with_reducible exact nm__law_is_refused)
local macro_rules | `(tactic| walk_at "mem") => `(tactic| repeat (first | with_reducible exact LMem.head | with_reducible apply LMem.tail))
local macro_rules | `(tactic| walk_at "put") => `(tactic| first
  | with_reducible exact PutR.nil
  | ((with_reducible refine' PutR.pass ?pn ?pr); (case pn => decide); (case pr => walk_at "put"))
  | ((with_reducible refine' PutR.drop ?pr); (case pr => walk_at "put")))
local macro_rules | `(tactic| walk_at "sub") => `(tactic| repeat (first
  | with_reducible exact LSub.nil
  | ((with_reducible refine' LSub.cons ?lm ?_); (case lm => walk_at "mem"))))
local macro_rules | `(tactic| walk_at "go") => `(tactic| repeat (first
  | with_reducible refine' ev_int ?_
  | with_reducible refine' ev_str ?_
  | ((with_reducible refine' ev_var ?hm ?hl ?hd ?_); (case hm => walk_at "mem"); (case hl => rfl); (case hd => decide))
  | ((with_reducible refine' ev_built ?hO ?hv ?he ?hn ?hl ?hd ?_); (case hO => assumption); (case hv => boot_by_name); (case he => kernel_rfl); (case hn => decide); (case hl => rfl); (case hd => decide))
  | ((with_reducible refine' ev_topS ?hO ?he ?hl ?hd ?_); (case he => first | with_reducible exact nm_ENDMARKER | with_reducible exact nm_NAME | with_reducible exact nm_NUMBER | with_reducible exact nm_OP); (case hO => assumption); (case hl => rfl); (case hd => decide))
  | ((with_reducible refine' ev_topI ?hO ?he ?hl ?hd ?_); (case he => with_reducible exact nm__MAX_RECURSION_DEPTH); (case hO => assumption); (case hl => rfl); (case hd => decide))
  | ((with_reducible refine' ev_top ?hO ?he ?hl ?hd ?_); (case hO => assumption); (case he => walk_at "nm"); (case hl => rfl); (case hd => decide))
  | ((with_reducible refine' ev_cel ?hl ?hd ?hc ?hm ?_); (case hl => rfl); (case hd => decide); (case hc => exact rfl); (case hm => exact List.Mem.head _))
  | ((with_reducible refine' And.intro ?hk ?_); (case hk => first | with_reducible exact kp_bi | with_reducible exact kp_ty | ((with_reducible refine' kp_fn ?_); kernel_rfl)))
  | with_reducible refine' evs_nil ?_
  | ((with_reducible refine' evs_more ?he ?_); (case he => intro _; rfl))
  | with_reducible refine' ev_bin ?_
  | with_reducible refine' ev_tup ?_
  | with_reducible refine' ev_lst ?_
  | ((with_reducible refine' And.intro ?hk ?_); (case hk => size_fits))
  | ((with_reducible refine' ev_mcl0 ?hO ?he ?hp ?_); (case hO => assumption); (case he => intro _; exact ⟨_, rfl⟩); (case hp => rfl))
  | ((with_reducible refine' ev_cl0 ?hO ?he ?hp ?_); (case hO => assumption); (case he => intro _; rfl); (case hp => rfl))
  | with_reducible refine' ev_sub ?_
  | ((with_reducible refine' ev_compare ?hm ?_); (case hm => with_unfolding_all rfl))
  | with_reducible refine' ev_attr ?_
  | with_reducible refine' ev_none ?_
  | with_reducible refine' ev_bool ?_
  | with_reducible refine' ev_un ?_
  | with_reducible refine' ev_ife ?_
  | ((with_reducible refine' ev_mcl ?hO ?he ?hp ?hk ?_); (case hO => assumption); (case he => intro _; exact ⟨_, rfl⟩); (case hp => rfl); (case hk => rfl))
  | ((with_reducible refine' ev_cl ?hO ?he ?hp ?hk ?_); (case hO => assumption); (case he => intro _; rfl); (case hp => rfl); (case hk => rfl))
  | with_reducible refine' evk_nil ?_
  | with_reducible refine' evk_cons ?_
  | with_reducible refine' ex_ret ?_
  | ((with_reducible refine' ex_asg ?hl ?hs ?_); (case hl => rfl); (case hs => intro _; rfl))
  | ((with_reducible refine' ex_swap2 ?hs ?hw ?hx ?hy ?_); (case hs => intro _; rfl); (case hw => intro _; rfl); (case hx => rfl); (case hy => rfl))
  | ((with_reducible refine' ex_tup2 ?hs ?hw ?hx ?hy ?_); (case hs => intro _; rfl); (case hw => intro _; rfl); (case hx => rfl); (case hy => rfl))
  | ((with_reducible refine' ex_aug ?hm ?hl ?_); (case hm => walk_at "mem"); (case hl => rfl))
  | ((with_reducible refine' Exists.intro _ (And.intro (?hp : PutR _ _ _ _) ?_)); (case hp => walk_at "put"))
  | with_reducible refine' Exists.intro _ (Exists.intro _ (And.intro rfl ?_))
  | with_reducible refine' Exists.intro _ (And.intro rfl ?_)
  | with_reducible refine' ex_if ?_
  | with_reducible refine' ex_nil ?_
  | with_reducible refine' ex_cont ?_
  | with_reducible refine' ex_pass ?_
  | with_reducible refine' ex_assert ?_
  | with_reducible refine' sq_next ?_
  | with_reducible refine' sq_ret ?_
  | with_reducible refine' sq_brk ?_
  | with_reducible refine' sq_cont ?_
  | with_reducible refine' retp ?_
  | with_reducible refine' loop_ret ?_
  | with_reducible refine' loop_brk ?_
  | with_reducible refine' retn ?_
  | with_reducible refine' ts_not ?_
  | with_reducible refine' ts_andN ?_
  | with_reducible refine' ts_orN ?_
  | with_reducible refine' ts_and ?_
  | with_reducible refine' ts_or ?_
  | ((with_reducible refine' ts_compare ?hm ?_); (case hm => with_unfolding_all rfl))
  | ((with_reducible refine' ts_val ?_ ?he); (case he => intro _ _; rfl))
  | with_reducible refine' d2_add ?_
  | with_reducible refine' d2_sub ?_
  | with_reducible refine' d2_iadd ?_
  | with_reducible refine' d1_neg ?_
  | with_reducible refine' d2_lt ?_
  | with_reducible refine' d2_gt ?_
  | with_reducible refine' d2_le ?_
  | with_reducible refine' d2_ge ?_
  | with_reducible refine' d2_eq ?_
  | with_reducible refine' d2_ne ?_
  | with_reducible refine' d2_seq ?_
  | with_reducible refine' d2_sne ?_
  | with_reducible refine' tr_bool ?_
  | with_reducible refine' tr_none ?_
  | with_reducible refine' tr_int ?_
  | with_reducible refine' cl_abs ?_
  | with_reducible refine' cl_int ?_
  | ((with_reducible refine' op_fdiv ?hO ?hb ?hd ?hg ?hc ?hh ?_); (case hO => assumption); (case hb => decide); (case hd => decide); (case hg => rfl); (case hc => rfl); (case hh => rfl))
  | ((with_reducible refine' op_headNum ?hs ?_); (case hs => intro _ _; exact ⟨_, rfl⟩))
  | ((with_reducible refine' op_headNeg ?hs ?_); (case hs => intro _ _; exact ⟨_, rfl⟩))
  | ((with_reducible refine' op_headBin ?hs ?_); (case hs => intro _ _; exact ⟨_, rfl⟩))
  | ((with_reducible refine' op_head ?hs ?_); (case hs => intro _ _; exact ⟨_, rfl⟩))
  | ((with_reducible refine' op_num1 ?hs ?_); (case hs => intro _ _; exact ⟨_, rfl⟩))
  | ((with_reducible refine' op_neg1 ?hs ?_); (case hs => intro _ _; exact ⟨_, rfl⟩))
  | ((with_reducible refine' op_bin1 ?hs ?_); (case hs => intro _ _; exact ⟨_, rfl⟩))
  | ((with_reducible refine' op_bin2 ?hs ?_); (case hs => intro _ _; exact ⟨_, rfl⟩))
  | ((with_reducible refine' if_t ?hc ?_); (case hc => decide))
  | ((with_reducible refine' if_f ?hc ?_); (case hc => decide))
  | with_reducible refine' ev_slcTo ?_
  | ((with_reducible refine' tk_string ?hO ?_); (case hO => assumption))
  | ((with_reducible refine' tk_type ?hO ?_); (case hO => assumption))
  | ((with_reducible refine' nd_left ?hO ?_); (case hO => assumption))
  | ((with_reducible refine' nd_op ?hO ?_); (case hO => assumption))
  | ((with_reducible refine' nd_right ?hO ?_); (case hO => assumption))
  | ((with_reducible refine' tr_tok ?hO ?_); (case hO => assumption))
  | ((with_reducible refine' tr_node ?hO ?_); (case hO => assumption))
  | with_reducible refine' ev_slcFrom ?_
  | with_reducible refine' ev_slcBoth ?_
  ))
/-! ## Values of the reckoning -/
def Rep (x y : Int) (k : Nat) (p : PV) : Prop := (∃ n : Int, p = .int n ∧ n * y = x ∧ n.natAbs ≤ 2 ^ k) ∨ (∃ n m : Int, p = QPV n m ∧ Nf n m ∧ n * y = x * m ∧ n.natAbs ≤ 2 ^ k ∧ m.natAbs ≤ 2 ^ k)
theorem rep_qq {a b v w : Int} {K : Nat} (hb : b ≠ 0) (h : a * w = v * b) (ha : a.natAbs ≤ 2 ^ K) (hbk : b.natAbs ≤ 2 ^ K) : Rep v w K (Qq a b) := by
  refine .inr ⟨qn a b, qd a b, rfl, .of hb, ?_, Nat.le_trans (qn_le hb) ha, Nat.le_trans (qd_le hb) hbk⟩
  have hc := q_cross a b
  apply Int.eq_of_mul_eq_mul_right hb
  grind
theorem Nf.ne {n m : Int} (h : Nf n m) : m ≠ 0 := by have := h.1; omega
def opv : Op → Value
  | .add => .builtin "_operator.add"
  | .sub => .builtin "_operator.sub"
  | .mul => .builtin "_operator.mul"
  | .jux => .builtin "_operator.mul"
  | .div => .ref 304
  | .pow => .ref 297
theorem one_le (k : Nat) : (1 : Int).natAbs ≤ 2 ^ k := Nat.one_le_two_pow
section
variable {w : World} {loose : List Str} {mean : ExcName → Option Value} {mg mb : Str → Option Value} {base : Heap} {F : FnLit} {d : Nat} {own : List (Addr × Obj)}  {x y z u v t : Int} {k l : Nat} {p q : PV}
theorem cl_op' {id nm : String} {op : Operator} {a b : PV} {R : PV → Prop} (o : Opr id nm op) (hd : 110 ≤ d) (h : ∀ d, 109 ≤ d → D2 (GG w loose mean mg mb base) F d own (binaryOp op) a b R none) : Cl (GG w loose mean mg mb base) F d own (.raw (.builtin id)) [a, b] [] R none := by
  obtain ⟨e, rfl⟩ : ∃ e, d = e + 1 := ⟨d - 1, by omega⟩
  exact cl_op o (h e (by omega))
theorem ap_add (O : (GG w loose mean mg mb base).Ok) (hd : 110 ≤ d) (hy : y ≠ 0) (hu : u ≠ 0) (hp : Rep x y k p) (hq : Rep z u l q) (hk : k ≤ 50000) (hl : l ≤ 49000) : Cl (GG w loose mean mg mb base) F d own (.raw (.builtin "_operator.add")) [p, q] [] (Rep (x * u + z * y) (y * u) (k + l + 1)) none := by
  refine cl_op' opr_add hd fun d hd => ?_
  rcases hp with ⟨n, rfl, e1, b1⟩ | ⟨n, m, rfl, N1, e1, b1, c1⟩ <;> rcases hq with ⟨i, rfl, e2, b2⟩ | ⟨i, j, rfl, N2, e2, b2, c2⟩
  · refine d2_add (.inl ⟨_, rfl, by grind, ?_⟩)
    exact le_add2 (le_up b1 (Nat.le_add_right _ _)) (le_up b2 (Nat.le_add_left _ _))
  · refine op_binR O (D := 223) (fd := 143) (fr := 143) (id := "int.__add__") (ro := some (.builtin "int.__radd__")) (by kernel_rfl) (by kernel_rfl) (by kernel_rfl) (by kernel_rfl) (by kernel_rfl) (by kernel_rfl) (by kernel_rfl) (by kernel_rfl) PySem.F.slot_int_add ⟨_, _, _, PySem.F.entry_int_add, rfl⟩ PySem.F.args_int_add_2 (add_int O N2.ne b2 c2 b1 (by omega) (by omega)) (by omega) ?_
    rintro _ rfl
    refine ⟨rep_qq (by have := N2.ne; omega) (by grind) ?_ (by rw [Int.mul_one]; exact le_up c2 (by omega)), rfl⟩
    rw [Int.mul_one]
    exact le_add2 (le_up b2 (by omega)) (le_mul2 b1 c2)
  · refine op_binI O (D := 223) (f := 143) (rc := some (.ref 143)) (fo := some (.builtin "int.__add__")) (ro := some (.builtin "int.__radd__")) (by kernel_rfl) (by kernel_rfl) (by kernel_rfl) (by kernel_rfl) (.inr ⟨_, rfl⟩) (by kernel_rfl) (by kernel_rfl) (by kernel_rfl) (add_int O N1.ne b1 c1 b2 (by omega) (by omega)) (by omega) ?_
    rintro _ rfl
    refine ⟨rep_qq (by have := N1.ne; omega) (by grind) ?_ (by rw [Int.mul_one]; exact le_up c1 (by omega)), rfl⟩
    rw [Int.mul_one]
    exact le_add2 (le_up b1 (by omega)) (by rw [Int.mul_comm]; exact le_mul2 c1 b2)
  · refine op_binS O (D := 223) (f := 143) (by kernel_rfl) (by kernel_rfl) (by kernel_rfl) (add_q O N1.ne N2 b1 c1 b2 c2 (by omega) (by omega)) (by omega) ?_
    rintro _ rfl
    refine ⟨rep_qq (Int.mul_ne_zero N1.ne N2.ne) (by grind) ?_ (le_up (le_mul2 c1 c2) (by omega)), rfl⟩
    exact le_add2 (le_mul2 b1 c2) (by rw [Int.mul_comm]; exact le_mul2 c1 b2)
theorem ap_sub (O : (GG w loose mean mg mb base).Ok) (hd : 110 ≤ d) (hy : y ≠ 0) (hu : u ≠ 0) (hp : Rep x y k p) (hq : Rep z u l q) (hk : k ≤ 50000) (hl : l ≤ 49000) : Cl (GG w loose mean mg mb base) F d own (.raw (.builtin "_operator.sub")) [p, q] [] (Rep (x * u + (0 - z * y)) (y * u) (k + l + 1)) none := by
  refine cl_op' opr_sub hd fun d hd => ?_
  rcases hp with ⟨n, rfl, e1, b1⟩ | ⟨n, m, rfl, N1, e1, b1, c1⟩ <;> rcases hq with ⟨i, rfl, e2, b2⟩ | ⟨i, j, rfl, N2, e2, b2, c2⟩
  · refine d2_sub (.inl ⟨_, rfl, by grind, ?_⟩)
    rw [Int.sub_eq_add_neg]; exact le_add2 (le_up b1 (Nat.le_add_right _ _)) (by rw [Int.natAbs_neg]; exact le_up b2 (Nat.le_add_left _ _))
  · refine op_binR O (D := 223) (fd := 150) (fr := 157) (id := "int.__sub__") (ro := some (.builtin "int.__rsub__")) (by kernel_rfl) (by kernel_rfl) (by kernel_rfl) (by kernel_rfl) (by kernel_rfl) (by kernel_rfl) (by kernel_rfl) (by kernel_rfl) PySem.F.slot_int_sub ⟨_, _, _, PySem.F.entry_int_sub, rfl⟩ PySem.F.args_int_sub_2 (rsub_int O N2 b2 c2 b1 (by omega) (by omega)) (by omega) ?_
    rintro _ rfl
    refine ⟨rep_qq (by have := N2.ne; omega) (by grind) ?_ (by rw [Int.mul_one]; exact le_up c2 (by omega)), rfl⟩
    rw [Int.mul_one]
    exact le_add2 (by rw [Int.natAbs_neg]; exact le_up b2 (by omega)) (le_mul2 b1 c2)
  · refine op_binI O (D := 223) (f := 150) (rc := some (.ref 157)) (fo := some (.builtin "int.__sub__")) (ro := some (.builtin "int.__rsub__")) (by kernel_rfl) (by kernel_rfl) (by kernel_rfl) (by kernel_rfl) (.inr ⟨_, rfl⟩) (by kernel_rfl) (by kernel_rfl) (by kernel_rfl) (sub_int O N1.ne b1 c1 b2 (by omega) (by omega)) (by omega) ?_
    rintro _ rfl
    refine ⟨rep_qq (by have := N1.ne; omega) (by grind) ?_ (by rw [Int.mul_one]; exact le_up c1 (by omega)), rfl⟩
    rw [Int.mul_one]
    exact le_add2 (le_up b1 (by omega)) (by rw [Int.mul_comm]; exact le_mul2 c1 (by rw [Int.natAbs_neg]; exact b2))
  · refine op_binS O (D := 223) (f := 150) (by kernel_rfl) (by kernel_rfl) (by kernel_rfl) (sub_q O N1.ne N2 b1 c1 b2 c2 (by omega) (by omega)) (by omega) ?_
    rintro _ rfl
    refine ⟨rep_qq (Int.mul_ne_zero N1.ne N2.ne) (by grind) ?_ (le_up (le_mul2 c1 c2) (by omega)), rfl⟩
    exact le_add2 (le_mul2 b1 c2) (by rw [Int.mul_comm]; exact le_mul2 c1 (by rw [Int.natAbs_neg]; exact b2))
theorem ap_mul (O : (GG w loose mean mg mb base).Ok) (hd : 110 ≤ d) (hy : y ≠ 0) (hu : u ≠ 0) (hp : Rep x y k p) (hq : Rep z u l q) (hk : k ≤ 50000) (hl : l ≤ 49000) : Cl (GG w loose mean mg mb base) F d own (.raw (.builtin "_operator.mul")) [p, q] [] (Rep (x * z) (y * u) (k + l + 1)) none := by
  refine cl_op' opr_mul hd fun d hd => ?_
  rcases hp with ⟨n, rfl, e1, b1⟩ | ⟨n, m, rfl, N1, e1, b1, c1⟩ <;> rcases hq with ⟨i, rfl, e2, b2⟩ | ⟨i, j, rfl, N2, e2, b2, c2⟩
  · exact op_mul (mul_ok b1 b2 (by omega) (by omega)) (.inl ⟨_, rfl, by grind, le_up (le_mul2 b1 b2) (by omega)⟩)
  · refine op_binR O (D := 223) (fd := 164) (fr := 164) (id := "int.__mul__") (ro := some (.builtin "int.__rmul__")) (by kernel_rfl) (by kernel_rfl) (by kernel_rfl) (by kernel_rfl) (by kernel_rfl) (by kernel_rfl) (by kernel_rfl) (by kernel_rfl) PySem.F.slot_int_mul ⟨_, _, _, PySem.F.entry_int_mul, rfl⟩ PySem.F.args_int_mul_2 (mul_int O N2.ne b2 c2 b1 (by omega) (by omega)) (by omega) ?_
    rintro _ rfl
    refine ⟨rep_qq (by have := N2.ne; omega) (by grind) (le_up (le_mul2 b2 b1) (by omega)) (by rw [Int.mul_one]; exact le_up c2 (by omega)), rfl⟩
  · refine op_binI O (D := 223) (f := 164) (rc := some (.ref 164)) (fo := some (.builtin "int.__mul__")) (ro := some (.builtin "int.__rmul__")) (by kernel_rfl) (by kernel_rfl) (by kernel_rfl) (by kernel_rfl) (.inr ⟨_, rfl⟩) (by kernel_rfl) (by kernel_rfl) (by kernel_rfl) (mul_int O N1.ne b1 c1 b2 (by omega) (by omega)) (by omega) ?_
    rintro _ rfl
    refine ⟨rep_qq (by have := N1.ne; omega) (by grind) (le_up (le_mul2 b1 b2) (by omega)) (by rw [Int.mul_one]; exact le_up c1 (by omega)), rfl⟩
  · refine op_binS O (D := 223) (f := 164) (by kernel_rfl) (by kernel_rfl) (by kernel_rfl) (mul_q O N1.ne N2 b1 c1 b2 c2 (by omega) (by omega)) (by omega) ?_
    rintro _ rfl
    exact ⟨rep_qq (Int.mul_ne_zero N1.ne N2.ne) (by grind) (le_up (le_mul2 b1 b2) (by omega)) (le_up (le_mul2 c1 c2) (by omega)), rfl⟩
theorem rep_nz (hu : u ≠ 0) {n m : Int} (hz : z ≠ 0) (e : n * u = z * m) (hm : m ≠ 0) : n ≠ 0 := by
  rintro rfl
  rw [Int.zero_mul] at e
  exact (Int.mul_ne_zero hz hm) e.symm
theorem ap_div (O : (GG w loose mean mg mb base).Ok) (hd : 110 ≤ d) (hy : y ≠ 0) (hu : u ≠ 0) (hz : z ≠ 0) (hp : Rep x y k p) (hq : Rep z u l q) (hk : k ≤ 50000) (hl : l ≤ 49000) : Cl (GG w loose mean mg mb base) F d own (.raw (.ref 304)) [p, q] [] (Rep (x * u) (y * z) (k + l + 1)) none := by
  rcases hp with ⟨n, rfl, e1, b1⟩ | ⟨n, m, rfl, N1, e1, b1, c1⟩ <;> rcases hq with ⟨i, rfl, e2, b2⟩ | ⟨i, j, rfl, N2, e2, b2, c2⟩
  · have h0 : i ≠ 0 := rep_nz hu hz (m := 1) (by rw [e2, Int.mul_one]) (by decide)
    refine cl_use0 (div_ii O b1 b2 h0 (by omega) (by omega)) (by omega) ?_
    rintro _ rfl
    exact rep_qq (by omega) (by grind) (by rw [Int.mul_one]; exact le_up b1 (by omega)) (by rw [Int.one_mul]; exact le_up b2 (by omega))
  · have h0 : i ≠ 0 := rep_nz hu hz e2 N2.ne
    refine cl_use0 (div_iq O b1 N2 h0 b2 c2 (by omega) (by omega)) (by omega) ?_
    rintro _ rfl
    exact rep_qq (by omega) (by grind) (le_up (le_mul2 b1 c2) (by omega)) (by rw [Int.one_mul]; exact le_up b2 (by omega))
  · have h0 : i ≠ 0 := rep_nz hu hz (m := 1) (by rw [e2, Int.mul_one]) (by decide)
    refine cl_use0 (div_qi O N1.ne b1 c1 b2 h0 (by omega) (by omega)) (by omega) ?_
    rintro _ rfl
    exact rep_qq (Int.mul_ne_zero N1.ne h0) (by grind) (by rw [Int.mul_one]; exact le_up b1 (by omega)) (le_up (le_mul2 c1 b2) (by omega))
  · have h0 : i ≠ 0 := rep_nz hu hz e2 N2.ne
    refine cl_use0 (div_qq O N1.ne b1 c1 N2 h0 b2 c2 (by omega) (by omega)) (by omega) ?_
    rintro _ rfl
    exact rep_qq (Int.mul_ne_zero N1.ne h0) (by grind) (le_up (le_mul2 b1 c2) (by omega)) (le_up (le_mul2 c1 b2) (by omega))
theorem ap_pow (O : (GG w loose mean mg mb base).Ok) (hd : 110 ≤ d) (hy : y ≠ 0) {e : Nat} (he : e ≤ 3) (hp : Rep x y k p) (hk : k ≤ 30000) : Cl (GG w loose mean mg mb base) F d own (.raw (.ref 297)) [p, .int (e : Int)] [] (Rep (x ^ e) (y ^ e) (3 * k)) none := by
  rcases hp with ⟨n, rfl, e1, b1⟩ | ⟨n, m, rfl, N1, e1, b1, c1⟩
  · refine cl_use0 (power_int O b1 (by omega) (i := (e : Int)) (by omega) (by omega)) (by omega) ?_
    rintro _ rfl
    rw [Int.toNat_natCast, Int.one_pow]
    refine rep_qq (by decide) ?_ (le_pow3 b1 he) (one_le _)
    rw [Int.mul_one, ← e1, Int.mul_pow]
  · refine cl_use0 (power_q O N1.ne b1 c1 (by omega) (i := (e : Int)) (by omega) (by omega)) (by omega) ?_
    rintro _ rfl
    rw [Int.toNat_natCast]
    refine rep_qq (Int.pow_ne_zero N1.ne) ?_ (le_pow3 b1 he) (le_pow3 c1 he)
    rw [← Int.mul_pow, ← Int.mul_pow, e1]
theorem ap_neg (O : (GG w loose mean mg mb base).Ok) (hd : 110 ≤ d) (hp : Rep x y k p) (hk : k ≤ 50000) : Cl (GG w loose mean mg mb base) F d own (.raw (.ref 318)) [p] [] (Rep (0 - x) y k) none := by
  rcases hp with ⟨n, rfl, e1, b1⟩ | ⟨n, m, rfl, N1, e1, b1, c1⟩
  · refine cl_use0 (minus_int O) (by omega) ?_
    rintro _ rfl
    refine .inl ⟨_, rfl, by grind, ?_⟩
    rw [Int.natAbs_mul]; simpa using b1
  · refine cl_use0 (minus_q O N1.ne b1 c1 (by omega)) (by omega) ?_
    rintro _ rfl
    refine rep_qq (by have := N1.ne; omega) (by grind) ?_ (by rw [Int.mul_one]; exact c1)
    rw [Int.natAbs_mul]; simpa using b1
end
end
end Mine

namespace Mine
open PySem PySem.W PySem.Calls PyProof.Rows
section
local macro_rules | `(tactic| walk_at "nm") => `(tactic| first | with_reducible exact nm_add | with_reducible exact nm_mul | with_reducible exact nm_pow_operator | with_reducible exact nm_sub | with_reducible exact nm_truediv | with_reducible exact nm_DefinitionSyntaxError | with_reducible exact nm_common_divisor | with_reducible exact nm_Quotient | with_reducible exact nm_whole | with_reducible exact nm_number_from_text | with_reducible exact nm_TokenInfo | with_reducible exact nm_end_of_figures | with_reducible exact nm_end_of_number | with_reducible exact nm_tokenizer | with_reducible exact nm__power | with_reducible exact nm__divided | with_reducible exact nm__plus | with_reducible exact nm__minus | with_reducible exact nm__UNARY_OPERATOR_MAP | with_reducible exact nm__BINARY_OPERATOR_MAP | with_reducible exact nm__OP_PRIORITY | with_reducible exact nm_EvalTreeNode | with_reducible exact nm__build_eval_tree | with_reducible exact nm_build_eval_tree | with_reducible exact nm__law_cell | with_reducible exact nm__law_tree | with_reducible exact nm__law_bind | with_reducible exact nm__law_is_bare | with_reducible exact nm__law_text | with_reducible exact nm__law_within | with_reducible exact nm__law_told | with_reducible exact nm__law_value | with_reducible exact nm__law_number | with_reducible exact nm__law_is_refused)
local macro_rules | `(tactic| walk_at "mem") => `(tactic| repeat (first | with_reducible exact LMem.head | with_reducible apply LMem.tail))
local macro_rules | `(tactic| walk_at "put") => `(tactic| first
  | with_reducible exact PutR.nil
  | ((with_reducible refine' PutR.pass ?pn ?pr); (case pn => decide); (case pr => walk_at "put"))
  | ((with_reducible refine' PutR.drop ?pr); (case pr => walk_at "put")))
local macro_rules | `(tactic| walk_at "sub") => `(tactic| repeat (first
  | with_reducible exact LSub.nil
  | ((with_reducible refine' LSub.cons ?lm ?_); (case lm => walk_at "mem"))))
local macro_rules | `(tactic| walk_at "go") => `(tactic| repeat (first
  | with_reducible refine' ev_int ?_
  | with_reducible refine' ev_str ?_
  | ((with_reducible refine' ev_var ?hm ?hl ?hd ?_); (case hm => walk_at "mem"); (case hl => rfl); (case hd => decide))
  | ((with_reducible refine' ev_built ?hO ?hv ?he ?hn ?hl ?hd ?_); (case hO => assumption); (case hv => boot_by_name); (case he => kernel_rfl); (case hn => decide); (case hl => rfl); (case hd => decide))
  | ((with_reducible refine' ev_topS ?hO ?he ?hl ?hd ?_); (case he => first | with_reducible exact nm_ENDMARKER | with_reducible exact nm_NAME | with_reducible exact nm_NUMBER | with_reducible exact nm_OP); (case hO => assumption); (case hl => rfl); (case hd => decide))
  | ((with_reducible refine' ev_topI ?hO ?he ?hl ?hd ?_); (case he => with_reducible exact nm__MAX_RECURSION_DEPTH); (case hO => assumption); (case hl => rfl); (case hd => decide))
  | ((with_reducible refine' ev_top ?hO ?he ?hl ?hd ?_); (case hO => assumption); (case he => walk_at "nm"); (case hl => rfl); (case hd => decide))
  | ((with_reducible refine' ev_cel ?hl ?hd ?hc ?hm ?_); (case hl => rfl); (case hd => decide); (case hc => exact rfl); (case hm => exact List.Mem.head _))
  | ((with_reducible refine' And.intro ?hk ?_); (case hk => first | with_reducible exact kp_bi | with_reducible exact kp_ty | ((with_reducible refine' kp_fn ?_); kernel_rfl)))
  | with_reducible refine' evs_nil ?_
  | ((with_reducible refine' evs_more ?he ?_); (case he => intro _; rfl))
  | with_reducible refine' ev_bin ?_
  | with_reducible refine' ev_tup ?_
  | with_reducible refine' ev_lst ?_
  | ((with_reducible refine' And.intro ?hk ?_); (case hk => size_fits))
  | ((with_reducible refine' ev_mcl0 ?hO ?he ?hp ?_); (case hO => assumption); (case he => intro _; exact ⟨_, rfl⟩); (case hp => rfl))
  | ((with_reducible refine' ev_cl0 ?hO ?he ?hp ?_); (case hO => assumption); (case he => intro _; rfl); (case hp => rfl))
  | with_reducible refine' ev_sub ?_
  | ((with_reducible refine' ev_compare ?hm ?_); (case hm => with_unfolding_all rfl))
  | with_reducible refine' ev_attr ?_
  | with_reducible refine' ev_none ?_
  | with_reducible refine' ev_bool ?_
  | with_reducible refine' ev_un ?_
  | with_reducible refine' ev_ife ?_
  | ((with_reducible refine' ev_mcl ?hO ?he ?hp ?hk ?_); (case hO => assumption); (case he => intro _; exact ⟨_, rfl⟩); (case hp => rfl); (case hk => rfl))
  | ((with_reducible refine' ev_cl ?hO ?he ?hp ?hk ?_); (case hO => assumption); (case he => intro _; rfl); (case hp => rfl); (case hk => rfl))
  | with_reducible refine' evk_nil ?_
  | with_reducible refine' evk_cons ?_
  | with_reducible refine' ex_ret ?_
  | ((with_reducible refine' ex_asg ?hl ?hs ?_); (case hl => rfl); (case hs => intro _; rfl))
  | ((with_reducible refine' ex_swap2 ?hs ?hw ?hx ?hy ?_); (case hs => intro _; rfl); (case hw => intro _; rfl); (case hx => rfl); (case hy => rfl))
  | ((with_reducible refine' ex_tup2 ?hs ?hw ?hx ?hy ?_); (case hs => intro _; rfl); (case hw => intro _; rfl); (case hx => rfl); (case hy => rfl))
  | ((with_reducible refine' ex_aug ?hm ?hl ?_); (case hm => walk_at "mem"); (case hl => rfl))
  | ((with_reducible refine' Exists.intro _ (And.intro (?hp : PutR _ _ _ _) ?_)); (case hp => walk_at "put"))
  | with_reducible refine' Exists.intro _ (Exists.intro _ (And.intro rfl ?_))
  | with_reducible refine' Exists.intro _ (And.intro rfl ?_)
  | with_reducible refine' ex_if ?_
  | with_reducible refine' ex_nil ?_
  | with_reducible refine' ex_cont ?_
  | with_reducible refine' ex_pass ?_
  | with_reducible refine' ex_assert ?_
  | with_reducible refine' sq_next ?_
  | with_reducible refine' sq_ret ?_
  | with_reducible refine' sq_brk ?_
  | with_reducible refine' sq_cont ?_
  | with_reducible refine' retp ?_
  | with_reducible refine' loop_ret ?_
  | with_reducible refine' loop_brk ?_
  | with_reducible refine' retn ?_
  | with_reducible refine' ts_not ?_
  | with_reducible refine' ts_andN ?_
  | with_reducible refine' ts_orN ?_
  | with_reducible refine' ts_and ?_
  | with_reducible refine' ts_or ?_
  | ((with_reducible refine' ts_compare ?hm ?_); (case hm => with_unfolding_all rfl))
  | ((with_reducible refine' ts_val ?_ ?he); (case he => intro _ _; rfl))
  | with_reducible refine' d2_add ?_
  | with_reducible refine' d2_sub ?_
  | with_reducible refine' d2_iadd ?_
  | with_reducible refine' d1_neg ?_
  | with_reducible refine' d2_lt ?_
  | with_reducible refine' d2_gt ?_
  | with_reducible refine' d2_le ?_
  | with_reducible refine' d2_ge ?_
  | with_reducible refine' d2_eq ?_
  | with_reducible refine' d2_ne ?_
  | with_reducible refine' d2_seq ?_
  | with_reducible refine' d2_sne ?_
  | with_reducible refine' tr_bool ?_
  | with_reducible refine' tr_none ?_
  | with_reducible refine' tr_int ?_
  | with_reducible refine' cl_abs ?_
  | with_reducible refine' cl_int ?_
  | ((with_reducible refine' op_fdiv ?hO ?hb ?hd ?hg ?hc ?hh ?_); (case hO => assumption); (case hb => decide); (case hd => decide); (case hg => rfl); (case hc => rfl); (case hh => rfl))
  | ((with_reducible refine' op_headNum ?hs ?_); (case hs => intro _ _; exact ⟨_, rfl⟩))
  | ((with_reducible refine' op_headNeg ?hs ?_); (case hs => intro _ _; exact ⟨_, rfl⟩))
  | ((with_reducible refine' op_headBin ?hs ?_); (case hs => intro _ _; exact ⟨_, rfl⟩))
  | ((with_reducible refine' op_head ?hs ?_); (case hs => intro _ _; exact ⟨_, rfl⟩))
  | ((with_reducible refine' op_num1 ?hs ?_); (case hs => intro _ _; exact ⟨_, rfl⟩))
  | ((with_reducible refine' op_neg1 ?hs ?_); (case hs => intro _ _; exact ⟨_, rfl⟩))
  | ((with_reducible refine' op_bin1 ?hs ?_); (case hs => intro _ _; exact ⟨_, rfl⟩))
  | ((with_reducible refine' op_bin2 ?hs ?_); (case hs => intro _ _; exact ⟨_, rfl⟩))
  | ((with_reducible refine' if_t ?hc ?_); (case hc => decide))
  | ((with_reducible refine' if_f ?hc ?_); (case hc => decide))
  | with_reducible refine' ev_slcTo ?_
  | ((with_reducible refine' tk_string ?hO ?_); (case hO => assumption))
  | ((with_reducible refine' tk_type ?hO ?_); (case hO => assumption))
  | ((with_reducible refine' nd_left ?hO ?_); (case hO => assumption))
  | ((with_reducible refine' nd_op ?hO ?_); (case hO => assumption))
  | ((with_reducible refine' nd_right ?hO ?_); (case hO => assumption))
  | ((with_reducible refine' tr_tok ?hO ?_); (case hO => assumption))
  | ((with_reducible refine' tr_node ?hO ?_); (case hO => assumption))
  | with_reducible refine' ev_slcFrom ?_
  | with_reducible refine' ev_slcBoth ?_
  ))
section
variable {w : World} {loose : List Str} {mean : ExcName → Option Value} {mg mb : Str → Option Value} {base : Heap}
/-! ## dicts of the top -/
theorem dict319 (O : (GG w loose mean mg mb base).Ok) : DictAt (GG w loose mean mg mb base) 319 [("+", .ref 311), ("-", .ref 318)] := by
  refine ⟨by decide, _, _, _, O.kin 319 _ (by rfl), ⟨rfl, rfl, rfl⟩, rfl, ?_, .cons (strKind_is _ _ _ _) rfl (.cons (strKind_is _ _ _ _) rfl .nil), by decide⟩
  intro e he
  simp only [List.mem_toArray, List.mem_cons, List.not_mem_nil, or_false] at he
  rcases he with rfl | rfl <;> exact ⟨_, strKind_is _ _ _ _, rfl⟩
theorem dict320 (O : (GG w loose mean mg mb base).Ok) : DictAt (GG w loose mean mg mb base) 320 [("**", .ref 297), ("*", .builtin "_operator.mul"), ("", .builtin "_operator.mul"), ("/", .ref 304), ("+", .builtin "_operator.add"), ("-", .builtin "_operator.sub")] := by
  refine ⟨by decide, _, _, _, O.kin 320 _ (by rfl), ⟨rfl, rfl, rfl⟩, rfl, ?_, .cons (strKind_is _ _ _ _) rfl (.cons (strKind_is _ _ _ _) rfl (.cons (strKind_is _ _ _ _) rfl (.cons (strKind_is _ _ _ _) rfl (.cons (strKind_is _ _ _ _) rfl (.cons (strKind_is _ _ _ _) rfl .nil))))), by decide⟩
  intro e he
  simp only [List.mem_toArray, List.mem_cons, List.not_mem_nil, or_false] at he
  rcases he with rfl | rfl | rfl | rfl | rfl | rfl <;> exact ⟨_, strKind_is _ _ _ _, rfl⟩
theorem dict321 (O : (GG w loose mean mg mb base).Ok) : DictAt (GG w loose mean mg mb base) 321 [("+/-", .int 4 730), ("**", .int 3 732), ("^", .int 3 734), ("unary", .int 2 736), ("*", .int 1 738), ("", .int 1 740), ("//", .int 1 742), ("/", .int 1 744), ("%", .int 1 746), ("+", .int 0 748), ("-", .int 0 750)] := by
  refine ⟨by decide, _, _, _, O.kin 321 _ (by rfl), ⟨rfl, rfl, rfl⟩, rfl, ?_, .cons (strKind_is _ _ _ _) rfl (.cons (strKind_is _ _ _ _) rfl (.cons (strKind_is _ _ _ _) rfl (.cons (strKind_is _ _ _ _) rfl (.cons (strKind_is _ _ _ _) rfl (.cons (strKind_is _ _ _ _) rfl (.cons (strKind_is _ _ _ _) rfl (.cons (strKind_is _ _ _ _) rfl (.cons (strKind_is _ _ _ _) rfl (.cons (strKind_is _ _ _ _) rfl (.cons (strKind_is _ _ _ _) rfl .nil)))))))))), by decide⟩
  intro e he
  simp only [List.mem_toArray, List.mem_cons, List.not_mem_nil, or_false] at he
  rcases he with rfl | rfl | rfl | rfl | rfl | rfl | rfl | rfl | rfl | rfl | rfl <;> exact ⟨_, strKind_is _ _ _ _, rfl⟩
/-! ## the tree of the parser -/
def Op.sign : Op → Str
  | .add => "+"
  | .sub => "-"
  | .mul => "*"
  | .div => "/"
  | .jux => "*"
  | .pow => "**"
def opTok (t : T) (o : Op) : PV := if t.bare = true then .none else tokPV "OP" o.sign
def T.node : T → PV
  | .num k => nodePV (tokPV "NUMBER" (dg k)) .none .none
  | .neg a => nodePV a.node (tokPV "OP" "-") .none
  | .bin o a b => nodePV a.node (opTok (.bin o a b) o) b.node
theorem T.node_eq : ∀ t : T, ∃ l o r, t.node = nodePV l o r
  | .num k => ⟨_, _, _, rfl⟩
  | .neg a => ⟨_, _, _, rfl⟩
  | .bin o a b => ⟨_, _, _, rfl⟩
theorem ev_orTop {G : Glb} {F : FnLit} {d : Nat} {own : List (Addr × Obj)} {σ : List (Str × PV)} {R : PV → Prop} {X : Option Value} {a : Addr} {kvs : List (Str × Value)} {x y : Str} {px py pos : Pos} {p : PV} (O : G.Ok) (D : DictAt G a kvs) (hz : kvs.length < 2 ^ 62) (hne : kvs.isEmpty = false)
    (hp : p = .none ∨ p = .raw (.ref a)) (hm : LMem σ x p) (hl : F.scope.names.lookup x = some .local) (hd : (x == ("__debug__" : Str)) = false) (hy : nsIn G.K mainGlobals y = some (some (.ref a))) (hyl : F.scope.names.lookup y = some .globalImplicit) (hyd : (y == ("__debug__" : Str)) = false)
    (h : R (.raw (.ref a))) : Ev G F d own σ (.BoolOp .Or [.Name x px, .Name y py] pos) R X := by
  refine ev_or (ev_var hm hl hd ?_)
  rcases hp with rfl | rfl
  · refine tr_none ?_
    exact ev_one (ev_top O hy hyl hyd h)
  · refine tr_D D hz ?_
    rw [hne]
    exact h
abbrev k320 : List (Str × Value) := [("**", .ref 297), ("*", .builtin "_operator.mul"), ("", .builtin "_operator.mul"), ("/", .ref 304), ("+", .builtin "_operator.add"), ("-", .builtin "_operator.sub")]
theorem eval_num (O : (GG w loose mean mg mb base).Ok) {k : Nat} (hk : k ≤ 9) {d : Nat} {pb pu : PV} (h1 : pb = .none ∨ pb = .raw (.ref 320)) (h2 : pu = .none ∨ pu = .raw (.ref 319)) {as : List PV}
    (hb : Bnds (GG w loose mean mg mb base) (fdAt (GG w loose mean mg mb base).K 351) as [] [("self", nodePV (tokPV "NUMBER" (dg k)) .none .none), ("define_op", .raw (.ref 433)), ("bin_op", pb), ("un_op", pu)]) :
    Fn (GG w loose mean mg mb base) (d + 4) (.ref 351) as [] (fun p => p = .int (k : Int)) none := by
  refine fn_intro O (d := d + 3) (by rfl) (by kernel_rfl) hb ?_ (by rfl) (of_decide_eq_true (by kernel_rfl)) (by rfl) rfl rfl rfl
  walk_at "go"
  refine ev_orTop O (dict320 O) (by decide) rfl h1 (by walk_at "mem") rfl (by decide) nm__BINARY_OPERATOR_MAP rfl (by decide) ?_
  walk_at "go"
  refine ev_orTop O (dict319 O) (by decide) rfl h2 (by walk_at "mem") rfl (by decide) nm__UNARY_OPERATOR_MAP rfl (by decide) ?_
  walk_at "go"
  refine cl_use0 (number_spec O hk (d := 0)) (by omega) ?_
  rintro _ rfl
  walk_at "go"
  rfl
theorem mt_eval (O : (GG w loose mean mg mb base).Ok) {F : FnLit} {d : Nat} {own : List (Addr × Obj)} {X : Option Value} {l o r : PV} {Rm : PV → List PV → Prop} (h : Rm (.raw (.ref 351)) [nodePV l o r]) : Mt (GG w loose mean mg mb base) F d own "evaluate" (nodePV l o r) Rm X :=
  mt_inst O rfl h (by kernel_rfl) (by kernel_rfl) (by kernel_rfl)
theorem eval_neg (O : (GG w loose mean mg mb base).Ok) {d : Nat} {pb pu : PV} (h1 : pb = .none ∨ pb = .raw (.ref 320)) (h2 : pu = .none ∨ pu = .raw (.ref 319)) {as : List PV} {l1 o1 r1 : PV} {Ra R : PV → Prop} (hd : 110 ≤ d)
    (ih : Fn (GG w loose mean mg mb base) d (.ref 351) [nodePV l1 o1 r1, .raw (.ref 433), .raw (.ref 320), .raw (.ref 319)] [] Ra none)
    (ap : ∀ p, Ra p → ∀ F own, Cl (GG w loose mean mg mb base) F d own (.raw (.ref 318)) [p] [] R none)
    (hb : Bnds (GG w loose mean mg mb base) (fdAt (GG w loose mean mg mb base).K 351) as [] [("self", nodePV (nodePV l1 o1 r1) (tokPV "OP" "-") .none), ("define_op", .raw (.ref 433)), ("bin_op", pb), ("un_op", pu)]) :
    Fn (GG w loose mean mg mb base) (d + 1) (.ref 351) as [] R none := by
  refine fn_intro O (d := d) (by rfl) (by kernel_rfl) hb ?_ (by rfl) (of_decide_eq_true (by kernel_rfl)) (by rfl) rfl rfl rfl
  walk_at "go"
  refine ev_orTop O (dict320 O) (by decide) rfl h1 (by walk_at "mem") rfl (by decide) nm__BINARY_OPERATOR_MAP rfl (by decide) ?_
  walk_at "go"
  refine ev_orTop O (dict319 O) (by decide) rfl h2 (by walk_at "mem") rfl (by decide) nm__UNARY_OPERATOR_MAP rfl (by decide) ?_
  walk_at "go"
  refine op_isiInst O plain_N (b := true) (by kernel_rfl) ?_
  walk_at "go"
  try refine ⟨rfl, ?_⟩
  walk_at "go"
  refine op_ninD (dict319 O) ?_
  walk_at "go"
  refine op_itemD (dict319 O) (fun _ => by with_unfolding_all rfl) (fun _ => by with_unfolding_all rfl) (u := .ref 318) rfl (fun _ => .raw _) ?_
  walk_at "go"
  refine mt_eval O ?_
  walk_at "go"
  refine cl_use0 ih (Nat.le_refl _) ?_
  intro p hp
  walk_at "go"
  exact ap p hp _ _
theorem eval_bin (O : (GG w loose mean mg mb base).Ok) {d : Nat} {pb pu : PV} (h1 : pb = .none ∨ pb = .raw (.ref 320)) (h2 : pu = .none ∨ pu = .raw (.ref 319)) {as : List PV} {l1 o1 r1 l2 o2 r2 ot : PV} {x : Str} {f : Value} {Ra Rb R : PV → Prop} (hd : 110 ≤ d)
    (hx : (ot = .none ∧ x = "") ∨ ot = tokPV "OP" x) (hv : valueAt k320 x = some f) (kp : Kp (GG w loose mean mg mb base) (.raw f))
    (iha : Fn (GG w loose mean mg mb base) d (.ref 351) [nodePV l1 o1 r1, .raw (.ref 433), .raw (.ref 320), .raw (.ref 319)] [] Ra none)
    (ihb : Fn (GG w loose mean mg mb base) d (.ref 351) [nodePV l2 o2 r2, .raw (.ref 433), .raw (.ref 320), .raw (.ref 319)] [] Rb none)
    (ap : ∀ p q, Ra p → Rb q → ∀ F own, Cl (GG w loose mean mg mb base) F d own (.raw f) [p, q] [] R none)
    (hb : Bnds (GG w loose mean mg mb base) (fdAt (GG w loose mean mg mb base).K 351) as [] [("self", nodePV (nodePV l1 o1 r1) ot (nodePV l2 o2 r2)), ("define_op", .raw (.ref 433)), ("bin_op", pb), ("un_op", pu)]) :
    Fn (GG w loose mean mg mb base) (d + 1) (.ref 351) as [] R none := by
  refine fn_intro O (d := d) (by rfl) (by kernel_rfl) hb ?_ (by rfl) (of_decide_eq_true (by kernel_rfl)) (by rfl) rfl rfl rfl
  walk_at "go"
  refine ev_orTop O (dict320 O) (by decide) rfl h1 (by walk_at "mem") rfl (by decide) nm__BINARY_OPERATOR_MAP rfl (by decide) ?_
  walk_at "go"
  refine ev_orTop O (dict319 O) (by decide) rfl h2 (by walk_at "mem") rfl (by decide) nm__UNARY_OPERATOR_MAP rfl (by decide) ?_
  walk_at "go"
  refine op_isiInst O plain_N (b := true) (by kernel_rfl) ?_
  walk_at "go"
  try refine ⟨rfl, ?_⟩
  walk_at "go"
  have hs : (valueAt k320 x).isSome = true := by rw [hv]; rfl
  rcases hx with ⟨rfl, rfl⟩ | rfl
  all_goals
    walk_at "go"
    refine op_ninD (dict320 O) ?_
    rw [hs]
    walk_at "go"
    refine op_itemD (dict320 O) (fun _ => by with_unfolding_all rfl) (fun _ => by with_unfolding_all rfl) hv (fun _ => .raw _) ?_
    refine ⟨kp, ?_⟩
    walk_at "go"
    refine mt_eval O ?_
    walk_at "go"
    refine cl_use0 iha (Nat.le_refl _) ?_
    intro p hp
    walk_at "go"
    refine mt_eval O ?_
    walk_at "go"
    refine cl_use0 ihb (Nat.le_refl _) ?_
    intro q hq
    walk_at "go"
    exact ap p q hp hq _ _
end
end
end Mine

namespace Mine
open PySem PySem.W PySem.Calls PyProof.Rows
section
local macro_rules | `(tactic| walk_at "nm") => `(tactic| first | with_reducible exact nm_add | with_reducible exact nm_mul | with_reducible exact nm_pow_operator | with_reducible exact nm_sub | with_reducible exact nm_truediv | with_reducible exact nm_DefinitionSyntaxError | with_reducible exact nm_common_divisor | with_reducible exact nm_Quotient | with_reducible exact nm_whole | with_reducible exact nm_number_from_text | with_reducible exact nm_TokenInfo | with_reducible exact nm_end_of_figures | with_reducible exact nm_end_of_number | with_reducible exact nm_tokenizer | with_reducible exact nm__power | with_reducible exact nm__divided | with_reducible exact nm__plus | with_reducible exact nm__minus | with_reducible exact nm__UNARY_OPERATOR_MAP | with_reducible exact nm__BINARY_OPERATOR_MAP | with_reducible exact nm__OP_PRIORITY | with_reducible exact nm_EvalTreeNode | with_reducible exact nm__build_eval_tree | with_reducible exact nm_build_eval_tree | with_reducible exact nm__law_cell | with_reducible exact nm__law_tree | with_reducible exact nm__law_bind | with_reducible exact nm__law_is_bare | with_reducible exact nm__law_text | with_reducible exact nm__law_within | with_reducible exact nm__law_told | with_reducible exact nm__law_value | with_reducible exact nm__law_number | with_reducible exact nm__law_is_refused)
local macro_rules | `(tactic| walk_at "mem") => `(tactic| repeat (first | with_reducible exact LMem.head | with_reducible apply LMem.tail))
local macro_rules | `(tactic| walk_at "put") => `(tactic| first
  | with_reducible exact PutR.nil
  | ((with_reducible refine' PutR.pass ?pn ?pr); (case pn => decide); (case pr => walk_at "put"))
  | ((with_reducible refine' PutR.drop ?pr); (case pr => walk_at "put")))
local macro_rules | `(tactic| walk_at "sub") => `(tactic| repeat (first
  | with_reducible exact LSub.nil
  | ((with_reducible refine' LSub.cons ?lm ?_); (case lm => walk_at "mem"))))
local macro_rules | `(tactic| walk_at "go") => `(tactic| repeat (first
  | with_reducible refine' ev_int ?_
  | with_reducible refine' ev_str ?_
  | ((with_reducible refine' ev_var ?hm ?hl ?hd ?_); (case hm => walk_at "mem"); (case hl => rfl); (case hd => decide))
  | ((with_reducible refine' ev_built ?hO ?hv ?he ?hn ?hl ?hd ?_); (case hO => assumption); (case hv => boot_by_name); (case he => kernel_rfl); (case hn => decide); (case hl => rfl); (case hd => decide))
  | ((with_reducible refine' ev_topS ?hO ?he ?hl ?hd ?_); (case he => first | with_reducible exact nm_ENDMARKER | with_reducible exact nm_NAME | with_reducible exact nm_NUMBER | with_reducible exact nm_OP); (case hO => assumption); (case hl => rfl); (case hd => decide))
  | ((with_reducible refine' ev_topI ?hO ?he ?hl ?hd ?_); (case he => with_reducible exact nm__MAX_RECURSION_DEPTH); (case hO => assumption); (case hl => rfl); (case hd => decide))
  | ((with_reducible refine' ev_top ?hO ?he ?hl ?hd ?_); (case hO => assumption); (case he => walk_at "nm"); (case hl => rfl); (case hd => decide))
  | ((with_reducible refine' ev_cel ?hl ?hd ?hc ?hm ?_); (case hl => rfl); (case hd => decide); (case hc => exact rfl); (case hm => exact List.Mem.head _))
  | ((with_reducible refine' And.intro ?hk ?_); (case hk => first | with_reducible exact kp_bi | with_reducible exact kp_ty | ((with_reducible refine' kp_fn ?_); kernel_rfl)))
  | with_reducible refine' evs_nil ?_
  | ((with_reducible refine' evs_more ?he ?_); (case he => intro _; rfl))
  | with_reducible refine' ev_bin ?_
  | with_reducible refine' ev_tup ?_
  | with_reducible refine' ev_lst ?_
  | ((with_reducible refine' And.intro ?hk ?_); (case hk => size_fits))
  | ((with_reducible refine' ev_mcl0 ?hO ?he ?hp ?_); (case hO => assumption); (case he => intro _; exact ⟨_, rfl⟩); (case hp => rfl))
  | ((with_reducible refine' ev_cl0 ?hO ?he ?hp ?_); (case hO => assumption); (case he => intro _; rfl); (case hp => rfl))
  | with_reducible refine' ev_sub ?_
  | ((with_reducible refine' ev_compare ?hm ?_); (case hm => with_unfolding_all rfl))
  | with_reducible refine' ev_attr ?_
  | with_reducible refine' ev_none ?_
  | with_reducible refine' ev_bool ?_
  | with_reducible refine' ev_un ?_
  | with_reducible refine' ev_ife ?_
  | ((with_reducible refine' ev_mcl ?hO ?he ?hp ?hk ?_); (case hO => assumption); (case he => intro _; exact ⟨_, rfl⟩); (case hp => rfl); (case hk => rfl))
  | ((with_reducible refine' ev_cl ?hO ?he ?hp ?hk ?_); (case hO => assumption); (case he => intro _; rfl); (case hp => rfl); (case hk => rfl))
  | with_reducible refine' evk_nil ?_
  | with_reducible refine' evk_cons ?_
  | with_reducible refine' ex_ret ?_
  | ((with_reducible refine' ex_asg ?hl ?hs ?_); (case hl => rfl); (case hs => intro _; rfl))
  | ((with_reducible refine' ex_swap2 ?hs ?hw ?hx ?hy ?_); (case hs => intro _; rfl); (case hw => intro _; rfl); (case hx => rfl); (case hy => rfl))
  | ((with_reducible refine' ex_tup2 ?hs ?hw ?hx ?hy ?_); (case hs => intro _; rfl); (case hw => intro _; rfl); (case hx => rfl); (case hy => rfl))
  | ((with_reducible refine' ex_aug ?hm ?hl ?_); (case hm => walk_at "mem"); (case hl => rfl))
  | ((with_reducible refine' Exists.intro _ (And.intro (?hp : PutR _ _ _ _) ?_)); (case hp => walk_at "put"))
  | with_reducible refine' Exists.intro _ (Exists.intro _ (And.intro rfl ?_))
  | with_reducible refine' Exists.intro _ (And.intro rfl ?_)
  | with_reducible refine' ex_if ?_
  | with_reducible refine' ex_nil ?_
  | with_reducible refine' ex_cont ?_
  | with_reducible refine' ex_pass ?_
  | with_reducible refine' ex_assert ?_
  | with_reducible refine' sq_next ?_
  | with_reducible refine' sq_ret ?_
  | with_reducible refine' sq_brk ?_
  | with_reducible refine' sq_cont ?_
  | with_reducible refine' retp ?_
  | with_reducible refine' loop_ret ?_
  | with_reducible refine' loop_brk ?_
  | with_reducible refine' retn ?_
  | with_reducible refine' ts_not ?_
  | with_reducible refine' ts_andN ?_
  | with_reducible refine' ts_orN ?_
  | with_reducible refine' ts_and ?_
  | with_reducible refine' ts_or ?_
  | ((with_reducible refine' ts_compare ?hm ?_); (case hm => with_unfolding_all rfl))
  | ((with_reducible refine' ts_val ?_ ?he); (case he => intro _ _; rfl))
  | with_reducible refine' d2_add ?_
  | with_reducible refine' d2_sub ?_
  | with_reducible refine' d2_iadd ?_
  | with_reducible refine' d1_neg ?_
  | with_reducible refine' d2_lt ?_
  | with_reducible refine' d2_gt ?_
  | with_reducible refine' d2_le ?_
  | with_reducible refine' d2_ge ?_
  | with_reducible refine' d2_eq ?_
  | with_reducible refine' d2_ne ?_
  | with_reducible refine' d2_seq ?_
  | with_reducible refine' d2_sne ?_
  | with_reducible refine' tr_bool ?_
  | with_reducible refine' tr_none ?_
  | with_reducible refine' tr_int ?_
  | with_reducible refine' cl_abs ?_
  | with_reducible refine' cl_int ?_
  | ((with_reducible refine' op_fdiv ?hO ?hb ?hd ?hg ?hc ?hh ?_); (case hO => assumption); (case hb => decide); (case hd => decide); (case hg => rfl); (case hc => rfl); (case hh => rfl))
  | ((with_reducible refine' op_headNum ?hs ?_); (case hs => intro _ _; exact ⟨_, rfl⟩))
  | ((with_reducible refine' op_headNeg ?hs ?_); (case hs => intro _ _; exact ⟨_, rfl⟩))
  | ((with_reducible refine' op_headBin ?hs ?_); (case hs => intro _ _; exact ⟨_, rfl⟩))
  | ((with_reducible refine' op_head ?hs ?_); (case hs => intro _ _; exact ⟨_, rfl⟩))
  | ((with_reducible refine' op_num1 ?hs ?_); (case hs => intro _ _; exact ⟨_, rfl⟩))
  | ((with_reducible refine' op_neg1 ?hs ?_); (case hs => intro _ _; exact ⟨_, rfl⟩))
  | ((with_reducible refine' op_bin1 ?hs ?_); (case hs => intro _ _; exact ⟨_, rfl⟩))
  | ((with_reducible refine' op_bin2 ?hs ?_); (case hs => intro _ _; exact ⟨_, rfl⟩))
  | ((with_reducible refine' if_t ?hc ?_); (case hc => decide))
  | ((with_reducible refine' if_f ?hc ?_); (case hc => decide))
  | with_reducible refine' ev_slcTo ?_
  | ((with_reducible refine' tk_string ?hO ?_); (case hO => assumption))
  | ((with_reducible refine' tk_type ?hO ?_); (case hO => assumption))
  | ((with_reducible refine' nd_left ?hO ?_); (case hO => assumption))
  | ((with_reducible refine' nd_op ?hO ?_); (case hO => assumption))
  | ((with_reducible refine' nd_right ?hO ?_); (case hO => assumption))
  | ((with_reducible refine' tr_tok ?hO ?_); (case hO => assumption))
  | ((with_reducible refine' tr_node ?hO ?_); (case hO => assumption))
  | with_reducible refine' ev_slcFrom ?_
  | with_reducible refine' ev_slcBoth ?_
  ))
section
variable {w : World} {loose : List Str} {mean : ExcName → Option Value} {mg mb : Str → Option Value} {base : Heap}
theorem fdAt_eq {K : Frag} {f : Addr} {oc : Value} {od : Option Addr} {fd : FuncData} {osl : Array (Option Value)} (h : K.lookup f = some ⟨oc, od, .func fd, osl⟩) : fdAt K f = fd := by unfold fdAt; rw [h]
theorem ev_bnds4 {p q t r : PV} : Bnds (GG w loose mean mg mb base) (fdAt (GG w loose mean mg mb base).K 351) [p, q, t, r] [] [("self", p), ("define_op", q), ("bin_op", t), ("un_op", r)] := by
  rw [fdAt_eq (K := (GG w loose mean mg mb base).K) (f := 351) (by rfl)]
  intro s Z vs kvs X rv hk rk
  obtain rfl := kv0 hk
  cases rv with | cons a b =>
  cases b with | cons b c =>
  cases c with | cons c e =>
  cases e with | cons e f =>
  cases f
  exact ⟨[("self", _), ("define_op", _), ("bin_op", _), ("un_op", _)], binds_K X rfl rfl rfl rfl rfl, .cons a (.cons b (.cons c (.cons e .nil)))⟩
theorem ev_bnds2 {p q : PV} : Bnds (GG w loose mean mg mb base) (fdAt (GG w loose mean mg mb base).K 351) [p, q] [] [("self", p), ("define_op", q), ("bin_op", .none), ("un_op", .none)] := by
  rw [fdAt_eq (K := (GG w loose mean mg mb base).K) (f := 351) (by rfl)]
  intro s Z vs kvs X rv hk rk
  obtain rfl := kv0 hk
  cases rv with | cons a b =>
  cases b with | cons b c =>
  cases c
  exact ⟨[("self", _), ("define_op", _), ("bin_op", .none), ("un_op", .none)], binds_K X rfl rfl rfl rfl rfl, .cons a (.cons b (.cons .none (.cons .none .nil)))⟩
theorem kp_opv (o : Op) : Kp (GG w loose mean mg mb base) (.raw (opv o)) := by
  cases o
  · exact kp_bi
  · exact kp_bi
  · exact kp_bi
  · exact kp_fn (by kernel_rfl)
  · exact kp_bi
  · exact kp_fn (by kernel_rfl)
theorem opv_at (o : Op) : valueAt k320 o.sign = some (opv o) := by cases o <;> decide
theorem bin_B (o : Op) (a b : T) (h : o ≠ .pow) : (T.bin o a b).B = a.B + b.B + 1 := by cases o <;> first | rfl | exact absurd rfl h
theorem ap_all (O : (GG w loose mean mg mb base).Ok) {F : FnLit} {d : Nat} {own : List (Addr × Obj)} {x y z u v t : Int} {a b : T} {p q : PV} (o : Op) (hd : 110 ≤ d) (hy : y ≠ 0) (hu : u ≠ 0) (hp : Rep x y a.B p) (hq : Rep z u b.B q) (hk : a.B ≤ 5000) (hl : b.B ≤ 5000)
    (hpow : o = .pow → ∃ e : Nat, e ≤ 3 ∧ q = .int (e : Int) ∧ z = (e : Int)) (hc : comb o x y z u = some (v, t)) : Cl (GG w loose mean mg mb base) F d own (.raw (opv o)) [p, q] [] (Rep v t (T.bin o a b).B) none := by
  cases o
  · cases hc; exact ap_add O hd hy hu hp hq (by omega) (by omega)
  · cases hc; exact ap_sub O hd hy hu hp hq (by omega) (by omega)
  · cases hc; exact ap_mul O hd hy hu hp hq (by omega) (by omega)
  · simp only [comb] at hc
    split at hc
    · rename_i hz
      cases hc
      exact ap_div O hd hy hu hz hp hq (by omega) (by omega)
    · cases hc
  · cases hc; exact ap_mul O hd hy hu hp hq (by omega) (by omega)
  · obtain ⟨e, he, rfl, rfl⟩ := hpow rfl
    cases hc
    exact ap_pow O hd hy he hp (by omega)
theorem eval_go (O : (GG w loose mean mg mb base).Ok) : ∀ t : T, t.wf → t.leaves ≤ 7 → ∀ x y, t.value = some (x, y) → ∀ (pb pu : PV) (as : List PV), (pb = .none ∨ pb = .raw (.ref 320)) → (pu = .none ∨ pu = .raw (.ref 319)) →
    Bnds (GG w loose mean mg mb base) (fdAt (GG w loose mean mg mb base).K 351) as [] [("self", t.node), ("define_op", .raw (.ref 433)), ("bin_op", pb), ("un_op", pu)] →
    Fn (GG w loose mean mg mb base) (t.size + 120) (.ref 351) as [] (fun p => Rep x y t.B p ∧ ∀ k, t = .num k → p = .int (k : Int)) none
  | .num k, hw, hl, x, y, hv, pb, pu, as, h1, h2, hb => by
    refine (Fn.mono (eval_num O (d := 0) hw h1 h2 hb) ?_).up (by omega)
    rintro _ rfl
    cases hv
    have hk : k ≤ 9 := hw
    refine ⟨.inl ⟨_, rfl, by omega, ?_⟩, fun j hj => by cases hj; rfl⟩
    show (k : Int).natAbs ≤ 16
    omega
  | .neg a, hw, hl, x, y, hv, pb, pu, as, h1, h2, hb => by
    rw [T.value] at hv
    cases e : a.value with
    | none => rw [e] at hv; cases hv
    | some pr =>
      obtain ⟨p, q⟩ := pr
      rw [e] at hv
      cases hv
      have ih := eval_go O a hw hl p y e (.raw (.ref 320)) (.raw (.ref 319)) _ (.inr rfl) (.inr rfl) ev_bnds4
      obtain ⟨l1, o1, r1, en⟩ := a.node_eq
      have Ba : a.B ≤ 5000 := a.B_small hw hl
      refine (Fn.mono (eval_neg O (d := a.size + 120) (l1 := l1) (o1 := o1) (r1 := r1) (Ra := Rep p y a.B) (R := Rep (0 - p) y a.B) h1 h2 (by omega) (by rw [← en]; exact ih.mono fun _ h => h.1) (fun p' hp' F own => ap_neg O (by omega) hp' (by omega)) (by rw [← en]; exact hb)) ?_).up (by show a.size + 120 + 1 ≤ a.size + 1 + 120; omega)
      intro r hr
      exact ⟨hr, fun k hk => by cases hk⟩
  | .bin o a b, hw, hl, x, y, hv, pb, pu, as, h1, h2, hb => by
    rw [T.value] at hv
    have hl' : a.leaves + b.leaves ≤ 7 := hl
    cases e : a.value with
    | none => rw [e] at hv; cases hv
    | some pr =>
      cases e' : b.value with
      | none => rw [e, e'] at hv; cases hv
      | some pr' =>
        obtain ⟨p, q⟩ := pr
        obtain ⟨r, s⟩ := pr'
        rw [e, e'] at hv
        have wa := T.wf_a hw
        have wb := T.wf_b hw
        have iha := eval_go O a wa (by omega) p q e (.raw (.ref 320)) (.raw (.ref 319)) _ (.inr rfl) (.inr rfl) ev_bnds4
        have ihb := eval_go O b wb (by omega) r s e' (.raw (.ref 320)) (.raw (.ref 319)) _ (.inr rfl) (.inr rfl) ev_bnds4
        obtain ⟨l1, o1, r1, en⟩ := a.node_eq
        obtain ⟨l2, o2, r2, en'⟩ := b.node_eq
        have Ba : a.B ≤ 5000 := a.B_small wa (by omega)
        have Bb : b.B ≤ 5000 := b.B_small wb (by omega)
        obtain ⟨_, _, y0⟩ := a.value_le wa e
        obtain ⟨_, _, u0⟩ := b.value_le wb e'
        have hx : ∃ x, ((opTok (.bin o a b) o = .none ∧ x = ("" : Str)) ∨ opTok (.bin o a b) o = tokPV "OP" x) ∧ valueAt k320 x = some (opv o) := by
          unfold opTok
          by_cases hbare : (T.bin o a b).bare = true
          · rw [if_pos hbare]
            refine ⟨"", .inl ⟨rfl, rfl⟩, ?_⟩
            cases o <;> first | rfl | cases hbare
          · rw [if_neg hbare]
            exact ⟨o.sign, .inr rfl, opv_at o⟩
        obtain ⟨sx, hx, hxv⟩ := hx
        refine (Fn.mono (eval_bin O (d := a.size + b.size + 120) (l1 := l1) (o1 := o1) (r1 := r1) (l2 := l2) (o2 := o2) (r2 := r2) (Ra := fun p' => Rep p q a.B p' ∧ ∀ k, a = .num k → p' = .int (k : Int)) (Rb := fun p' => Rep r s b.B p' ∧ ∀ k, b = .num k → p' = .int (k : Int)) (R := Rep x y (T.bin o a b).B) h1 h2 (by omega) hx hxv (kp_opv o) (by rw [← en]; exact iha.up (by omega)) (by rw [← en']; exact ihb.up (by omega))
          (fun p' q' hp hq F own => ap_all O o (by omega) y0 u0 hp.1 hq.1 Ba Bb (fun ho => ?_) hv) (by rw [← en, ← en']; exact hb)) ?_).up (by show _ ≤ a.size + b.size + 1 + 120; omega)
        · subst ho
          obtain ⟨_, n, hn, rfl⟩ := hw
          cases e'
          exact ⟨n, hn, hq.2 n rfl, rfl⟩
        · intro rr hr
          exact ⟨hr, fun k hk => by cases hk⟩
theorem eval_spec (O : (GG w loose mean mg mb base).Ok) (t : T) (hw : t.wf) (hl : t.leaves ≤ 7) (x y : Int) (hv : t.value = some (x, y)) : Fn (GG w loose mean mg mb base) (t.size + 120) (.ref 351) [t.node, .raw (.ref 433)] [] (Rep x y t.B) none := by
  exact (eval_go O t hw hl x y hv .none .none _ (.inl rfl) (.inl rfl) ev_bnds2).mono fun _ h => h.1
end
end
end Mine

namespace Mine
open PySem PySem.W PySem.Calls PyProof.Rows
section
local macro_rules | `(tactic| walk_at "nm") => `(tactic| first | with_reducible exact nm_add | with_reducible exact nm_mul | with_reducible exact nm_pow_operator | with_reducible exact nm_sub | with_reducible exact nm_truediv | with_reducible exact nm_DefinitionSyntaxError | with_reducible exact nm_common_divisor | with_reducible exact nm_Quotient | with_reducible exact nm_whole | with_reducible exact nm_number_from_text | with_reducible exact nm_TokenInfo | with_reducible exact nm_end_of_figures | with_reducible exact nm_end_of_number | with_reducible exact nm_tokenizer | with_reducible exact nm__power | with_reducible exact nm__divided | with_reducible exact nm__plus | with_reducible exact nm__minus | with_reducible exact nm__UNARY_OPERATOR_MAP | with_reducible exact nm__BINARY_OPERATOR_MAP | with_reducible exact nm__OP_PRIORITY | with_reducible exact nm_EvalTreeNode | with_reducible exact nm__build_eval_tree | with_reducible exact nm_build_eval_tree | with_reducible exact nm__law_cell | with_reducible exact nm__law_tree | with_reducible exact nm__law_bind | with_reducible exact nm__law_is_bare | with_reducible exact nm__law_text | with_reducible exact nm__law_within | with_reducible exact nm__law_told | with_reducible exact nm__law_value | with_reducible exact nm__law_number | with_reducible exact nm__law_is_refused)
local macro_rules | `(tactic| walk_at "mem") => `(tactic| repeat (first | with_reducible exact LMem.head | with_reducible apply LMem.tail))
local macro_rules | `(tactic| walk_at "put") => `(tactic| first
  | with_reducible exact PutR.nil
  | ((with_reducible refine' PutR.pass ?pn ?pr); (case pn => decide); (case pr => walk_at "put"))
  | ((with_reducible refine' PutR.drop ?pr); (case pr => walk_at "put")))
local macro_rules | `(tactic| walk_at "sub") => `(tactic| repeat (first
  | with_reducible exact LSub.nil
  | ((with_reducible refine' LSub.cons ?lm ?_); (case lm => walk_at "mem"))))
local macro_rules | `(tactic| walk_at "go") => `(tactic| repeat (first
  | with_reducible refine' ev_int ?_
  | with_reducible refine' ev_str ?_
  | ((with_reducible refine' ev_var ?hm ?hl ?hd ?_); (case hm => walk_at "mem"); (case hl => rfl); (case hd => decide))
  | ((with_reducible refine' ev_built ?hO ?hv ?he ?hn ?hl ?hd ?_); (case hO => assumption); (case hv => boot_by_name); (case he => kernel_rfl); (case hn => decide); (case hl => rfl); (case hd => decide))
  | ((with_reducible refine' ev_topS ?hO ?he ?hl ?hd ?_); (case he => first | with_reducible exact nm_ENDMARKER | with_reducible exact nm_NAME | with_reducible exact nm_NUMBER | with_reducible exact nm_OP); (case hO => assumption); (case hl => rfl); (case hd => decide))
  | ((with_reducible refine' ev_topI ?hO ?he ?hl ?hd ?_); (case he => with_reducible exact nm__MAX_RECURSION_DEPTH); (case hO => assumption); (case hl => rfl); (case hd => decide))
  | ((with_reducible refine' ev_top ?hO ?he ?hl ?hd ?_); (case hO => assumption); (case he => walk_at "nm"); (case hl => rfl); (case hd => decide))
  | ((with_reducible refine' ev_cel ?hl ?hd ?hc ?hm ?_); (case hl => rfl); (case hd => decide); (case hc => exact rfl); (case hm => exact List.Mem.head _))
  | ((with_reducible refine' And.intro ?hk ?_); (case hk => first | with_reducible exact kp_bi | with_reducible exact kp_ty | ((with_reducible refine' kp_fn ?_); kernel_rfl)))
  | with_reducible refine' evs_nil ?_
  | ((with_reducible refine' evs_more ?he ?_); (case he => intro _; rfl))
  | with_reducible refine' ev_bin ?_
  | with_reducible refine' ev_tup ?_
  | with_reducible refine' ev_lst ?_
  | ((with_reducible refine' And.intro ?hk ?_); (case hk => size_fits))
  | ((with_reducible refine' ev_mcl0 ?hO ?he ?hp ?_); (case hO => assumption); (case he => intro _; exact ⟨_, rfl⟩); (case hp => rfl))
  | ((with_reducible refine' ev_cl0 ?hO ?he ?hp ?_); (case hO => assumption); (case he => intro _; rfl); (case hp => rfl))
  | with_reducible refine' ev_sub ?_
  | ((with_reducible refine' ev_compare ?hm ?_); (case hm => with_unfolding_all rfl))
  | with_reducible refine' ev_attr ?_
  | with_reducible refine' ev_none ?_
  | with_reducible refine' ev_bool ?_
  | with_reducible refine' ev_un ?_
  | with_reducible refine' ev_ife ?_
  | ((with_reducible refine' ev_mcl ?hO ?he ?hp ?hk ?_); (case hO => assumption); (case he => intro _; exact ⟨_, rfl⟩); (case hp => rfl); (case hk => rfl))
  | ((with_reducible refine' ev_cl ?hO ?he ?hp ?hk ?_); (case hO => assumption); (case he => intro _; rfl); (case hp => rfl); (case hk => rfl))
  | with_reducible refine' evk_nil ?_
  | with_reducible refine' evk_cons ?_
  | with_reducible refine' ex_ret ?_
  | ((with_reducible refine' ex_asg ?hl ?hs ?_); (case hl => rfl); (case hs => intro _; rfl))
  | ((with_reducible refine' ex_swap2 ?hs ?hw ?hx ?hy ?_); (case hs => intro _; rfl); (case hw => intro _; rfl); (case hx => rfl); (case hy => rfl))
  | ((with_reducible refine' ex_tup2 ?hs ?hw ?hx ?hy ?_); (case hs => intro _; rfl); (case hw => intro _; rfl); (case hx => rfl); (case hy => rfl))
  | ((with_reducible refine' ex_aug ?hm ?hl ?_); (case hm => walk_at "mem"); (case hl => rfl))
  | ((with_reducible refine' Exists.intro _ (And.intro (?hp : PutR _ _ _ _) ?_)); (case hp => walk_at "put"))
  | with_reducible refine' Exists.intro _ (Exists.intro _ (And.intro rfl ?_))
  | with_reducible refine' Exists.intro _ (And.intro rfl ?_)
  | with_reducible refine' ex_if ?_
  | with_reducible refine' ex_nil ?_
  | with_reducible refine' ex_cont ?_
  | with_reducible refine' ex_pass ?_
  | with_reducible refine' ex_assert ?_
  | with_reducible refine' sq_next ?_
  | with_reducible refine' sq_ret ?_
  | with_reducible refine' sq_brk ?_
  | with_reducible refine' sq_cont ?_
  | with_reducible refine' retp ?_
  | with_reducible refine' loop_ret ?_
  | with_reducible refine' loop_brk ?_
  | with_reducible refine' retn ?_
  | with_reducible refine' ts_not ?_
  | with_reducible refine' ts_andN ?_
  | with_reducible refine' ts_orN ?_
  | with_reducible refine' ts_and ?_
  | with_reducible refine' ts_or ?_
  | ((with_reducible refine' ts_compare ?hm ?_); (case hm => with_unfolding_all rfl))
  | ((with_reducible refine' ts_val ?_ ?he); (case he => intro _ _; rfl))
  | with_reducible refine' d2_add ?_
  | with_reducible refine' d2_sub ?_
  | with_reducible refine' d2_iadd ?_
  | with_reducible refine' d1_neg ?_
  | with_reducible refine' d2_lt ?_
  | with_reducible refine' d2_gt ?_
  | with_reducible refine' d2_le ?_
  | with_reducible refine' d2_ge ?_
  | with_reducible refine' d2_eq ?_
  | with_reducible refine' d2_ne ?_
  | with_reducible refine' d2_seq ?_
  | with_reducible refine' d2_sne ?_
  | with_reducible refine' tr_bool ?_
  | with_reducible refine' tr_none ?_
  | with_reducible refine' tr_int ?_
  | with_reducible refine' cl_abs ?_
  | with_reducible refine' cl_int ?_
  | ((with_reducible refine' op_fdiv ?hO ?hb ?hd ?hg ?hc ?hh ?_); (case hO => assumption); (case hb => decide); (case hd => decide); (case hg => rfl); (case hc => rfl); (case hh => rfl))
  | ((with_reducible refine' op_headNum ?hs ?_); (case hs => intro _ _; exact ⟨_, rfl⟩))
  | ((with_reducible refine' op_headNeg ?hs ?_); (case hs => intro _ _; exact ⟨_, rfl⟩))
  | ((with_reducible refine' op_headBin ?hs ?_); (case hs => intro _ _; exact ⟨_, rfl⟩))
  | ((with_reducible refine' op_head ?hs ?_); (case hs => intro _ _; exact ⟨_, rfl⟩))
  | ((with_reducible refine' op_num1 ?hs ?_); (case hs => intro _ _; exact ⟨_, rfl⟩))
  | ((with_reducible refine' op_neg1 ?hs ?_); (case hs => intro _ _; exact ⟨_, rfl⟩))
  | ((with_reducible refine' op_bin1 ?hs ?_); (case hs => intro _ _; exact ⟨_, rfl⟩))
  | ((with_reducible refine' op_bin2 ?hs ?_); (case hs => intro _ _; exact ⟨_, rfl⟩))
  | ((with_reducible refine' if_t ?hc ?_); (case hc => decide))
  | ((with_reducible refine' if_f ?hc ?_); (case hc => decide))
  | with_reducible refine' ev_slcTo ?_
  | ((with_reducible refine' tk_string ?hO ?_); (case hO => assumption))
  | ((with_reducible refine' tk_type ?hO ?_); (case hO => assumption))
  | ((with_reducible refine' nd_left ?hO ?_); (case hO => assumption))
  | ((with_reducible refine' nd_op ?hO ?_); (case hO => assumption))
  | ((with_reducible refine' nd_right ?hO ?_); (case hO => assumption))
  | ((with_reducible refine' tr_tok ?hO ?_); (case hO => assumption))
  | ((with_reducible refine' tr_node ?hO ?_); (case hO => assumption))
  | with_reducible refine' ev_slcFrom ?_
  | with_reducible refine' ev_slcBoth ?_
  ))
section
variable {w : World} {loose : List Str} {mean : ExcName → Option Value} {mg mb : Str → Option Value} {base : Heap}
theorem keepR {σ σ' : List (Str × PV)} {x : Str} (h : LSub σ σ') (k : (σ'.all fun q => !(q.1 == x)) = true) : ∀ q ∈ σ', q ∈ σ ∧ q.1 ≠ x := fun q hq => ⟨h.all q hq, fun e => by
  have := List.all_eq_true.mp k q hq
  rw [e] at this
  simp at this⟩
theorem mt_tostr (O : (GG w loose mean mg mb base).Ok) {F : FnLit} {d : Nat} {own : List (Addr × Obj)} {X : Option Value} {l o r : PV} {Rm : PV → List PV → Prop} (h : Rm (.raw (.ref 343)) [nodePV l o r]) : Mt (GG w loose mean mg mb base) F d own "to_string" (nodePV l o r) Rm X :=
  mt_inst O rfl h (by kernel_rfl) (by kernel_rfl) (by kernel_rfl)
theorem tostr_num (O : (GG w loose mean mg mb base).Ok) {x : Str} {d : Nat} : Fn (GG w loose mean mg mb base) (d + 1) (.ref 343) [nodePV (tokPV "NUMBER" x) .none .none] [] (fun p => p = .str x) none := by
  refine fn_intro O (d := d) (ps := [("self", nodePV (tokPV "NUMBER" x) .none .none)]) (by rfl) (by kernel_rfl) (bnds1 fun _ => by rfl) ?_ (by rfl) (of_decide_eq_true (by kernel_rfl)) (by rfl) rfl rfl rfl
  walk_at "go"
  refine op_isiInst O plain_T (b := true) (by kernel_rfl) ?_
  walk_at "go"
  try refine ⟨rfl, ?_⟩
  walk_at "go"
  rfl
theorem tostr_neg (O : (GG w loose mean mg mb base).Ok) {l1 o1 r1 : PV} {x y : Str} {d : Nat} (hz : x.length + y.length ≤ 900000) (ih : Fn (GG w loose mean mg mb base) d (.ref 343) [nodePV l1 o1 r1] [] (fun p => p = .str x) none) :
    Fn (GG w loose mean mg mb base) (d + 1) (.ref 343) [nodePV (nodePV l1 o1 r1) (tokPV "OP" y) .none] [] (fun p => p = .str ("(" ++ (y ++ " " ++ x) ++ ")")) none := by
  refine fn_intro O (d := d) (ps := [("self", nodePV (nodePV l1 o1 r1) (tokPV "OP" y) .none)]) (by rfl) (by kernel_rfl) (bnds1 fun _ => by rfl) ?_ (by rfl) (of_decide_eq_true (by kernel_rfl)) (by rfl) rfl rfl rfl
  walk_at "go"
  refine op_isiInst O plain_N (b := true) (by kernel_rfl) ?_
  walk_at "go"
  try refine ⟨rfl, ?_⟩
  walk_at "go"
  refine mt_tostr O ?_
  walk_at "go"
  refine cl_use0 ih (Nat.le_refl _) ?_
  rintro _ rfl
  walk_at "go"
  refine mt_join ?_
  walk_at "go"
  refine cl_join2 (by rw [l4]; omega) ?_
  refine op_pct (by rw [Str.length_append, Str.length_append, l4]; omega) ?_
  walk_at "go"
  rfl
theorem tostr_bin (O : (GG w loose mean mg mb base).Ok) {l1 o1 r1 l2 o2 r2 ot : PV} {x y z : Str} {d : Nat} (hx : (ot = .none ∧ z = " ") ∨ ∃ s : Str, s.length ≤ 2 ∧ ot = tokPV "OP" s ∧ z = " " ++ s ++ " ") (hz : x.length + y.length ≤ 900000)
    (ih : Fn (GG w loose mean mg mb base) d (.ref 343) [nodePV l1 o1 r1] [] (fun p => p = .str x) none) (ih2 : Fn (GG w loose mean mg mb base) d (.ref 343) [nodePV l2 o2 r2] [] (fun p => p = .str y) none) :
    Fn (GG w loose mean mg mb base) (d + 1) (.ref 343) [nodePV (nodePV l1 o1 r1) ot (nodePV l2 o2 r2)] [] (fun p => p = .str ("(" ++ x ++ z ++ y ++ ")")) none := by
  refine fn_intro O (d := d) (ps := [("self", nodePV (nodePV l1 o1 r1) ot (nodePV l2 o2 r2))]) (by rfl) (by kernel_rfl) (bnds1 fun _ => by rfl) ?_ (by rfl) (of_decide_eq_true (by kernel_rfl)) (by rfl) rfl rfl rfl
  walk_at "go"
  refine op_isiInst O plain_N (b := true) (by kernel_rfl) ?_
  refine tr_bool ⟨rfl, ?_⟩
  refine exl_asg (σ' := [("self", nodePV (nodePV l1 o1 r1) ot (nodePV l2 o2 r2))]) rfl (fun _ => by rfl) (keepR (by walk_at "sub") (by rfl)) ?_
  walk_at "go"
  refine mt_tostr O ?_
  walk_at "go"
  refine cl_use0 ih (Nat.le_refl _) ?_
  rintro _ rfl
  walk_at "go"
  have e0 : ∀ a b c e f : Str, ("(" ++ (a ++ b ++ (c ++ b ++ f)) ++ ")" : Str) = "(" ++ a ++ (b ++ c ++ b) ++ f ++ ")" := fun a b c e f => by simp only [PySem.Str.append_assoc]
  have e1 : ∀ a b f : Str, ("(" ++ (a ++ b ++ f) ++ ")" : Str) = "(" ++ a ++ b ++ f ++ ")" := fun a b f => by simp only [PySem.Str.append_assoc]
  rcases hx with ⟨rfl, rfl⟩ | ⟨s, hs, rfl, rfl⟩
  ·
    refine exl_ifapp O rfl (by decide) (fun _ => by rfl) (fun _ => by rfl) (fun _ => by rfl) rfl (fun _ => ⟨_, by rfl⟩) (by size_fits) (fun own' => ?_)
    walk_at "go"
    refine exl_app O rfl (by decide) (fun _ => by rfl) (fun _ => by rfl) (fun _ => by rfl) rfl (fun _ => ⟨_, by rfl⟩) (by size_fits) (fun own' => ?_)
    walk_at "go"
    refine mt_tostr O ?_
    walk_at "go"
    refine cl_use0 ih2 (Nat.le_refl _) ?_
    rintro _ rfl
    refine exl_frz ?_
    walk_at "go"
    refine mt_join ?_
    walk_at "go"
    refine cl_join2 (by rw [l4]; omega) ?_
    refine op_pct (by rw [Str.length_append, Str.length_append, l4]; omega) ?_
    walk_at "go"
    rw [e1]
  ·
    refine exl_ifapp O rfl (by decide) (fun _ => by rfl) (fun _ => by rfl) (fun _ => by rfl) rfl (fun _ => ⟨_, by rfl⟩) (by size_fits) (fun own' => ?_)
    walk_at "go"
    intro own''
    walk_at "go"
    refine exl_app O rfl (by decide) (fun _ => by rfl) (fun _ => by rfl) (fun _ => by rfl) rfl (fun _ => ⟨_, by rfl⟩) (by size_fits) (fun own' => ?_)
    walk_at "go"
    refine mt_tostr O ?_
    walk_at "go"
    refine cl_use0 ih2 (Nat.le_refl _) ?_
    rintro _ rfl
    refine exl_frz ?_
    walk_at "go"
    refine mt_join ?_
    walk_at "go"
    refine cl_join3 (by rw [l4]; omega) ?_
    refine op_pct (by rw [Str.length_append, Str.length_append, Str.length_append, Str.length_append, l4]; omega) ?_
    walk_at "go"
    rw [e0 x " " s s y]
end
end
end Mine

namespace Mine
open PySem PySem.W PySem.Calls PyProof.Rows
section
local macro_rules | `(tactic| walk_at "nm") => `(tactic| first | with_reducible exact nm_add | with_reducible exact nm_mul | with_reducible exact nm_pow_operator | with_reducible exact nm_sub | with_reducible exact nm_truediv | with_reducible exact nm_DefinitionSyntaxError | with_reducible exact nm_common_divisor | with_reducible exact nm_Quotient | with_reducible exact nm_whole | with_reducible exact nm_number_from_text | with_reducible exact nm_TokenInfo | with_reducible exact nm_end_of_figures | with_reducible exact nm_end_of_number | with_reducible exact nm_tokenizer | with_reducible exact nm__power | with_reducible exact nm__divided | with_reducible exact nm__plus | with_reducible exact nm__minus | with_reducible exact nm__UNARY_OPERATOR_MAP | with_reducible exact nm__BINARY_OPERATOR_MAP | with_reducible exact nm__OP_PRIORITY | with_reducible exact nm_EvalTreeNode | with_reducible exact nm__build_eval_tree | with_reducible exact nm_build_eval_tree | with_reducible exact nm__law_cell | with_reducible exact nm__law_tree | with_reducible exact nm__law_bind | with_reducible exact nm__law_is_bare | with_reducible exact nm__law_text | with_reducible exact nm__law_within | with_reducible exact nm__law_told | with_reducible exact nm__law_value | with_reducible exact nm__law_number | with_reducible exact nm__law_is_refused)
local macro_rules | `(tactic| walk_at "mem") => `(tactic| repeat (first | with_reducible exact LMem.head | with_reducible apply LMem.tail))
local macro_rules | `(tactic| walk_at "put") => `(tactic| first
  | with_reducible exact PutR.nil
  | ((with_reducible refine' PutR.pass ?pn ?pr); (case pn => decide); (case pr => walk_at "put"))
  | ((with_reducible refine' PutR.drop ?pr); (case pr => walk_at "put")))
local macro_rules | `(tactic| walk_at "sub") => `(tactic| repeat (first
  | with_reducible exact LSub.nil
  | ((with_reducible refine' LSub.cons ?lm ?_); (case lm => walk_at "mem"))))
local macro_rules | `(tactic| walk_at "go") => `(tactic| repeat (first
  | with_reducible refine' ev_int ?_
  | with_reducible refine' ev_str ?_
  | ((with_reducible refine' ev_var ?hm ?hl ?hd ?_); (case hm => walk_at "mem"); (case hl => rfl); (case hd => decide))
  | ((with_reducible refine' ev_built ?hO ?hv ?he ?hn ?hl ?hd ?_); (case hO => assumption); (case hv => boot_by_name); (case he => kernel_rfl); (case hn => decide); (case hl => rfl); (case hd => decide))
  | ((with_reducible refine' ev_topS ?hO ?he ?hl ?hd ?_); (case he => first | with_reducible exact nm_ENDMARKER | with_reducible exact nm_NAME | with_reducible exact nm_NUMBER | with_reducible exact nm_OP); (case hO => assumption); (case hl => rfl); (case hd => decide))
  | ((with_reducible refine' ev_topI ?hO ?he ?hl ?hd ?_); (case he => with_reducible exact nm__MAX_RECURSION_DEPTH); (case hO => assumption); (case hl => rfl); (case hd => decide))
  | ((with_reducible refine' ev_top ?hO ?he ?hl ?hd ?_); (case hO => assumption); (case he => walk_at "nm"); (case hl => rfl); (case hd => decide))
  | ((with_reducible refine' ev_cel ?hl ?hd ?hc ?hm ?_); (case hl => rfl); (case hd => decide); (case hc => exact rfl); (case hm => exact List.Mem.head _))
  | ((with_reducible refine' And.intro ?hk ?_); (case hk => first | with_reducible exact kp_bi | with_reducible exact kp_ty | ((with_reducible refine' kp_fn ?_); kernel_rfl)))
  | with_reducible refine' evs_nil ?_
  | ((with_reducible refine' evs_more ?he ?_); (case he => intro _; rfl))
  | with_reducible refine' ev_bin ?_
  | with_reducible refine' ev_tup ?_
  | with_reducible refine' ev_lst ?_
  | ((with_reducible refine' And.intro ?hk ?_); (case hk => size_fits))
  | ((with_reducible refine' ev_mcl0 ?hO ?he ?hp ?_); (case hO => assumption); (case he => intro _; exact ⟨_, rfl⟩); (case hp => rfl))
  | ((with_reducible refine' ev_cl0 ?hO ?he ?hp ?_); (case hO => assumption); (case he => intro _; rfl); (case hp => rfl))
  | with_reducible refine' ev_sub ?_
  | ((with_reducible refine' ev_compare ?hm ?_); (case hm => with_unfolding_all rfl))
  | with_reducible refine' ev_attr ?_
  | with_reducible refine' ev_none ?_
  | with_reducible refine' ev_bool ?_
  | with_reducible refine' ev_un ?_
  | with_reducible refine' ev_ife ?_
  | ((with_reducible refine' ev_mcl ?hO ?he ?hp ?hk ?_); (case hO => assumption); (case he => intro _; exact ⟨_, rfl⟩); (case hp => rfl); (case hk => rfl))
  | ((with_reducible refine' ev_cl ?hO ?he ?hp ?hk ?_); (case hO => assumption); (case he => intro _; rfl); (case hp => rfl); (case hk => rfl))
  | with_reducible refine' evk_nil ?_
  | with_reducible refine' evk_cons ?_
  | with_reducible refine' ex_ret ?_
  | ((with_reducible refine' ex_asg ?hl ?hs ?_); (case hl => rfl); (case hs => intro _; rfl))
  | ((with_reducible refine' ex_swap2 ?hs ?hw ?hx ?hy ?_); (case hs => intro _; rfl); (case hw => intro _; rfl); (case hx => rfl); (case hy => rfl))
  | ((with_reducible refine' ex_tup2 ?hs ?hw ?hx ?hy ?_); (case hs => intro _; rfl); (case hw => intro _; rfl); (case hx => rfl); (case hy => rfl))
  | ((with_reducible refine' ex_aug ?hm ?hl ?_); (case hm => walk_at "mem"); (case hl => rfl))
  | ((with_reducible refine' Exists.intro _ (And.intro (?hp : PutR _ _ _ _) ?_)); (case hp => walk_at "put"))
  | with_reducible refine' Exists.intro _ (Exists.intro _ (And.intro rfl ?_))
  | with_reducible refine' Exists.intro _ (And.intro rfl ?_)
  | with_reducible refine' ex_if ?_
  | with_reducible refine' ex_nil ?_
  | with_reducible refine' ex_cont ?_
  | with_reducible refine' ex_pass ?_
  | with_reducible refine' ex_assert ?_
  | with_reducible refine' sq_next ?_
  | with_reducible refine' sq_ret ?_
  | with_reducible refine' sq_brk ?_
  | with_reducible refine' sq_cont ?_
  | with_reducible refine' retp ?_
  | with_reducible refine' loop_ret ?_
  | with_reducible refine' loop_brk ?_
  | with_reducible refine' retn ?_
  | with_reducible refine' ts_not ?_
  | with_reducible refine' ts_andN ?_
  | with_reducible refine' ts_orN ?_
  | with_reducible refine' ts_and ?_
  | with_reducible refine' ts_or ?_
  | ((with_reducible refine' ts_compare ?hm ?_); (case hm => with_unfolding_all rfl))
  | ((with_reducible refine' ts_val ?_ ?he); (case he => intro _ _; rfl))
  | with_reducible refine' d2_add ?_
  | with_reducible refine' d2_sub ?_
  | with_reducible refine' d2_iadd ?_
  | with_reducible refine' d1_neg ?_
  | with_reducible refine' d2_lt ?_
  | with_reducible refine' d2_gt ?_
  | with_reducible refine' d2_le ?_
  | with_reducible refine' d2_ge ?_
  | with_reducible refine' d2_eq ?_
  | with_reducible refine' d2_ne ?_
  | with_reducible refine' d2_seq ?_
  | with_reducible refine' d2_sne ?_
  | with_reducible refine' tr_bool ?_
  | with_reducible refine' tr_none ?_
  | with_reducible refine' tr_int ?_
  | with_reducible refine' cl_abs ?_
  | with_reducible refine' cl_int ?_
  | ((with_reducible refine' op_fdiv ?hO ?hb ?hd ?hg ?hc ?hh ?_); (case hO => assumption); (case hb => decide); (case hd => decide); (case hg => rfl); (case hc => rfl); (case hh => rfl))
  | ((with_reducible refine' op_headNum ?hs ?_); (case hs => intro _ _; exact ⟨_, rfl⟩))
  | ((with_reducible refine' op_headNeg ?hs ?_); (case hs => intro _ _; exact ⟨_, rfl⟩))
  | ((with_reducible refine' op_headBin ?hs ?_); (case hs => intro _ _; exact ⟨_, rfl⟩))
  | ((with_reducible refine' op_head ?hs ?_); (case hs => intro _ _; exact ⟨_, rfl⟩))
  | ((with_reducible refine' op_num1 ?hs ?_); (case hs => intro _ _; exact ⟨_, rfl⟩))
  | ((with_reducible refine' op_neg1 ?hs ?_); (case hs => intro _ _; exact ⟨_, rfl⟩))
  | ((with_reducible refine' op_bin1 ?hs ?_); (case hs => intro _ _; exact ⟨_, rfl⟩))
  | ((with_reducible refine' op_bin2 ?hs ?_); (case hs => intro _ _; exact ⟨_, rfl⟩))
  | ((with_reducible refine' if_t ?hc ?_); (case hc => decide))
  | ((with_reducible refine' if_f ?hc ?_); (case hc => decide))
  | with_reducible refine' ev_slcTo ?_
  | ((with_reducible refine' tk_string ?hO ?_); (case hO => assumption))
  | ((with_reducible refine' tk_type ?hO ?_); (case hO => assumption))
  | ((with_reducible refine' nd_left ?hO ?_); (case hO => assumption))
  | ((with_reducible refine' nd_op ?hO ?_); (case hO => assumption))
  | ((with_reducible refine' nd_right ?hO ?_); (case hO => assumption))
  | ((with_reducible refine' tr_tok ?hO ?_); (case hO => assumption))
  | ((with_reducible refine' tr_node ?hO ?_); (case hO => assumption))
  | with_reducible refine' ev_slcFrom ?_
  | with_reducible refine' ev_slcBoth ?_
  ))
section
variable {w : World} {loose : List Str} {mean : ExcName → Option Value} {mg mb : Str → Option Value} {base : Heap}
theorem tostr_spec (O : (GG w loose mean mg mb base).Ok) : ∀ t : T, t.wf → t.size ≤ 1000 → Fn (GG w loose mean mg mb base) (t.size + 1) (.ref 343) [t.node] [] (fun p => p = .str t.told) none
  | .num k, hw, hz => tostr_num O
  | .neg a, hw, hz => by
    have hz' : a.size + 1 ≤ 1000 := hz
    have ih := tostr_spec O a hw (by omega)
    have L := told_len a hw
    obtain ⟨l1, o1, r1, en⟩ := a.node_eq
    have hlen : a.told.length + ("-" : Str).length ≤ 900000 := by
      have : ("-" : Str).length = 1 := by decide
      omega
    have := tostr_neg O (y := "-") (x := a.told) (d := a.size + 1) (l1 := l1) (o1 := o1) (r1 := r1) hlen (by rw [← en]; exact ih)
    rw [← en] at this
    refine Fn.mono this ?_
    rintro _ rfl
    show PV.str _ = PV.str ("(- " ++ a.told ++ ")")
    rw [show ("(- " : Str) = "(" ++ ("-" ++ " ") from by decide]
    simp only [PySem.Str.append_assoc]
  | .bin o a b, hw, hz => by
    have hz' : a.size + b.size + 1 ≤ 1000 := hz
    have iha := tostr_spec O a (T.wf_a hw) (by omega)
    have ihb := tostr_spec O b (T.wf_b hw) (by omega)
    have La := told_len a (T.wf_a hw)
    have Lb := told_len b (T.wf_b hw)
    obtain ⟨l1, o1, r1, en⟩ := a.node_eq
    obtain ⟨l2, o2, r2, en'⟩ := b.node_eq
    have hx : ((opTok (.bin o a b) o = .none ∧ (if T.bare (.bin o a b) = true then (" " : Str) else (" " : Str) ++ (if o ≠ .jux then o.word else ("*" : Str)) ++ (" " : Str)) = " ") ∨ ∃ s : Str, s.length ≤ 2 ∧ opTok (.bin o a b) o = tokPV "OP" s ∧ (if T.bare (.bin o a b) = true then (" " : Str) else (" " : Str) ++ (if o ≠ .jux then o.word else ("*" : Str)) ++ (" " : Str)) = " " ++ s ++ " ") := by
      unfold opTok
      by_cases hb : (T.bin o a b).bare = true
      · rw [if_pos hb, if_pos hb]; exact .inl ⟨rfl, rfl⟩
      · rw [if_neg hb, if_neg hb]
        refine .inr ⟨o.sign, by cases o <;> decide, rfl, ?_⟩
        cases o <;> rfl
    have := tostr_bin O (d := a.size + b.size + 1) (x := a.told) (y := b.told) hx (l1 := l1) (o1 := o1) (r1 := r1) (l2 := l2) (o2 := o2) (r2 := r2) (by omega) (by rw [← en]; exact iha.up (by omega)) (by rw [← en']; exact ihb.up (by omega))
    rw [← en, ← en'] at this
    exact this
end
end
end Mine

namespace Mine
open PySem PySem.W PySem.Calls PyProof.Rows
section
local macro_rules | `(tactic| walk_at "nm") => `(tactic| first | with_reducible exact nm_add | with_reducible exact nm_mul | with_reducible exact nm_pow_operator | with_reducible exact nm_sub | with_reducible exact nm_truediv | with_reducible exact nm_DefinitionSyntaxError | with_reducible exact nm_common_divisor | with_reducible exact nm_Quotient | with_reducible exact nm_whole | with_reducible exact nm_number_from_text | with_reducible exact nm_TokenInfo | with_reducible exact nm_end_of_figures | with_reducible exact nm_end_of_number | with_reducible exact nm_tokenizer | with_reducible exact nm__power | with_reducible exact nm__divided | with_reducible exact nm__plus | with_reducible exact nm__minus | with_reducible exact nm__UNARY_OPERATOR_MAP | with_reducible exact nm__BINARY_OPERATOR_MAP | with_reducible exact nm__OP_PRIORITY | with_reducible exact nm_EvalTreeNode | with_reducible exact nm__build_eval_tree | with_reducible exact nm_build_eval_tree | with_reducible exact nm__law_cell | with_reducible exact nm__law_tree | with_reducible exact nm__law_bind | with_reducible exact nm__law_is_bare | with_reducible exact nm__law_text | with_reducible exact nm__law_within | with_reducible exact nm__law_told | with_reducible exact nm__law_value | with_reducible exact nm__law_number | with_reducible exact nm__law_is_refused)
local macro_rules | `(tactic| walk_at "mem") => `(tactic| repeat (first | with_reducible exact LMem.head | with_reducible apply LMem.tail))
local macro_rules | `(tactic| walk_at "put") => `(tactic| first
  | with_reducible exact PutR.nil
  | ((with_reducible refine' PutR.pass ?pn ?pr); (case pn => decide); (case pr => walk_at "put"))
  | ((with_reducible refine' PutR.drop ?pr); (case pr => walk_at "put")))
local macro_rules | `(tactic| walk_at "sub") => `(tactic| repeat (first
  | with_reducible exact LSub.nil
  | ((with_reducible refine' LSub.cons ?lm ?_); (case lm => walk_at "mem"))))
local macro_rules | `(tactic| walk_at "go") => `(tactic| repeat (first
  | with_reducible refine' ev_int ?_
  | with_reducible refine' ev_str ?_
  | ((with_reducible refine' ev_var ?hm ?hl ?hd ?_); (case hm => walk_at "mem"); (case hl => rfl); (case hd => decide))
  | ((with_reducible refine' ev_built ?hO ?hv ?he ?hn ?hl ?hd ?_); (case hO => assumption); (case hv => boot_by_name); (case he => kernel_rfl); (case hn => decide); (case hl => rfl); (case hd => decide))
  | ((with_reducible refine' ev_topS ?hO ?he ?hl ?hd ?_); (case he => first | with_reducible exact nm_ENDMARKER | with_reducible exact nm_NAME | with_reducible exact nm_NUMBER | with_reducible exact nm_OP); (case hO => assumption); (case hl => rfl); (case hd => decide))
  | ((with_reducible refine' ev_topI ?hO ?he ?hl ?hd ?_); (case he => with_reducible exact nm__MAX_RECURSION_DEPTH); (case hO => assumption); (case hl => rfl); (case hd => decide))
  | ((with_reducible refine' ev_top ?hO ?he ?hl ?hd ?_); (case hO => assumption); (case he => walk_at "nm"); (case hl => rfl); (case hd => decide))
  | ((with_reducible refine' ev_cel ?hl ?hd ?hc ?hm ?_); (case hl => rfl); (case hd => decide); (case hc => exact rfl); (case hm => exact List.Mem.head _))
  | ((with_reducible refine' And.intro ?hk ?_); (case hk => first | with_reducible exact kp_bi | with_reducible exact kp_ty | ((with_reducible refine' kp_fn ?_); kernel_rfl)))
  | with_reducible refine' evs_nil ?_
  | ((with_reducible refine' evs_more ?he ?_); (case he => intro _; rfl))
  | with_reducible refine' ev_bin ?_
  | with_reducible refine' ev_tup ?_
  | with_reducible refine' ev_lst ?_
  | ((with_reducible refine' And.intro ?hk ?_); (case hk => size_fits))
  | ((with_reducible refine' ev_mcl0 ?hO ?he ?hp ?_); (case hO => assumption); (case he => intro _; exact ⟨_, rfl⟩); (case hp => rfl))
  | ((with_reducible refine' ev_cl0 ?hO ?he ?hp ?_); (case hO => assumption); (case he => intro _; rfl); (case hp => rfl))
  | with_reducible refine' ev_sub ?_
  | ((with_reducible refine' ev_compare ?hm ?_); (case hm => with_unfolding_all rfl))
  | with_reducible refine' ev_attr ?_
  | with_reducible refine' ev_none ?_
  | with_reducible refine' ev_bool ?_
  | with_reducible refine' ev_un ?_
  | with_reducible refine' ev_ife ?_
  | ((with_reducible refine' ev_mcl ?hO ?he ?hp ?hk ?_); (case hO => assumption); (case he => intro _; exact ⟨_, rfl⟩); (case hp => rfl); (case hk => rfl))
  | ((with_reducible refine' ev_cl ?hO ?he ?hp ?hk ?_); (case hO => assumption); (case he => intro _; rfl); (case hp => rfl); (case hk => rfl))
  | with_reducible refine' evk_nil ?_
  | with_reducible refine' evk_cons ?_
  | with_reducible refine' ex_ret ?_
  | ((with_reducible refine' ex_asg ?hl ?hs ?_); (case hl => rfl); (case hs => intro _; rfl))
  | ((with_reducible refine' ex_swap2 ?hs ?hw ?hx ?hy ?_); (case hs => intro _; rfl); (case hw => intro _; rfl); (case hx => rfl); (case hy => rfl))
  | ((with_reducible refine' ex_tup2 ?hs ?hw ?hx ?hy ?_); (case hs => intro _; rfl); (case hw => intro _; rfl); (case hx => rfl); (case hy => rfl))
  | ((with_reducible refine' ex_aug ?hm ?hl ?_); (case hm => walk_at "mem"); (case hl => rfl))
  | ((with_reducible refine' Exists.intro _ (And.intro (?hp : PutR _ _ _ _) ?_)); (case hp => walk_at "put"))
  | with_reducible refine' Exists.intro _ (Exists.intro _ (And.intro rfl ?_))
  | with_reducible refine' Exists.intro _ (And.intro rfl ?_)
  | with_reducible refine' ex_if ?_
  | with_reducible refine' ex_nil ?_
  | with_reducible refine' ex_cont ?_
  | with_reducible refine' ex_pass ?_
  | with_reducible refine' ex_assert ?_
  | with_reducible refine' sq_next ?_
  | with_reducible refine' sq_ret ?_
  | with_reducible refine' sq_brk ?_
  | with_reducible refine' sq_cont ?_
  | with_reducible refine' retp ?_
  | with_reducible refine' loop_ret ?_
  | with_reducible refine' loop_brk ?_
  | with_reducible refine' retn ?_
  | with_reducible refine' ts_not ?_
  | with_reducible refine' ts_andN ?_
  | with_reducible refine' ts_orN ?_
  | with_reducible refine' ts_and ?_
  | with_reducible refine' ts_or ?_
  | ((with_reducible refine' ts_compare ?hm ?_); (case hm => with_unfolding_all rfl))
  | ((with_reducible refine' ts_val ?_ ?he); (case he => intro _ _; rfl))
  | with_reducible refine' d2_add ?_
  | with_reducible refine' d2_sub ?_
  | with_reducible refine' d2_iadd ?_
  | with_reducible refine' d1_neg ?_
  | with_reducible refine' d2_lt ?_
  | with_reducible refine' d2_gt ?_
  | with_reducible refine' d2_le ?_
  | with_reducible refine' d2_ge ?_
  | with_reducible refine' d2_eq ?_
  | with_reducible refine' d2_ne ?_
  | with_reducible refine' d2_seq ?_
  | with_reducible refine' d2_sne ?_
  | with_reducible refine' tr_bool ?_
  | with_reducible refine' tr_none ?_
  | with_reducible refine' tr_int ?_
  | with_reducible refine' cl_abs ?_
  | with_reducible refine' cl_int ?_
  | ((with_reducible refine' op_fdiv ?hO ?hb ?hd ?hg ?hc ?hh ?_); (case hO => assumption); (case hb => decide); (case hd => decide); (case hg => rfl); (case hc => rfl); (case hh => rfl))
  | ((with_reducible refine' op_headNum ?hs ?_); (case hs => intro _ _; exact ⟨_, rfl⟩))
  | ((with_reducible refine' op_headNeg ?hs ?_); (case hs => intro _ _; exact ⟨_, rfl⟩))
  | ((with_reducible refine' op_headBin ?hs ?_); (case hs => intro _ _; exact ⟨_, rfl⟩))
  | ((with_reducible refine' op_head ?hs ?_); (case hs => intro _ _; exact ⟨_, rfl⟩))
  | ((with_reducible refine' op_num1 ?hs ?_); (case hs => intro _ _; exact ⟨_, rfl⟩))
  | ((with_reducible refine' op_neg1 ?hs ?_); (case hs => intro _ _; exact ⟨_, rfl⟩))
  | ((with_reducible refine' op_bin1 ?hs ?_); (case hs => intro _ _; exact ⟨_, rfl⟩))
  | ((with_reducible refine' op_bin2 ?hs ?_); (case hs => intro _ _; exact ⟨_, rfl⟩))
  | ((with_reducible refine' if_t ?hc ?_); (case hc => decide))
  | ((with_reducible refine' if_f ?hc ?_); (case hc => decide))
  | with_reducible refine' ev_slcTo ?_
  | ((with_reducible refine' tk_string ?hO ?_); (case hO => assumption))
  | ((with_reducible refine' tk_type ?hO ?_); (case hO => assumption))
  | ((with_reducible refine' nd_left ?hO ?_); (case hO => assumption))
  | ((with_reducible refine' nd_op ?hO ?_); (case hO => assumption))
  | ((with_reducible refine' nd_right ?hO ?_); (case hO => assumption))
  | ((with_reducible refine' tr_tok ?hO ?_); (case hO => assumption))
  | ((with_reducible refine' tr_node ?hO ?_); (case hO => assumption))
  | with_reducible refine' ev_slcFrom ?_
  | with_reducible refine' ev_slcBoth ?_
  ))
section
variable {w : World} {loose : List Str} {mean : ExcName → Option Value} {mg mb : Str → Option Value} {base : Heap}
theorem exc69 (O : (GG w loose mean mg mb base).Ok) : ExcC (GG w loose mean mg mb base) "DefinitionSyntaxError" 69 where
  name := nm_DefinitionSyntaxError
  keep := by kernel_rfl
  obj := ⟨_, _, _, _, _, _, _, _, _, _, _, _, _, _, _, _, by rfl, by rfl⟩
  made := fun A l s v Q E c fin => exc_made O PySem.F.excBase_ValueError (C := 69) (fI := 59) (by rfl) (by rfl) (by rfl) (by rfl) (by rfl) (fun self => ref_mro self _ _) (by kernel_rfl) (by kernel_rfl) (by kernel_rfl) (by rfl) (by kernel_rfl) (fun _ _ => by rfl) (fun _ => by rfl) (by kernel_rfl) (by decide) rfl rfl (by decide) (by decide) (by rfl) rfl rfl rfl c fin
end
end
end Mine

namespace Mine
open PySem PySem.W PySem.Calls PyProof.Rows
section
local macro_rules | `(tactic| walk_at "nm") => `(tactic| first | with_reducible exact nm_add | with_reducible exact nm_mul | with_reducible exact nm_pow_operator | with_reducible exact nm_sub | with_reducible exact nm_truediv | with_reducible exact nm_DefinitionSyntaxError | with_reducible exact nm_common_divisor | with_reducible exact nm_Quotient | with_reducible exact nm_whole | with_reducible exact nm_number_from_text | with_reducible exact nm_TokenInfo | with_reducible exact nm_end_of_figures | with_reducible exact nm_end_of_number | with_reducible exact nm_tokenizer | with_reducible exact nm__power | with_reducible exact nm__divided | with_reducible exact nm__plus | with_reducible exact nm__minus | with_reducible exact nm__UNARY_OPERATOR_MAP | with_reducible exact nm__BINARY_OPERATOR_MAP | with_reducible exact nm__OP_PRIORITY | with_reducible exact nm_EvalTreeNode | with_reducible exact nm__build_eval_tree | with_reducible exact nm_build_eval_tree | with_reducible exact nm__law_cell | with_reducible exact nm__law_tree | with_reducible exact nm__law_bind | with_reducible exact nm__law_is_bare | with_reducible exact nm__law_text | with_reducible exact nm__law_within | with_reducible exact nm__law_told | with_reducible exact nm__law_value | with_reducible exact nm__law_number | with_reducible exact nm__law_is_refused)
local macro_rules | `(tactic| walk_at "mem") => `(tactic| repeat (first | with_reducible exact LMem.head | with_reducible apply LMem.tail))
local macro_rules | `(tactic| walk_at "put") => `(tactic| first
  | with_reducible exact PutR.nil
  | ((with_reducible refine' PutR.pass ?pn ?pr); (case pn => decide); (case pr => walk_at "put"))
  | ((with_reducible refine' PutR.drop ?pr); (case pr => walk_at "put")))
local macro_rules | `(tactic| walk_at "sub") => `(tactic| repeat (first
  | with_reducible exact LSub.nil
  | ((with_reducible refine' LSub.cons ?lm ?_); (case lm => walk_at "mem"))))
local macro_rules | `(tactic| walk_at "go") => `(tactic| repeat (first
  | with_reducible refine' ev_int ?_
  | with_reducible refine' ev_str ?_
  | ((with_reducible refine' ev_var ?hm ?hl ?hd ?_); (case hm => walk_at "mem"); (case hl => rfl); (case hd => decide))
  | ((with_reducible refine' ev_built ?hO ?hv ?he ?hn ?hl ?hd ?_); (case hO => assumption); (case hv => boot_by_name); (case he => kernel_rfl); (case hn => decide); (case hl => rfl); (case hd => decide))
  | ((with_reducible refine' ev_topS ?hO ?he ?hl ?hd ?_); (case he => first | with_reducible exact nm_ENDMARKER | with_reducible exact nm_NAME | with_reducible exact nm_NUMBER | with_reducible exact nm_OP); (case hO => assumption); (case hl => rfl); (case hd => decide))
  | ((with_reducible refine' ev_topI ?hO ?he ?hl ?hd ?_); (case he => with_reducible exact nm__MAX_RECURSION_DEPTH); (case hO => assumption); (case hl => rfl); (case hd => decide))
  | ((with_reducible refine' ev_top ?hO ?he ?hl ?hd ?_); (case hO => assumption); (case he => walk_at "nm"); (case hl => rfl); (case hd => decide))
  | ((with_reducible refine' ev_cel ?hl ?hd ?hc ?hm ?_); (case hl => rfl); (case hd => decide); (case hc => exact rfl); (case hm => exact List.Mem.head _))
  | ((with_reducible refine' And.intro ?hk ?_); (case hk => first | with_reducible exact kp_bi | with_reducible exact kp_ty | ((with_reducible refine' kp_fn ?_); kernel_rfl)))
  | with_reducible refine' evs_nil ?_
  | ((with_reducible refine' evs_more ?he ?_); (case he => intro _; rfl))
  | with_reducible refine' ev_bin ?_
  | with_reducible refine' ev_tup ?_
  | with_reducible refine' ev_lst ?_
  | ((with_reducible refine' And.intro ?hk ?_); (case hk => size_fits))
  | ((with_reducible refine' ev_mcl0 ?hO ?he ?hp ?_); (case hO => assumption); (case he => intro _; exact ⟨_, rfl⟩); (case hp => rfl))
  | ((with_reducible refine' ev_cl0 ?hO ?he ?hp ?_); (case hO => assumption); (case he => intro _; rfl); (case hp => rfl))
  | with_reducible refine' ev_sub ?_
  | ((with_reducible refine' ev_compare ?hm ?_); (case hm => with_unfolding_all rfl))
  | with_reducible refine' ev_attr ?_
  | with_reducible refine' ev_none ?_
  | with_reducible refine' ev_bool ?_
  | with_reducible refine' ev_un ?_
  | with_reducible refine' ev_ife ?_
  | ((with_reducible refine' ev_mcl ?hO ?he ?hp ?hk ?_); (case hO => assumption); (case he => intro _; exact ⟨_, rfl⟩); (case hp => rfl); (case hk => rfl))
  | ((with_reducible refine' ev_cl ?hO ?he ?hp ?hk ?_); (case hO => assumption); (case he => intro _; rfl); (case hp => rfl); (case hk => rfl))
  | with_reducible refine' evk_nil ?_
  | with_reducible refine' evk_cons ?_
  | with_reducible refine' ex_ret ?_
  | ((with_reducible refine' ex_asg ?hl ?hs ?_); (case hl => rfl); (case hs => intro _; rfl))
  | ((with_reducible refine' ex_swap2 ?hs ?hw ?hx ?hy ?_); (case hs => intro _; rfl); (case hw => intro _; rfl); (case hx => rfl); (case hy => rfl))
  | ((with_reducible refine' ex_tup2 ?hs ?hw ?hx ?hy ?_); (case hs => intro _; rfl); (case hw => intro _; rfl); (case hx => rfl); (case hy => rfl))
  | ((with_reducible refine' ex_aug ?hm ?hl ?_); (case hm => walk_at "mem"); (case hl => rfl))
  | ((with_reducible refine' Exists.intro _ (And.intro (?hp : PutR _ _ _ _) ?_)); (case hp => walk_at "put"))
  | with_reducible refine' Exists.intro _ (Exists.intro _ (And.intro rfl ?_))
  | with_reducible refine' Exists.intro _ (And.intro rfl ?_)
  | with_reducible refine' ex_if ?_
  | with_reducible refine' ex_nil ?_
  | with_reducible refine' ex_cont ?_
  | with_reducible refine' ex_pass ?_
  | with_reducible refine' ex_assert ?_
  | with_reducible refine' sq_next ?_
  | with_reducible refine' sq_ret ?_
  | with_reducible refine' sq_brk ?_
  | with_reducible refine' sq_cont ?_
  | with_reducible refine' retp ?_
  | with_reducible refine' cut_ret ?_
  | with_reducible refine' loop_ret ?_
  | with_reducible refine' loop_brk ?_
  | with_reducible refine' retn ?_
  | with_reducible refine' ts_not ?_
  | with_reducible refine' ts_andN ?_
  | with_reducible refine' ts_orN ?_
  | with_reducible refine' ts_and ?_
  | with_reducible refine' ts_or ?_
  | ((with_reducible refine' ts_compare ?hm ?_); (case hm => with_unfolding_all rfl))
  | ((with_reducible refine' ts_val ?_ ?he); (case he => intro _ _; rfl))
  | with_reducible refine' d2_add ?_
  | with_reducible refine' d2_sub ?_
  | with_reducible refine' d2_iadd ?_
  | with_reducible refine' d1_neg ?_
  | with_reducible refine' d2_lt ?_
  | with_reducible refine' d2_gt ?_
  | with_reducible refine' d2_le ?_
  | with_reducible refine' d2_ge ?_
  | with_reducible refine' d2_eq ?_
  | with_reducible refine' d2_ne ?_
  | with_reducible refine' d2_seq ?_
  | with_reducible refine' d2_sne ?_
  | with_reducible refine' tr_bool ?_
  | with_reducible refine' tr_none ?_
  | with_reducible refine' tr_int ?_
  | with_reducible refine' cl_abs ?_
  | with_reducible refine' cl_int ?_
  | ((with_reducible refine' op_fdiv ?hO ?hb ?hd ?hg ?hc ?hh ?_); (case hO => assumption); (case hb => decide); (case hd => decide); (case hg => rfl); (case hc => rfl); (case hh => rfl))
  | ((with_reducible refine' op_headNum ?hs ?_); (case hs => intro _ _; exact ⟨_, rfl⟩))
  | ((with_reducible refine' op_headNeg ?hs ?_); (case hs => intro _ _; exact ⟨_, rfl⟩))
  | ((with_reducible refine' op_headBin ?hs ?_); (case hs => intro _ _; exact ⟨_, rfl⟩))
  | ((with_reducible refine' op_head ?hs ?_); (case hs => intro _ _; exact ⟨_, rfl⟩))
  | ((with_reducible refine' op_num1 ?hs ?_); (case hs => intro _ _; exact ⟨_, rfl⟩))
  | ((with_reducible refine' op_neg1 ?hs ?_); (case hs => intro _ _; exact ⟨_, rfl⟩))
  | ((with_reducible refine' op_bin1 ?hs ?_); (case hs => intro _ _; exact ⟨_, rfl⟩))
  | ((with_reducible refine' op_bin2 ?hs ?_); (case hs => intro _ _; exact ⟨_, rfl⟩))
  | ((with_reducible refine' if_t ?hc ?_); (case hc => decide))
  | ((with_reducible refine' if_f ?hc ?_); (case hc => decide))
  | with_reducible refine' ev_slcTo ?_
  | ((with_reducible refine' tk_string ?hO ?_); (case hO => assumption))
  | ((with_reducible refine' tk_type ?hO ?_); (case hO => assumption))
  | ((with_reducible refine' nd_left ?hO ?_); (case hO => assumption))
  | ((with_reducible refine' nd_op ?hO ?_); (case hO => assumption))
  | ((with_reducible refine' nd_right ?hO ?_); (case hO => assumption))
  | ((with_reducible refine' tr_tok ?hO ?_); (case hO => assumption))
  | ((with_reducible refine' tr_node ?hO ?_); (case hO => assumption))
  | with_reducible refine' ev_slcFrom ?_
  | with_reducible refine' ev_slcBoth ?_
  ))
def N.pv : N → PV
  | .tok k x => nodePV (tokPV k x) .none .none
  | .un x a => nodePV a.pv (tokPV "OP" x) .none
  | .bin a o b => nodePV a.pv (match o with | none => .none | some x => tokPV "OP" x) b.pv
theorem N.pv_eq : ∀ n : N, ∃ l o r, n.pv = nodePV l o r
  | .tok k x => ⟨_, _, _, rfl⟩
  | .un x a => ⟨_, _, _, rfl⟩
  | .bin a o b => ⟨_, _, _, rfl⟩
def optPV : Option N → PV
  | none => .none
  | some n => n.pv
def tokL (ts : List (Str × Str)) : PV := .lst (ts.map fun q => tokPV q.1 q.2)
def PRq (r : Option (N × Nat)) (p : PV) : Prop := ∃ n j, r = some (n, j) ∧ p = .tup [n.pv, .int (j : Int)]
theorem solid_opt (r : Option N) : (optPV r).solid = true := by
  cases r with
  | none => rfl
  | some n => cases n <;> rfl
theorem hand_opt (r : Option N) : (optPV r).hand = true := by
  cases r with
  | none => rfl
  | some n => cases n <;> rfl
theorem hand_pv (n : N) : n.pv.hand = true := hand_opt (some n)
theorem isNone_opt (r : Option N) : (optPV r).isNone = r.isNone := by
  cases r with
  | none => rfl
  | some n => cases n <;> rfl
def rX : Option (N × Nat) → Option Value
  | none => some (.ref 69)
  | some _ => none
section
variable {w : World} {loose : List Str} {mean : ExcName → Option Value} {mg mb : Str → Option Value} {base : Heap}
theorem tr_opt (O : (GG w loose mean mg mb base).Ok) {F : FnLit} {d : Nat} {own : List (Addr × Obj)} {X : Option Value} {res : Option N} {B : Bool → Prop} (h : B res.isSome) : Tr (GG w loose mean mg mb base) F d own (optPV res) B X := by
  cases res with
  | none => exact tr_none h
  | some n =>
    obtain ⟨l, o, r, e⟩ := n.pv_eq
    show Tr _ _ _ _ n.pv _ _
    rw [e]
    exact tr_node O h
theorem cl_prio (O : (GG w loose mean mg mb base).Ok) {F : FnLit} {d : Nat} {own : List (Addr × Obj)} {R : PV → Prop} {X : Option Value} {x : Str} (h : R (.int ((prio x).getD (-1)))) : Cl (GG w loose mean mg mb base) F d own (.raw (.builtin "dict.get")) [.raw (.ref 321), .str x, .int (-1)] [] R X := by
  refine cl_getD (dict321 O) (fun v hv => ?_) (fun hv => ?_)
  · rcases val_prio x with ⟨h0, _⟩ | ⟨i, t, h0, hp⟩
    · rw [hv] at h0; cases h0
    · rw [hv] at h0; cases h0
      rw [hp] at h
      exact ⟨_, fun _ => .int _ _, h⟩
  · rcases val_prio x with ⟨h0, hp⟩ | ⟨i, t, h0, hp⟩
    · rw [hp] at h; exact h
    · rw [hv] at h0; cases h0
theorem parse_bnds5 {a b c e f : PV} : Bnds (GG w loose mean mg mb base) (fdAt (GG w loose mean mg mb base).K 366) [a, b, c, e, f] [] [("tokens", a), ("op_priority", b), ("index", c), ("depth", e), ("prev_op", f)] := by
  rw [fdAt_eq (K := (GG w loose mean mg mb base).K) (f := 366) (by rfl)]
  intro s Z vs kvs X rv hk rk
  obtain rfl := kv0 hk
  cases rv with | cons r1 rv =>
  cases rv with | cons r2 rv =>
  cases rv with | cons r3 rv =>
  cases rv with | cons r4 rv =>
  cases rv with | cons r5 rv =>
  cases rv
  exact ⟨[("tokens", _), ("op_priority", _), ("index", _), ("depth", _), ("prev_op", _)], binds_K X rfl rfl rfl rfl rfl, .cons r1 (.cons r2 (.cons r3 (.cons r4 (.cons r5 .nil))))⟩
theorem parse_go (O : (GG w loose mean mg mb base).Ok) (ts : List (Str × Str)) (hz : ts.length ≤ 100000) (hx : ∀ q ∈ ts, q.2.length ≤ 1000) : ∀ (k i depth : Nat) (prev : Str) (r : Option (N × Nat)) (as : List PV), depth ≤ 100 → prev.length ≤ 1000 → head ts k i depth prev none = some r →
    Bnds (GG w loose mean mg mb base) (fdAt (GG w loose mean mg mb base).K 366) as [] [("tokens", tokL ts), ("op_priority", .raw (.ref 321)), ("index", .int (i : Int)), ("depth", .int (depth : Int)), ("prev_op", .str prev)] →
    Fn (GG w loose mean mg mb base) (k + 10) (.ref 366) as [] (PRq r) (rX r) := by
  intro k
  induction k using Nat.strongRecOn with
  | _ k ih =>
  intro i depth prev r as hd hp hr hb
  refine fn_intro O (d := k + 9) (by rfl) (by kernel_rfl) hb ?_ (by rfl) (of_decide_eq_true (by kernel_rfl)) (by rfl) rfl rfl rfl
  walk_at "go"
  refine if_f (decide_eq_false (by omega)) ?_
  walk_at "go"
  refine ex_while (fun (a : Nat × Option N × Nat) => [("tokens", tokL ts), ("op_priority", .raw (.ref 321)), ("index", .int (a.1 : Int)), ("depth", .int (depth : Int)), ("prev_op", .str prev), ("result", optPV a.2.1)])
    (fun a => a.2.2 ≤ k ∧ head ts a.2.2 a.1 depth prev a.2.1 = some r) (fun a => a.2.2) (i, none, k) ⟨Nat.le_refl _, hr⟩ (LSub.all (τ := [("tokens", tokL ts), ("op_priority", .raw (.ref 321)), ("index", .int (i : Int)), ("depth", .int (depth : Int)), ("prev_op", .str prev), ("result", .none)]) (by walk_at "sub")) rfl ?_
  rintro ⟨i, res, kk⟩ ⟨hk, hr⟩
  dsimp only at hk hr ⊢
  cases kk with
  | zero => cases hr
  | succ kk =>
  rw [head] at hr
  refine ts_val (ev_bool (tr_bool (if_t rfl ?_))) (fun _ _ => rfl)
  refine ex_cut 4 (fun (a : Nat × Option N) => [("tokens", tokL ts), ("op_priority", .raw (.ref 321)), ("index", .int (a.1 : Int)), ("depth", .int (depth : Int)), ("prev_op", .str prev), ("result", optPV a.2)])
    (fun a => endT (turn2 ts depth prev a.1 a.2) (fun j r => head ts kk j depth prev r) = some r) ?_ ?_
  · change Ex _ _ _ _ _ [_, _, _, _] _ _
    unfold turn1 at hr
    cases e : ts[i]? with
    | none => rw [e] at hr; cases hr
    | some tk =>
    obtain ⟨ty, x⟩ := tk
    rw [e] at hr
    dsimp only at hr
    have hi : i < ts.length := (List.getElem?_eq_some_iff.mp e).1
    have hxl : x.length ≤ 1000 := hx (ty, x) (List.mem_of_getElem? e)
    have el : (ts.map fun q => tokPV q.1 q.2)[i]? = some (tokPV ty x) := by rw [List.getElem?_map, e]; rfl
    walk_at "go"
    refine op_at (fun _ _ => ⟨_, rfl⟩) (by omega) el ?_
    walk_at "go"
    apply if_b
    · intro c1
      rw [if_pos c1] at hr
      obtain rfl := eq_of_beq c1
      walk_at "go"
      apply if_b
      · intro c2
        rw [if_pos c2] at hr
        walk_at "go"
        apply if_b
        · intro c3
          rw [if_pos c3] at hr
          cases hr
          refine ex_raise O (exc69 O) (by omega) rfl (by decide) (fun _ => by rfl) rfl ?_
          refine ev_joined (fun _ => by rfl) (jn_cons (fun _ => by rfl) ?_)
          walk_at "go"
          refine jn_cons (fun _ => by rfl) (ev_fmt ?_)
          walk_at "go"
          exact jn_nil (by size_fits) trivial
        · intro c3
          rw [if_neg (by rw [c3]; decide)] at hr
          cases res with
          | none => cases hr
          | some n =>
          dsimp only at hr
          walk_at "go"
          apply if_b
          · intro c4
            rw [if_pos c4] at hr
            cases hr
            walk_at "go"
            refine op_isnot (solid_opt _) ?_
            rw [isNone_opt]
            walk_at "go"
            try refine ⟨rfl, ?_⟩
            walk_at "go"
            first | rfl | exact ⟨n, i, rfl, rfl⟩
          · intro c4
            rw [if_neg (by rw [c4]; decide)] at hr
            cases i with
            | zero => cases hr
            | succ j =>
            cases hr
            walk_at "go"
            refine op_isnot (solid_opt _) ?_
            rw [isNone_opt]
            walk_at "go"
            try refine ⟨rfl, ?_⟩
            walk_at "go"
            rw [show ((j + 1 : Nat) : Int) - 1 = (j : Int) by omega]
            first | rfl | exact ⟨n, j, rfl, rfl⟩
      · intro c2
        rw [if_neg (by rw [c2]; decide)] at hr
        walk_at "go"
        apply if_b
        · intro c3
          rw [if_pos c3, if_pos (by decide)] at hr
          cases e1 : head ts kk (i + 1) 0 x none with
          | none => rw [e1] at hr; cases hr
          | some r1 =>
          rw [e1] at hr
          walk_at "go"
          have ih1 := ih kk (by omega) (i + 1) 0 x r1 _ (by omega) (by first | decide | omega) e1 parse_bnds5
          cases r1 with
          | none =>
            cases hr
            refine cl_use ih1 (by omega) ?_
            rintro p ⟨m, j, h, _⟩
            cases h
          | some q =>
          obtain ⟨m, j⟩ := q
          refine cl_use0 ih1 (by omega) ?_
          rintro p ⟨_, _, h, rfl⟩
          cases h
          dsimp only [after] at hr
          refine ⟨_, _, rfl, ?_⟩
          walk_at "go"
          cases e2 : ts[j]? with
          | none => rw [e2] at hr; cases hr
          | some tk2 =>
          obtain ⟨ty2, y⟩ := tk2
          rw [e2] at hr
          dsimp only at hr
          have hj : j < ts.length := (List.getElem?_eq_some_iff.mp e2).1
          have el2 : (ts.map fun q => tokPV q.1 q.2)[j]? = some (tokPV ty2 y) := by rw [List.getElem?_map, e2]; rfl
          refine op_at (fun _ _ => ⟨_, rfl⟩) (by omega) el2 ?_
          walk_at "go"
          cases c4 : (y == ")") with
          | false => rw [c4] at hr; cases hr
          | true =>
          rw [c4] at hr
          refine if_f rfl ?_
          walk_at "go"
          refine tr_opt O ?_
          cases res with
          | none =>
            refine if_f rfl ?_
            walk_at "go"
            refine cut_next (j, some m) hr ?_
            dsimp only [optPV]
            walk_at "sub"
          | some n =>
            refine if_t rfl ?_
            walk_at "go"
            refine cl_use0 (node2 O _ _ (hand_opt (some n)) (hand_pv m) (d := 0)) (by omega) ?_
            rintro _ rfl
            walk_at "go"
            refine cut_next (j, some (.bin n none m)) hr ?_
            dsimp only [optPV, N.pv]
            walk_at "sub"
        · intro c3
          rw [if_neg (by rw [c3]; decide)] at hr
          walk_at "go"
          refine op_inD (dict321 O) ?_
          rcases val_prio x with ⟨hv, hpx⟩ | ⟨pi, pt, hv, hpx⟩
          · rw [hv]
            rw [hpx] at hr
            cases hr
            walk_at "go"
            refine ex_raise O (exc69 O) (by omega) rfl (by decide) (fun _ => by rfl) rfl ?_
            refine ev_joined (fun _ => by rfl) (jn_cons (fun _ => by rfl) ?_)
            walk_at "go"
            refine jn_cons (fun _ => by rfl) (ev_fmt ?_)
            walk_at "go"
            refine jn_cons (fun _ => by rfl) ?_
            walk_at "go"
            exact jn_nil (by size_fits) trivial
          · rw [hv]
            rw [hpx] at hr
            dsimp only at hr
            walk_at "go"
            refine if_t rfl ?_
            walk_at "go"
            refine tr_opt O ?_
            cases res with
            | some n =>
              dsimp only at hr
              refine if_t rfl ?_
              walk_at "go"
              refine op_itemD (dict321 O) (fun _ => by with_unfolding_all rfl) (fun _ => by with_unfolding_all rfl) hv (p := .int pi) (fun _ => .int _ _) ?_
              walk_at "go"
              refine mt_getD (dict321 O) ?_
              walk_at "go"
              refine cl_prio O ?_
              walk_at "go"
              cases hb1 : decide (pi ≤ (prio prev).getD (-1)) with
              | false =>
                rw [hb1, Bool.false_and, if_neg (by decide)] at hr
                walk_at "go"
                cases hdp : decide (depth + 1 ≤ 100) with
                | false => rw [if_neg (of_decide_eq_false hdp)] at hr; cases hr
                | true =>
                have hdp := of_decide_eq_true hdp
                rw [if_pos hdp] at hr
                cases e1 : head ts kk (i + 1) (depth + 1) x none with
                | none => rw [e1] at hr; cases hr
                | some r1 =>
                rw [e1] at hr
                walk_at "go"
                have ih1 := ih kk (by omega) (i + 1) (depth + 1) x r1 _ (by omega) (by first | decide | omega) e1 parse_bnds5
                cases r1 with
                | none =>
                  cases hr
                  refine cl_use ih1 (by omega) ?_
                  rintro p ⟨m, j, h, _⟩
                  cases h
                | some q =>
                obtain ⟨m, j⟩ := q
                refine cl_use0 ih1 (by omega) ?_
                rintro p ⟨_, _, h, rfl⟩
                cases h
                dsimp only [after] at hr
                refine ⟨_, _, rfl, ?_⟩
                walk_at "go"
                refine cl_use0 (node3 O _ _ _ (hand_opt (some n)) rfl (hand_pv m) (d := 0)) (by omega) ?_
                rintro _ rfl
                walk_at "go"
                refine cut_next (j, some (.bin n (some x) m)) hr ?_
                dsimp only [optPV, N.pv]
                walk_at "sub"
              | true =>
                rw [hb1, Bool.true_and] at hr
                walk_at "go"
                refine op_notinS ["**", "^"] rfl ?_
                cases hb2 : (["**", "^"] : List Str).any (· == x) with
                | true =>
                  rw [hb2, Bool.not_true, if_neg (by decide)] at hr
                  walk_at "go"
                  cases hdp : decide (depth + 1 ≤ 100) with
                  | false => rw [if_neg (of_decide_eq_false hdp)] at hr; cases hr
                  | true =>
                  have hdp := of_decide_eq_true hdp
                  rw [if_pos hdp] at hr
                  cases e1 : head ts kk (i + 1) (depth + 1) x none with
                  | none => rw [e1] at hr; cases hr
                  | some r1 =>
                  rw [e1] at hr
                  walk_at "go"
                  have ih1 := ih kk (by omega) (i + 1) (depth + 1) x r1 _ (by omega) (by first | decide | omega) e1 parse_bnds5
                  cases r1 with
                  | none =>
                    cases hr
                    refine cl_use ih1 (by omega) ?_
                    rintro p ⟨m, j, h, _⟩
                    cases h
                  | some q =>
                  obtain ⟨m, j⟩ := q
                  refine cl_use0 ih1 (by omega) ?_
                  rintro p ⟨_, _, h, rfl⟩
                  cases h
                  dsimp only [after] at hr
                  refine ⟨_, _, rfl, ?_⟩
                  walk_at "go"
                  refine cl_use0 (node3 O _ _ _ (hand_opt (some n)) rfl (hand_pv m) (d := 0)) (by omega) ?_
                  rintro _ rfl
                  walk_at "go"
                  refine cut_next (j, some (.bin n (some x) m)) hr ?_
                  dsimp only [optPV, N.pv]
                  walk_at "sub"
                | false =>
                  rw [hb2, Bool.not_false, if_pos rfl] at hr
                  walk_at "go"
                  cases i with
                  | zero => cases hr
                  | succ j =>
                  cases hr
                  walk_at "go"
                  rw [show ((j + 1 : Nat) : Int) - 1 = (j : Int) by omega]
                  first | rfl | exact ⟨n, j, rfl, rfl⟩
            | none =>
              dsimp only at hr
              refine if_f rfl ?_
              cases hdp : decide (depth + 1 ≤ 100) with
              | false => rw [if_neg (of_decide_eq_false hdp)] at hr; cases hr
              | true =>
              have hdp := of_decide_eq_true hdp
              rw [if_pos hdp] at hr
              cases e1 : head ts kk (i + 1) (depth + 1) "unary" none with
              | none => rw [e1] at hr; cases hr
              | some r1 =>
              rw [e1] at hr
              walk_at "go"
              have ih1 := ih kk (by omega) (i + 1) (depth + 1) "unary" r1 _ (by omega) (by first | decide | omega) e1 parse_bnds5
              cases r1 with
              | none =>
                cases hr
                refine cl_use ih1 (by omega) ?_
                rintro p ⟨m, j, h, _⟩
                cases h
              | some q =>
              obtain ⟨m, j⟩ := q
              refine cl_use0 ih1 (by omega) ?_
              rintro p ⟨_, _, h, rfl⟩
              cases h
              dsimp only [after] at hr
              refine ⟨_, _, rfl, ?_⟩
              walk_at "go"
              refine cl_use0 (node1u O _ _ (hand_pv m) rfl (d := 0)) (by omega) ?_
              rintro _ rfl
              walk_at "go"
              refine cut_next (j, some (.un x m)) hr ?_
              dsimp only [optPV, N.pv]
              walk_at "sub"
    · intro c1
      rw [if_neg (by rw [c1]; decide)] at hr
      walk_at "go"
      refine op_inS ["NUMBER", "NAME"] rfl ?_
      walk_at "go"
      apply if_b
      · intro c2
        rw [if_pos c2] at hr
        walk_at "go"
        refine tr_opt O ?_
        cases res with
        | some n =>
          dsimp only at hr
          refine if_t rfl ?_
          walk_at "go"
          refine op_itemD (dict321 O) (x := "") (fun _ => by with_unfolding_all rfl) (fun _ => by with_unfolding_all rfl) (u := .int 1 740) (by decide) (p := .int 1) (fun _ => .int _ _) ?_
          walk_at "go"
          refine mt_getD (dict321 O) ?_
          walk_at "go"
          refine cl_prio O ?_
          walk_at "go"
          apply if_b
          · intro c3
            rw [if_pos c3] at hr
            cases i with
            | zero => cases hr
            | succ j =>
            cases hr
            walk_at "go"
            rw [show ((j + 1 : Nat) : Int) - 1 = (j : Int) by omega]
            first | rfl | exact ⟨n, j, rfl, rfl⟩
          · intro c3
            rw [if_neg (by rw [c3]; decide)] at hr
            cases hdp : decide (depth + 1 ≤ 100) with
            | false => rw [if_neg (of_decide_eq_false hdp)] at hr; cases hr
            | true =>
            have hdp := of_decide_eq_true hdp
            rw [if_pos hdp] at hr
            cases e1 : head ts kk i (depth + 1) "" none with
            | none => rw [e1] at hr; cases hr
            | some r1 =>
            rw [e1] at hr
            walk_at "go"
            have ih1 := ih kk (by omega) i (depth + 1) "" r1 _ (by omega) (by first | decide | omega) e1 parse_bnds5
            cases r1 with
            | none =>
              cases hr
              refine cl_use ih1 (by omega) ?_
              rintro p ⟨m, j, h, _⟩
              cases h
            | some q =>
            obtain ⟨m, j⟩ := q
            refine cl_use0 ih1 (by omega) ?_
            rintro p ⟨_, _, h, rfl⟩
            cases h
            dsimp only [after] at hr
            refine ⟨_, _, rfl, ?_⟩
            walk_at "go"
            refine cl_use0 (node2 O _ _ (hand_opt (some n)) (hand_pv m) (d := 0)) (by omega) ?_
            rintro _ rfl
            walk_at "go"
            refine cut_next (j, some (.bin n none m)) hr ?_
            dsimp only [optPV, N.pv]
            walk_at "sub"
        | none =>
          dsimp only at hr
          refine if_f rfl ?_
          walk_at "go"
          refine cl_use0 (node1 O (tokPV ty x) rfl (d := 0)) (by omega) ?_
          rintro _ rfl
          walk_at "go"
          refine cut_next (i, some (.tok ty x)) hr ?_
          dsimp only [optPV, N.pv]
          walk_at "sub"
      · intro c2
        rw [if_neg (by rw [c2]; decide)] at hr
        walk_at "go"
        exact cut_next (i, res) hr (by walk_at "sub")
  · rintro ⟨j, res⟩ hr
    change Ex _ _ _ _ _ [_, _, _] _ _
    dsimp only at hr ⊢
    unfold turn2 at hr
    cases e : ts[j]? with
    | none => rw [e] at hr; cases hr
    | some tk =>
    obtain ⟨ty, x⟩ := tk
    rw [e] at hr
    dsimp only at hr
    have hi : j < ts.length := (List.getElem?_eq_some_iff.mp e).1
    have el : (ts.map fun q => tokPV q.1 q.2)[j]? = some (tokPV ty x) := by rw [List.getElem?_map, e]; rfl
    walk_at "go"
    refine op_at (fun _ _ => ⟨_, rfl⟩) (by omega) el ?_
    walk_at "go"
    apply if_b
    · intro c1
      rw [if_pos c1] at hr
      walk_at "go"
      apply if_b
      · intro c2
        rw [if_pos c2] at hr
        cases hr
        refine ex_raise O (exc69 O) (by omega) rfl (by decide) (fun _ => by rfl) rfl ?_
        exact ev_str trivial
      · intro c2
        rw [if_neg (by rw [c2]; decide)] at hr
        walk_at "go"
        refine op_is (solid_opt _) ?_
        rw [isNone_opt]
        cases res with
        | none =>
          cases hr
          walk_at "go"
          refine ex_raise O (exc69 O) (by omega) rfl (by decide) (fun _ => by rfl) rfl ?_
          exact ev_str trivial
        | some n =>
          dsimp only at hr
          walk_at "go"
          refine if_f rfl ?_
          walk_at "go"
          have e1 : decide ((depth : Int) > 0) = decide (0 < depth) := by
            rw [decide_eq_decide]; omega
          rw [e1]
          cases hb1 : decide (0 < depth) with
          | true =>
            rw [hb1, Bool.true_or, if_pos rfl] at hr
            cases hr
            walk_at "go"
            first | rfl | exact ⟨n, j, rfl, rfl⟩
          | false =>
            rw [hb1, Bool.false_or] at hr
            walk_at "go"
            refine tr_str (by omega) ?_
            cases hb2 : ((prev.length : Int) != 0) with
            | true =>
              rw [hb2, if_pos rfl] at hr
              cases hr
              walk_at "go"
              first | rfl | exact ⟨n, j, rfl, rfl⟩
            | false =>
              rw [hb2, if_neg (by decide)] at hr
              cases hr
    · intro c1
      rw [if_neg (by rw [c1]; decide)] at hr
      cases hlt : decide (j + 1 < ts.length) with
      | false => rw [if_neg (of_decide_eq_false hlt)] at hr; cases hr
      | true =>
      have hlt := of_decide_eq_true hlt
      rw [if_pos hlt] at hr
      walk_at "go"
      refine op_lenL (by rw [List.length_map]; omega) ?_
      rw [List.length_map]
      walk_at "go"
      refine if_f (decide_eq_false (by omega)) ?_
      walk_at "go"
      rw [show ((j : Int) + 1) = ((j + 1 : Nat) : Int) from rfl]
      refine loop_next (j + 1, res, kk) ⟨Nat.le_of_succ_le hk, hr⟩ (Nat.lt_succ_self _) ?_
      dsimp only
      walk_at "sub"
end
end
end Mine

namespace Mine
open PySem PySem.W PySem.Calls PyProof.Rows
section
local macro_rules | `(tactic| walk_at "nm") => `(tactic| first | with_reducible exact nm_add | with_reducible exact nm_mul | with_reducible exact nm_pow_operator | with_reducible exact nm_sub | with_reducible exact nm_truediv | with_reducible exact nm_DefinitionSyntaxError | with_reducible exact nm_common_divisor | with_reducible exact nm_Quotient | with_reducible exact nm_whole | with_reducible exact nm_number_from_text | with_reducible exact nm_TokenInfo | with_reducible exact nm_end_of_figures | with_reducible exact nm_end_of_number | with_reducible exact nm_tokenizer | with_reducible exact nm__power | with_reducible exact nm__divided | with_reducible exact nm__plus | with_reducible exact nm__minus | with_reducible exact nm__UNARY_OPERATOR_MAP | with_reducible exact nm__BINARY_OPERATOR_MAP | with_reducible exact nm__OP_PRIORITY | with_reducible exact nm_EvalTreeNode | with_reducible exact nm__build_eval_tree | with_reducible exact nm_build_eval_tree | with_reducible exact nm__law_cell | with_reducible exact nm__law_tree | with_reducible exact nm__law_bind | with_reducible exact nm__law_is_bare | with_reducible exact nm__law_text | with_reducible exact nm__law_within | with_reducible exact nm__law_told | with_reducible exact nm__law_value | with_reducible exact nm__law_number | with_reducible exact nm__law_is_refused)
local macro_rules | `(tactic| walk_at "mem") => `(tactic| repeat (first | with_reducible exact LMem.head | with_reducible apply LMem.tail))
local macro_rules | `(tactic| walk_at "put") => `(tactic| first
  | with_reducible exact PutR.nil
  | ((with_reducible refine' PutR.pass ?pn ?pr); (case pn => decide); (case pr => walk_at "put"))
  | ((with_reducible refine' PutR.drop ?pr); (case pr => walk_at "put")))
local macro_rules | `(tactic| walk_at "sub") => `(tactic| repeat (first
  | with_reducible exact LSub.nil
  | ((with_reducible refine' LSub.cons ?lm ?_); (case lm => walk_at "mem"))))
local macro_rules | `(tactic| walk_at "go") => `(tactic| repeat (first
  | with_reducible refine' ev_int ?_
  | with_reducible refine' ev_str ?_
  | ((with_reducible refine' ev_var ?hm ?hl ?hd ?_); (case hm => walk_at "mem"); (case hl => rfl); (case hd => decide))
  | ((with_reducible refine' ev_built ?hO ?hv ?he ?hn ?hl ?hd ?_); (case hO => assumption); (case hv => boot_by_name); (case he => kernel_rfl); (case hn => decide); (case hl => rfl); (case hd => decide))
  | ((with_reducible refine' ev_topS ?hO ?he ?hl ?hd ?_); (case he => first | with_reducible exact nm_ENDMARKER | with_reducible exact nm_NAME | with_reducible exact nm_NUMBER | with_reducible exact nm_OP); (case hO => assumption); (case hl => rfl); (case hd => decide))
  | ((with_reducible refine' ev_topI ?hO ?he ?hl ?hd ?_); (case he => with_reducible exact nm__MAX_RECURSION_DEPTH); (case hO => assumption); (case hl => rfl); (case hd => decide))
  | ((with_reducible refine' ev_top ?hO ?he ?hl ?hd ?_); (case hO => assumption); (case he => walk_at "nm"); (case hl => rfl); (case hd => decide))
  | ((with_reducible refine' ev_cel ?hl ?hd ?hc ?hm ?_); (case hl => rfl); (case hd => decide); (case hc => exact rfl); (case hm => exact List.Mem.head _))
  | ((with_reducible refine' And.intro ?hk ?_); (case hk => first | with_reducible exact kp_bi | with_reducible exact kp_ty | ((with_reducible refine' kp_fn ?_); kernel_rfl)))
  | with_reducible refine' evs_nil ?_
  | ((with_reducible refine' evs_more ?he ?_); (case he => intro _; rfl))
  | with_reducible refine' ev_bin ?_
  | with_reducible refine' ev_tup ?_
  | with_reducible refine' ev_lst ?_
  | ((with_reducible refine' And.intro ?hk ?_); (case hk => size_fits))
  | ((with_reducible refine' ev_mcl0 ?hO ?he ?hp ?_); (case hO => assumption); (case he => intro _; exact ⟨_, rfl⟩); (case hp => rfl))
  | ((with_reducible refine' ev_cl0 ?hO ?he ?hp ?_); (case hO => assumption); (case he => intro _; rfl); (case hp => rfl))
  | with_reducible refine' ev_sub ?_
  | ((with_reducible refine' ev_compare ?hm ?_); (case hm => with_unfolding_all rfl))
  | with_reducible refine' ev_attr ?_
  | with_reducible refine' ev_none ?_
  | with_reducible refine' ev_bool ?_
  | with_reducible refine' ev_un ?_
  | with_reducible refine' ev_ife ?_
  | ((with_reducible refine' ev_mcl ?hO ?he ?hp ?hk ?_); (case hO => assumption); (case he => intro _; exact ⟨_, rfl⟩); (case hp => rfl); (case hk => rfl))
  | ((with_reducible refine' ev_cl ?hO ?he ?hp ?hk ?_); (case hO => assumption); (case he => intro _; rfl); (case hp => rfl); (case hk => rfl))
  | with_reducible refine' evk_nil ?_
  | with_reducible refine' evk_cons ?_
  | with_reducible refine' ex_ret ?_
  | ((with_reducible refine' ex_asg ?hl ?hs ?_); (case hl => rfl); (case hs => intro _; rfl))
  | ((with_reducible refine' ex_swap2 ?hs ?hw ?hx ?hy ?_); (case hs => intro _; rfl); (case hw => intro _; rfl); (case hx => rfl); (case hy => rfl))
  | ((with_reducible refine' ex_tup2 ?hs ?hw ?hx ?hy ?_); (case hs => intro _; rfl); (case hw => intro _; rfl); (case hx => rfl); (case hy => rfl))
  | ((with_reducible refine' ex_aug ?hm ?hl ?_); (case hm => walk_at "mem"); (case hl => rfl))
  | ((with_reducible refine' Exists.intro _ (And.intro (?hp : PutR _ _ _ _) ?_)); (case hp => walk_at "put"))
  | with_reducible refine' Exists.intro _ (Exists.intro _ (And.intro rfl ?_))
  | with_reducible refine' Exists.intro _ (And.intro rfl ?_)
  | with_reducible refine' ex_if ?_
  | with_reducible refine' ex_nil ?_
  | with_reducible refine' ex_cont ?_
  | with_reducible refine' ex_pass ?_
  | with_reducible refine' ex_assert ?_
  | with_reducible refine' sq_next ?_
  | with_reducible refine' sq_ret ?_
  | with_reducible refine' sq_brk ?_
  | with_reducible refine' sq_cont ?_
  | with_reducible refine' retp ?_
  | with_reducible refine' cut_ret ?_
  | with_reducible refine' loop_ret ?_
  | with_reducible refine' loop_brk ?_
  | with_reducible refine' retn ?_
  | with_reducible refine' ts_not ?_
  | with_reducible refine' ts_andN ?_
  | with_reducible refine' ts_orN ?_
  | with_reducible refine' ts_and ?_
  | with_reducible refine' ts_or ?_
  | ((with_reducible refine' ts_compare ?hm ?_); (case hm => with_unfolding_all rfl))
  | ((with_reducible refine' ts_val ?_ ?he); (case he => intro _ _; rfl))
  | with_reducible refine' d2_add ?_
  | with_reducible refine' d2_sub ?_
  | with_reducible refine' d2_iadd ?_
  | with_reducible refine' d1_neg ?_
  | with_reducible refine' d2_lt ?_
  | with_reducible refine' d2_gt ?_
  | with_reducible refine' d2_le ?_
  | with_reducible refine' d2_ge ?_
  | with_reducible refine' d2_eq ?_
  | with_reducible refine' d2_ne ?_
  | with_reducible refine' d2_seq ?_
  | with_reducible refine' d2_sne ?_
  | with_reducible refine' tr_bool ?_
  | with_reducible refine' tr_none ?_
  | with_reducible refine' tr_int ?_
  | with_reducible refine' cl_abs ?_
  | with_reducible refine' cl_int ?_
  | ((with_reducible refine' op_fdiv ?hO ?hb ?hd ?hg ?hc ?hh ?_); (case hO => assumption); (case hb => decide); (case hd => decide); (case hg => rfl); (case hc => rfl); (case hh => rfl))
  | ((with_reducible refine' op_headNum ?hs ?_); (case hs => intro _ _; exact ⟨_, rfl⟩))
  | ((with_reducible refine' op_headNeg ?hs ?_); (case hs => intro _ _; exact ⟨_, rfl⟩))
  | ((with_reducible refine' op_headBin ?hs ?_); (case hs => intro _ _; exact ⟨_, rfl⟩))
  | ((with_reducible refine' op_head ?hs ?_); (case hs => intro _ _; exact ⟨_, rfl⟩))
  | ((with_reducible refine' op_num1 ?hs ?_); (case hs => intro _ _; exact ⟨_, rfl⟩))
  | ((with_reducible refine' op_neg1 ?hs ?_); (case hs => intro _ _; exact ⟨_, rfl⟩))
  | ((with_reducible refine' op_bin1 ?hs ?_); (case hs => intro _ _; exact ⟨_, rfl⟩))
  | ((with_reducible refine' op_bin2 ?hs ?_); (case hs => intro _ _; exact ⟨_, rfl⟩))
  | ((with_reducible refine' if_t ?hc ?_); (case hc => decide))
  | ((with_reducible refine' if_f ?hc ?_); (case hc => decide))
  | with_reducible refine' ev_slcTo ?_
  | ((with_reducible refine' tk_string ?hO ?_); (case hO => assumption))
  | ((with_reducible refine' tk_type ?hO ?_); (case hO => assumption))
  | ((with_reducible refine' nd_left ?hO ?_); (case hO => assumption))
  | ((with_reducible refine' nd_op ?hO ?_); (case hO => assumption))
  | ((with_reducible refine' nd_right ?hO ?_); (case hO => assumption))
  | ((with_reducible refine' tr_tok ?hO ?_); (case hO => assumption))
  | ((with_reducible refine' tr_node ?hO ?_); (case hO => assumption))
  | with_reducible refine' ev_slcFrom ?_
  | with_reducible refine' ev_slcBoth ?_
  ))
/-! ## the figures of a number -/
def isDig (c : Nat) : Bool := !(Builtin.Str.occurrences (Str.ofString "0123456789") ⟨#[c]⟩ 0 (Str.ofString "0123456789").length 1).isEmpty
section
variable {w : World} {loose : List Str} {mean : ExcName → Option Value} {mg mb : Str → Option Value} {base : Heap}
theorem figs_spec (O : (GG w loose mean mg mb base).Ok) {x : Str} {p c : Nat} {d : Nat} (hz : x.length ≤ 100000) (hc : x.cps[p]? = some c) (hd : isDig c = true) (hn : ∀ c', x.cps[p+1]? = some c' → isDig c' = false) :
    Fn (GG w loose mean mg mb base) (d + 1) (.ref 276) [.str x, .int (p : Int)] [] (fun r => r = .int ((p + 1 : Nat) : Int)) none := by
  have hp : p < x.length := (Array.getElem?_eq_some_iff.mp hc).1
  refine fn_intro O (d := d) (ps := [("text", .str x), ("place", .int (p : Int))]) (by rfl) (by kernel_rfl) (bnds2 fun _ _ => by rfl) ?_ (by rfl) (of_decide_eq_true (by kernel_rfl)) (by rfl) rfl rfl rfl
  refine ex_while (fun (q : Nat) => [("text", .str x), ("place", .int (q : Int))]) (fun q => q = p ∨ q = p + 1) (fun q => p + 1 - q) p (.inl rfl) (LSub.all (by walk_at "sub")) rfl ?_
  rintro q (rfl | rfl)
  · walk_at "go"
    refine op_lenS (by omega) ?_
    walk_at "go"
    refine if_t (decide_eq_true (by omega)) ?_
    walk_at "go"
    refine op_itemS (fun _ _ => ⟨_, rfl⟩) (by omega) hc ?_
    walk_at "go"
    refine d2_sin ?_
    refine tr_bool ?_
    refine if_t hd ?_
    walk_at "go"
    refine loop_next (q + 1) (.inr rfl) (by omega) ?_
    rw [show ((q : Int) + 1) = ((q + 1 : Nat) : Int) from rfl]
    walk_at "sub"
  · walk_at "go"
    refine op_lenS (by omega) ?_
    walk_at "go"
    cases e : x.cps[p+1]? with
    | none =>
      have : x.length ≤ p + 1 := by have := Array.getElem?_eq_none_iff.mp e; exact this
      refine if_f (decide_eq_false (by omega)) ?_
      walk_at "go"
      rfl
    | some c' =>
      have : p + 1 < x.length := (Array.getElem?_eq_some_iff.mp e).1
      refine if_t (decide_eq_true (by omega)) ?_
      walk_at "go"
      refine op_itemS (fun _ _ => ⟨_, rfl⟩) (by omega) e ?_
      walk_at "go"
      refine d2_sin ?_
      refine tr_bool ?_
      refine if_f (hn c' e) ?_
      walk_at "go"
      rfl
theorem number_end (O : (GG w loose mean mg mb base).Ok) {x : Str} {p c : Nat} {d : Nat} (hz : x.length ≤ 100000) (hc : x.cps[p]? = some c) (hd : isDig c = true) (hn : ∀ c', x.cps[p+1]? = some c' → isDig c' = false)
    (h1 : (Txt.slice x (some ((p + 1 : Nat) : Int)) (some (((p + 1 : Nat) : Int) + 1)) == ".") = false) (h2 : (["e", "E"] : List Str).any (· == Txt.slice x (some ((p + 1 : Nat) : Int)) (some (((p + 1 : Nat) : Int) + 1))) = false) :
    Fn (GG w loose mean mg mb base) (d + 2) (.ref 283) [.str x, .int (p : Int)] [] (fun r => r = .int ((p + 1 : Nat) : Int)) none := by
  refine fn_intro O (d := d + 1) (ps := [("text", .str x), ("place", .int (p : Int))]) (by rfl) (by kernel_rfl) (bnds2 fun _ _ => by rfl) ?_ (by rfl) (of_decide_eq_true (by kernel_rfl)) (by rfl) rfl rfl rfl
  walk_at "go"
  refine cl_use0 (figs_spec O hz hc hd hn) (Nat.le_refl _) ?_
  rintro _ rfl
  walk_at "go"
  refine op_sliceS (fun _ _ => ⟨_, rfl⟩) (by rw [sizeLine_eq]; omega) ?_
  walk_at "go"
  refine if_f h1 ?_
  walk_at "go"
  refine op_sliceS (fun _ _ => ⟨_, rfl⟩) (by rw [sizeLine_eq]; omega) ?_
  walk_at "go"
  refine op_inS ["e", "E"] rfl ?_
  walk_at "go"
  refine if_f h2 ?_
  walk_at "go"
  rfl
end
end
end Mine

namespace Mine
open PySem PySem.W PySem.Calls PyProof.Rows
section
local macro_rules | `(tactic| walk_at "nm") => `(tactic| first | with_reducible exact nm_add | with_reducible exact nm_mul | with_reducible exact nm_pow_operator | with_reducible exact nm_sub | with_reducible exact nm_truediv | with_reducible exact nm_DefinitionSyntaxError | with_reducible exact nm_common_divisor | with_reducible exact nm_Quotient | with_reducible exact nm_whole | with_reducible exact nm_number_from_text | with_reducible exact nm_TokenInfo | with_reducible exact nm_end_of_figures | with_reducible exact nm_end_of_number | with_reducible exact nm_tokenizer | with_reducible exact nm__power | with_reducible exact nm__divided | with_reducible exact nm__plus | with_reducible exact nm__minus | with_reducible exact nm__UNARY_OPERATOR_MAP | with_reducible exact nm__BINARY_OPERATOR_MAP | with_reducible exact nm__OP_PRIORITY | with_reducible exact nm_EvalTreeNode | with_reducible exact nm__build_eval_tree | with_reducible exact nm_build_eval_tree | with_reducible exact nm__law_cell | with_reducible exact nm__law_tree | with_reducible exact nm__law_bind | with_reducible exact nm__law_is_bare | with_reducible exact nm__law_text | with_reducible exact nm__law_within | with_reducible exact nm__law_told | with_reducible exact nm__law_value | with_reducible exact nm__law_number | with_reducible exact nm__law_is_refused)
local macro_rules | `(tactic| walk_at "mem") => `(tactic| repeat (first | with_reducible exact LMem.head | with_reducible apply LMem.tail))
local macro_rules | `(tactic| walk_at "put") => `(tactic| first
  | with_reducible exact PutR.nil
  | ((with_reducible refine' PutR.pass ?pn ?pr); (case pn => decide); (case pr => walk_at "put"))
  | ((with_reducible refine' PutR.drop ?pr); (case pr => walk_at "put")))
local macro_rules | `(tactic| walk_at "sub") => `(tactic| repeat (first
  | with_reducible exact LSub.nil
  | ((with_reducible refine' LSub.cons ?lm ?_); (case lm => walk_at "mem"))))
local macro_rules | `(tactic| walk_at "go") => `(tactic| repeat (first
  | with_reducible refine' ev_int ?_
  | with_reducible refine' ev_str ?_
  | ((with_reducible refine' ev_var ?hm ?hl ?hd ?_); (case hm => walk_at "mem"); (case hl => rfl); (case hd => decide))
  | ((with_reducible refine' ev_built ?hO ?hv ?he ?hn ?hl ?hd ?_); (case hO => assumption); (case hv => boot_by_name); (case he => kernel_rfl); (case hn => decide); (case hl => rfl); (case hd => decide))
  | ((with_reducible refine' ev_topS ?hO ?he ?hl ?hd ?_); (case he => first | with_reducible exact nm_ENDMARKER | with_reducible exact nm_NAME | with_reducible exact nm_NUMBER | with_reducible exact nm_OP); (case hO => assumption); (case hl => rfl); (case hd => decide))
  | ((with_reducible refine' ev_topI ?hO ?he ?hl ?hd ?_); (case he => with_reducible exact nm__MAX_RECURSION_DEPTH); (case hO => assumption); (case hl => rfl); (case hd => decide))
  | ((with_reducible refine' ev_top ?hO ?he ?hl ?hd ?_); (case hO => assumption); (case he => walk_at "nm"); (case hl => rfl); (case hd => decide))
  | ((with_reducible refine' ev_cel ?hl ?hd ?hc ?hm ?_); (case hl => rfl); (case hd => decide); (case hc => exact rfl); (case hm => exact List.Mem.head _))
  | ((with_reducible refine' And.intro ?hk ?_); (case hk => first | with_reducible exact kp_bi | with_reducible exact kp_ty | ((with_reducible refine' kp_fn ?_); kernel_rfl)))
  | with_reducible refine' evs_nil ?_
  | ((with_reducible refine' evs_more ?he ?_); (case he => intro _; rfl))
  | with_reducible refine' ev_bin ?_
  | with_reducible refine' ev_tup ?_
  | with_reducible refine' ev_lst ?_
  | ((with_reducible refine' And.intro ?hk ?_); (case hk => size_fits))
  | ((with_reducible refine' ev_mcl0 ?hO ?he ?hp ?_); (case hO => assumption); (case he => intro _; exact ⟨_, rfl⟩); (case hp => rfl))
  | ((with_reducible refine' ev_cl0 ?hO ?he ?hp ?_); (case hO => assumption); (case he => intro _; rfl); (case hp => rfl))
  | with_reducible refine' ev_sub ?_
  | ((with_reducible refine' ev_compare ?hm ?_); (case hm => with_unfolding_all rfl))
  | with_reducible refine' ev_attr ?_
  | with_reducible refine' ev_none ?_
  | with_reducible refine' ev_bool ?_
  | with_reducible refine' ev_un ?_
  | with_reducible refine' ev_ife ?_
  | ((with_reducible refine' ev_mcl ?hO ?he ?hp ?hk ?_); (case hO => assumption); (case he => intro _; exact ⟨_, rfl⟩); (case hp => rfl); (case hk => rfl))
  | ((with_reducible refine' ev_cl ?hO ?he ?hp ?hk ?_); (case hO => assumption); (case he => intro _; rfl); (case hp => rfl); (case hk => rfl))
  | with_reducible refine' evk_nil ?_
  | with_reducible refine' evk_cons ?_
  | with_reducible refine' ex_ret ?_
  | ((with_reducible refine' ex_asg ?hl ?hs ?_); (case hl => rfl); (case hs => intro _; rfl))
  | ((with_reducible refine' ex_swap2 ?hs ?hw ?hx ?hy ?_); (case hs => intro _; rfl); (case hw => intro _; rfl); (case hx => rfl); (case hy => rfl))
  | ((with_reducible refine' ex_tup2 ?hs ?hw ?hx ?hy ?_); (case hs => intro _; rfl); (case hw => intro _; rfl); (case hx => rfl); (case hy => rfl))
  | ((with_reducible refine' ex_aug ?hm ?hl ?_); (case hm => walk_at "mem"); (case hl => rfl))
  | ((with_reducible refine' Exists.intro _ (And.intro (?hp : PutR _ _ _ _) ?_)); (case hp => walk_at "put"))
  | with_reducible refine' Exists.intro _ (Exists.intro _ (And.intro rfl ?_))
  | with_reducible refine' Exists.intro _ (And.intro rfl ?_)
  | with_reducible refine' ex_if ?_
  | with_reducible refine' ex_nil ?_
  | with_reducible refine' ex_cont ?_
  | with_reducible refine' ex_pass ?_
  | with_reducible refine' ex_assert ?_
  | with_reducible refine' sq_next ?_
  | with_reducible refine' sq_ret ?_
  | with_reducible refine' sq_brk ?_
  | with_reducible refine' sq_cont ?_
  | with_reducible refine' retp ?_
  | with_reducible refine' cut_ret ?_
  | with_reducible refine' loop_ret ?_
  | with_reducible refine' loop_brk ?_
  | with_reducible refine' retn ?_
  | with_reducible refine' ts_not ?_
  | with_reducible refine' ts_andN ?_
  | with_reducible refine' ts_orN ?_
  | with_reducible refine' ts_and ?_
  | with_reducible refine' ts_or ?_
  | ((with_reducible refine' ts_compare ?hm ?_); (case hm => with_unfolding_all rfl))
  | ((with_reducible refine' ts_val ?_ ?he); (case he => intro _ _; rfl))
  | with_reducible refine' d2_add ?_
  | with_reducible refine' d2_sub ?_
  | with_reducible refine' d2_iadd ?_
  | with_reducible refine' d1_neg ?_
  | with_reducible refine' d2_lt ?_
  | with_reducible refine' d2_gt ?_
  | with_reducible refine' d2_le ?_
  | with_reducible refine' d2_ge ?_
  | with_reducible refine' d2_eq ?_
  | with_reducible refine' d2_ne ?_
  | with_reducible refine' d2_seq ?_
  | with_reducible refine' d2_sne ?_
  | with_reducible refine' tr_bool ?_
  | with_reducible refine' tr_none ?_
  | with_reducible refine' tr_int ?_
  | with_reducible refine' cl_abs ?_
  | with_reducible refine' cl_int ?_
  | ((with_reducible refine' op_fdiv ?hO ?hb ?hd ?hg ?hc ?hh ?_); (case hO => assumption); (case hb => decide); (case hd => decide); (case hg => rfl); (case hc => rfl); (case hh => rfl))
  | ((with_reducible refine' op_headNum ?hs ?_); (case hs => intro _ _; exact ⟨_, rfl⟩))
  | ((with_reducible refine' op_headNeg ?hs ?_); (case hs => intro _ _; exact ⟨_, rfl⟩))
  | ((with_reducible refine' op_headBin ?hs ?_); (case hs => intro _ _; exact ⟨_, rfl⟩))
  | ((with_reducible refine' op_head ?hs ?_); (case hs => intro _ _; exact ⟨_, rfl⟩))
  | ((with_reducible refine' op_num1 ?hs ?_); (case hs => intro _ _; exact ⟨_, rfl⟩))
  | ((with_reducible refine' op_neg1 ?hs ?_); (case hs => intro _ _; exact ⟨_, rfl⟩))
  | ((with_reducible refine' op_bin1 ?hs ?_); (case hs => intro _ _; exact ⟨_, rfl⟩))
  | ((with_reducible refine' op_bin2 ?hs ?_); (case hs => intro _ _; exact ⟨_, rfl⟩))
  | ((with_reducible refine' if_t ?hc ?_); (case hc => decide))
  | ((with_reducible refine' if_f ?hc ?_); (case hc => decide))
  | with_reducible refine' ev_slcTo ?_
  | ((with_reducible refine' tk_string ?hO ?_); (case hO => assumption))
  | ((with_reducible refine' tk_type ?hO ?_); (case hO => assumption))
  | ((with_reducible refine' nd_left ?hO ?_); (case hO => assumption))
  | ((with_reducible refine' nd_op ?hO ?_); (case hO => assumption))
  | ((with_reducible refine' nd_right ?hO ?_); (case hO => assumption))
  | ((with_reducible refine' tr_tok ?hO ?_); (case hO => assumption))
  | ((with_reducible refine' tr_node ?hO ?_); (case hO => assumption))
  | with_reducible refine' ev_slcFrom ?_
  | with_reducible refine' ev_slcBoth ?_
  ))
def sliceS (x : Str) (a b : Nat) : Str := Txt.slice x (some (a : Int)) (some (b : Int))
def inSp (c : Nat) : Bool := !(Builtin.Str.occurrences (Str.ofString " \t") ⟨#[c]⟩ 0 (Str.ofString " \t").length 1).isEmpty
/-- the tokens of x from p on -/
inductive Tkz (x : Str) : Nat → List (Str × Str) → Prop
  | done {p : Nat} : p = x.length → Tkz x p []
  | skip {p c : Nat} {ts : List (Str × Str)} : x.cps[p]? = some c → inSp c = true → Tkz x (p + 1) ts → Tkz x p ts
  | num {p c : Nat} {t : Str} {ts : List (Str × Str)} : x.cps[p]? = some c → inSp c = false → isDig c = true → (∀ c', x.cps[p+1]? = some c' → isDig c' = false) → (sliceS x (p + 1) (p + 2) == ".") = false →
      (["e", "E"] : List Str).any (· == sliceS x (p + 1) (p + 2)) = false → sliceS x p (p + 1) = t → Tkz x (p + 1) ts → Tkz x p (("NUMBER", t) :: ts)
  | op1 {p c : Nat} {t : Str} {ts : List (Str × Str)} : x.cps[p]? = some c → inSp c = false → isDig c = false → ((⟨#[c]⟩ : Str) == ".") = false → Txt.isidentifier ⟨#[c]⟩ = false →
      (["**", "//"] : List Str).any (· == sliceS x p (p + 2)) = false → sliceS x p (p + 1) = t → Tkz x (p + 1) ts → Tkz x p (("OP", t) :: ts)
  | op2 {p c : Nat} {t : Str} {ts : List (Str × Str)} : x.cps[p]? = some c → inSp c = false → isDig c = false → ((⟨#[c]⟩ : Str) == ".") = false → Txt.isidentifier ⟨#[c]⟩ = false →
      (["**", "//"] : List Str).any (· == sliceS x p (p + 2)) = true → sliceS x p (p + 2) = t → p + 2 ≤ x.length → Tkz x (p + 2) ts → Tkz x p (("OP", t) :: ts)
abbrev endTok : Str × Str := ("ENDMARKER", "")
section
variable {w : World} {loose : List Str} {mean : ExcName → Option Value} {mg mb : Str → Option Value} {base : Heap}
theorem parse_bnds4 {a b c e : PV} : Bnds (GG w loose mean mg mb base) (fdAt (GG w loose mean mg mb base).K 366) [a, b, c, e] [] [("tokens", a), ("op_priority", b), ("index", c), ("depth", e), ("prev_op", .str "<none>")] := by
  rw [fdAt_eq (K := (GG w loose mean mg mb base).K) (f := 366) (by rfl)]
  intro s Z vs kvs X rv hk rk
  obtain rfl := kv0 hk
  cases rv with | cons r1 rv =>
  cases rv with | cons r2 rv =>
  cases rv with | cons r3 rv =>
  cases rv with | cons r4 rv =>
  cases rv
  exact ⟨[("tokens", _), ("op_priority", _), ("index", _), ("depth", _), ("prev_op", .str "<none>" _)], binds_K X rfl rfl rfl rfl rfl, .cons r1 (.cons r2 (.cons r3 (.cons r4 (.cons (.str _ _) .nil))))⟩
theorem tk_at (pre ts' : List (Str × Str)) (a e : Str × Str) : (((pre ++ a :: ts') ++ [e]).map fun q => tokPV q.1 q.2)[(((pre ++ a :: ts') ++ [e]).map fun q => tokPV q.1 q.2).length - 1 - (ts'.length + 1)]? = some (tokPV a.1 a.2) := by
  have e1 : (((pre ++ a :: ts') ++ [e]).map fun q => tokPV q.1 q.2).length - 1 - (ts'.length + 1) = pre.length := by simp
  rw [e1]
  simp
theorem bet_spec (O : (GG w loose mean mg mb base).Ok) {F : FnLit} {d : Nat} {own : List (Addr × Obj)} {σ : List (Str × PV)} {xt x : Str} {p1 p2 px q1 q2 : Pos} {ts : List (Str × Str)} {k : Nat} {r : Option (N × Nat)} (hT : Tkz x 0 ts) (hz : x.length ≤ 100000) (hts : ts.length ≤ 90000) (htx : ∀ q ∈ ts, q.2.length ≤ 1000)
    (hr : head (ts ++ [endTok]) k 0 0 "<none>" none = some r) (hd : k + 300 ≤ d)
    (hn1 : ∀ own σ, Ev (GG w loose mean mg mb base) F d own σ (.Name "tokenizer" p1) (fun p => p = .raw (.ref 290)) none) (hn2 : Ev (GG w loose mean mg mb base) F d own σ (.Name "build_eval_tree" p2) (fun p => p = .raw (.ref 374)) none) (hxt : Ev (GG w loose mean mg mb base) F d own σ (.Name xt px) (fun p => p = .str x) none) :
    Ev (GG w loose mean mg mb base) F d own σ (.Call (.Name "build_eval_tree" p2) [.Call (.Name "tokenizer" p1) [.Name xt px] [] q1] [] q2) (fun p => ∃ n j, r = some (n, j) ∧ p = n.pv) (rX r) := by
  refine ev_bet O (f1 := 290) (f2 := 374) (ps := (ts ++ [endTok]).map fun q => tokPV q.1 q.2) (x1 := "input_string") (x2 := "tokens") (y2 := "op_priority") (py := .raw (.ref 321)) (tx := x) ?hps (by omega) (by rfl) (by kernel_rfl) (by kernel_rfl) (fun _ => by rfl) (by rfl) (by rfl) (by rfl) (by rfl) (by rfl) ?walk
    (by rfl) (by kernel_rfl) (by kernel_rfl) (fun s v X => binds_K X rfl rfl rfl rfl rfl) (by rfl) (by rfl) (by rfl) (by rfl) (by rfl) (by rfl) (by decide) (by decide) ?h1 ?ht ?hlist (fun _ => by rfl) ?h2 hn1 hn2 hxt
  case hps => rw [List.length_map, List.length_append, sizeLine_eq]; show ts.length + 1 ≤ _; omega
  case h1 =>
    intro own a
    walk_at "go"
    refine op_is rfl ?_
    walk_at "go"
    try refine ⟨rfl, rfl, ?_⟩
    walk_at "sub"
  case ht =>
    intro own a oI hm hc
    walk_at "go"
    refine op_isiGen O hm hc (b := false) (by kernel_rfl) ?_
    walk_at "go"
    rfl
  case hlist =>
    intro own σ
    walk_at "go"
    rfl
  case h2 =>
    intro own
    walk_at "go"
    refine cl_use (parse_go O (ts ++ [endTok]) (by rw [List.length_append]; show ts.length + 1 ≤ _; omega) (fun q hq => ?_) k 0 0 "<none>" r _ (by decide) (by decide) hr parse_bnds4) (by omega) ?_
    · rcases List.mem_append.mp hq with hq | hq
      · exact htx q hq
      · rw [List.mem_singleton.mp hq]; decide
    rintro p ⟨n, j, hrj, rfl⟩
    refine ⟨_, _, rfl, ?_⟩
    walk_at "go"
    exact ⟨n, j, hrj, rfl⟩
  case walk =>
    intro c C hF hd s m inv st
    have hex : c.F.ex = true := by rw [hF]
    have hco : c.F.scope.isCoroutine = false := by rw [hF]
    have ov1 : ∀ b, c.OverOk (.func b (c.F.env c.Lg)) [] := fun b => ⟨C.hd, by show pushEnvs [_] c.A.frames = _; rw [C.fr]; rfl, by show c.A.depth + 0 + 1 ≤ _; omega, by show c.A.units + 0 + 3 ≤ _; omega⟩
    refine seg_func ?_
    show Seg _ _ _ _ _ _ _ (Sem.wrap _ _ _ _ (execs ([_] ++ [_, _]) _)) _ _
    rw [execs_app_wrap]
    refine sg_ex C hex (ov1 _) inv st (P := fun fo σ' => fo = .next ∧ LSub σ' [("input_string", .str x), ("place", .int 0)]) (fun own => ?_) (fun fl s1 m1 σ1 fo inv1 kp1 st1 fr1 hP => ?_)
    · rw [hF]
      walk_at "go"
      try refine ⟨rfl, rfl, ?_⟩
      walk_at "sub"
    obtain ⟨rfl, ls1⟩ := hP
    cases fl <;> first | exact fr1.elim | skip
    have st1' : StR (c.ZM s1.heap) m1 [("input_string", .str x), ("place", .int ((0 : Nat) : Int))] := fun q hq => st1 q (ls1.all q hq)
    dsimp only
    refine seg_execs_cons (seg_While fun p => ?_)
    have ov2 : ∀ t b o b2 k p, c.OverOk (.whileLoop t b o (c.F.env c.Lg)) [.ret k none (id false) (id []) (.func b2 (c.F.env c.Lg)) p []] := fun t b o b2 k p => ⟨C.hd, by show pushEnvs [] (pushEnvs [_] c.A.frames) = _; rw [C.fr]; rfl, by show c.A.depth + 1 + 0 ≤ _; omega, by show c.A.units + 3 + 0 ≤ _; omega⟩
    obtain ⟨ts₀, pre, q, hts₀, e0, hlen, st1''⟩ : ∃ ts₀ pre q, Tkz x q ts₀ ∧ ts = pre ++ ts₀ ∧ ((ts ++ [endTok]).map fun q => tokPV q.1 q.2).length = ts₀.length + 1 ∧ StR (c.ZM s1.heap) m1 [("input_string", .str x), ("place", .int ((q : Nat) : Int))] := ⟨ts, [], 0, hT, rfl, by simp, st1'⟩
    rw [hlen]
    clear hlen inv st st1 ls1 fr1 st1'
    have st1' := st1''
    clear st1''
    induction hts₀ generalizing pre s s1 m1 with
    | @done q hq =>
      refine seg_whileLoop (sg_test C hex (ov2 _ _ _ _ _ _) inv1 st1' (B := fun b => b = decide (q < x.length)) (fun own => ?_) fun b s2 inv2 kp2 st2 hb => ?_)
      · rw [hF]
        walk_at "go"
        refine op_lenS (by omega) ?_
        walk_at "go"
        rw [decide_eq_decide]; omega
      rw [hb, decide_eq_false (by omega), if_neg Bool.false_ne_true]
      show Seg _ _ _ _ _ _ _ (leafOf (.ok .next)) _ _
      refine seg_leaf (.ok .next) ?_
      show Seg _ _ _ _ _ _ _ (Sem.wrap _ _ _ _ (execs [_] _)) _ _
      refine seg_execs_cons (sg_yield C hex rfl rfl rfl (ov1 _) inv2 (kp1.trans kp2) st2 (n := 0) (p := tokPV "ENDMARKER" "") ?_ (fun own => ?_) hco fun s3 inv3 st3 => ?_)
      · rw [e0]; simp
      · rw [hF]
        walk_at "go"
        refine cl_use0 (token_spec O _ _ (d := 0)) (by omega) ?_
        rintro _ rfl
        rfl
      · show Seg _ _ _ _ _ _ _ (leafOf (.ok (.ret .none))) _ _
        exact seg_end (.ok (.ret .none)) ⟨rfl, rfl, ⟨_, inv3⟩, .refl _ _⟩
    | @skip q ch ts' hc hs hT' ih =>
      have hq : q < x.length := (Array.getElem?_eq_some_iff.mp hc).1
      refine seg_whileLoop (sg_test C hex (ov2 _ _ _ _ _ _) inv1 st1' (B := fun b => b = decide (q < x.length)) (fun own => ?_) fun b s2 inv2 kp2 st2 hb => ?_)
      · rw [hF]
        walk_at "go"
        refine op_lenS (by omega) ?_
        walk_at "go"
        rw [decide_eq_decide]; omega
      rw [hb, decide_eq_true hq, if_pos rfl]
      show Seg _ _ _ _ _ _ _ (Sem.wrap _ _ _ _ (execs ([_, _, _, _, _] ++ [_, _]) _)) _ _
      rw [execs_app_wrap]
      refine sg_ex C hex (ov2 _ _ _ _ _ _) inv2 st2 (P := fun fo σ' => fo = .cont ∧ LSub σ' [("input_string", .str x), ("place", .int ((q + 1 : Nat) : Int))]) (fun own => ?_) (fun fl s3 m3 σ3 fo inv3 kp3 st3 fr3 hP => ?_)
      · rw [hF]
        walk_at "go"
        refine op_itemS (fun _ _ => ⟨_, rfl⟩) (by omega) hc ?_
        walk_at "go"
        refine d2_sin ?_
        refine tr_bool ?_
        refine if_t hs ?_
        walk_at "go"
        rw [show ((q : Int) + 1) = ((q + 1 : Nat) : Int) from rfl]
        walk_at "sub"
      obtain ⟨rfl, ls3⟩ := hP
      cases fl <;> first | exact fr3.elim | skip
      exact seg_again rfl (ih s s3 m3 inv3 ((kp1.trans kp2).trans kp3) pre e0 (fun z hz => st3 z (ls3.all z hz)))
    | @num q ch t ts' hc hs hdg hn h1 h2 ht hT' ih =>
      have hq : q < x.length := (Array.getElem?_eq_some_iff.mp hc).1
      refine seg_whileLoop (sg_test C hex (ov2 _ _ _ _ _ _) inv1 st1' (B := fun b => b = decide (q < x.length)) (fun own => ?_) fun b s2 inv2 kp2 st2 hb => ?_)
      · rw [hF]
        walk_at "go"
        refine op_lenS (by omega) ?_
        walk_at "go"
        rw [decide_eq_decide]; omega
      rw [hb, decide_eq_true hq, if_pos rfl]
      show Seg _ _ _ _ _ _ _ (Sem.wrap _ _ _ _ (execs ([_, _, _, _, _] ++ [_, _]) _)) _ _
      rw [execs_app_wrap]
      refine sg_ex C hex (ov2 _ _ _ _ _ _) inv2 st2 (P := fun fo σ' => fo = .next ∧ LSub σ' [("input_string", .str x), ("place", .int (q : Int)), ("kind", .str "NUMBER"), ("end", .int ((q + 1 : Nat) : Int))]) (fun own => ?_) (fun fl s3 m3 σ3 fo inv3 kp3 st3 fr3 hP => ?_)
      · rw [hF]
        walk_at "go"
        refine op_itemS (fun _ _ => ⟨_, rfl⟩) (by omega) hc ?_
        walk_at "go"
        refine d2_sin ?_
        refine tr_bool ?_
        refine if_f hs ?_
        walk_at "go"
        refine d2_sin ?_
        refine tr_bool ?_
        refine if_t hdg ?_
        walk_at "go"
        refine cl_use0 (number_end O (d := 2) (by omega) hc hdg hn h1 h2) (by omega) ?_
        rintro _ rfl
        walk_at "go"
        try refine ⟨rfl, rfl, ?_⟩
        walk_at "sub"
      obtain ⟨rfl, ls3⟩ := hP
      cases fl <;> first | exact fr3.elim | skip
      have st3' := fun z hz => st3 z (ls3.all z hz)
      dsimp only
      show Seg _ _ _ _ _ _ _ (Sem.wrap _ _ _ _ (execs [_, _] _)) _ _
      refine seg_execs_cons (sg_yield C hex rfl rfl rfl (ov2 _ _ _ _ _ _) inv3 ((kp1.trans kp2).trans kp3) st3' (n := ts'.length + 1) (p := tokPV "NUMBER" t) ?_ (fun own => ?_) hco fun s4 inv4 st4 => ?_)
      · rw [e0]; exact tk_at ..
      · rw [hF]
        walk_at "go"
        refine op_sliceS (fun _ _ => ⟨_, rfl⟩) (by rw [sizeLine_eq]; omega) ?_
        rw [show Txt.slice x (some (q : Int)) (some ((q + 1 : Nat) : Int)) = t from ht]
        walk_at "go"
        refine cl_use0 (token_spec O _ _ (d := 0)) (by omega) ?_
        rintro _ rfl
        rfl
      show Seg _ _ _ _ _ _ _ (Sem.wrap _ _ _ _ (execs [_] _)) _ _
      refine sg_ex C hex (ov2 _ _ _ _ _ _) inv4 st4 (P := fun fo σ' => fo = .next ∧ LSub σ' [("input_string", .str x), ("place", .int ((q + 1 : Nat) : Int))]) (fun own => ?_) (fun fl s5 m5 σ5 fo inv5 kp5 st5 fr5 hP => ?_)
      · rw [hF]
        walk_at "go"
        try refine ⟨rfl, rfl, ?_⟩
        walk_at "sub"
      obtain ⟨rfl, ls5⟩ := hP
      cases fl <;> first | exact fr5.elim | skip
      exact seg_again rfl (ih s4 s5 m5 inv5 kp5 (pre ++ [(("NUMBER", t) : Str × Str)]) (by rw [e0]; simp) (fun z hz => st5 z (ls5.all z hz)))
    | @op1 q ch t ts' hc hs hdg hdot hid h2 ht hT' ih =>
      have hq : q < x.length := (Array.getElem?_eq_some_iff.mp hc).1
      refine seg_whileLoop (sg_test C hex (ov2 _ _ _ _ _ _) inv1 st1' (B := fun b => b = decide (q < x.length)) (fun own => ?_) fun b s2 inv2 kp2 st2 hb => ?_)
      · rw [hF]
        walk_at "go"
        refine op_lenS (by omega) ?_
        walk_at "go"
        rw [decide_eq_decide]; omega
      rw [hb, decide_eq_true hq, if_pos rfl]
      show Seg _ _ _ _ _ _ _ (Sem.wrap _ _ _ _ (execs ([_, _, _, _, _] ++ [_, _]) _)) _ _
      rw [execs_app_wrap]
      refine sg_ex C hex (ov2 _ _ _ _ _ _) inv2 st2 (P := fun fo σ' => fo = .next ∧ LSub σ' [("input_string", .str x), ("place", .int (q : Int)), ("kind", .str "OP"), ("end", .int ((q + 1 : Nat) : Int))]) (fun own => ?_) (fun fl s3 m3 σ3 fo inv3 kp3 st3 fr3 hP => ?_)
      · rw [hF]
        walk_at "go"
        refine op_itemS (fun _ _ => ⟨_, rfl⟩) (by omega) hc ?_
        walk_at "go"
        refine d2_sin ?_
        refine tr_bool ?_
        refine if_f hs ?_
        walk_at "go"
        refine d2_sin ?_
        refine tr_bool ?_
        refine if_f hdg ?_
        walk_at "go"
        refine if_f hdot ?_
        walk_at "go"
        refine mt_isid ?_
        walk_at "go"
        refine cl_isid ?_
        refine tr_bool ?_
        refine if_f hid ?_
        walk_at "go"
        refine op_sliceS (fun _ _ => ⟨_, rfl⟩) (by rw [sizeLine_eq]; omega) ?_
        walk_at "go"
        refine op_inS ["**", "//"] rfl ?_
        refine tr_bool ?_
        refine if_f h2 ?_
        walk_at "go"
        try refine ⟨rfl, rfl, ?_⟩
        rw [show ((q : Int) + 1) = ((q + 1 : Nat) : Int) from rfl]
        walk_at "sub"
      obtain ⟨rfl, ls3⟩ := hP
      cases fl <;> first | exact fr3.elim | skip
      have st3' := fun z hz => st3 z (ls3.all z hz)
      dsimp only
      show Seg _ _ _ _ _ _ _ (Sem.wrap _ _ _ _ (execs [_, _] _)) _ _
      refine seg_execs_cons (sg_yield C hex rfl rfl rfl (ov2 _ _ _ _ _ _) inv3 ((kp1.trans kp2).trans kp3) st3' (n := ts'.length + 1) (p := tokPV "OP" t) ?_ (fun own => ?_) hco fun s4 inv4 st4 => ?_)
      · rw [e0]; exact tk_at ..
      · rw [hF]
        walk_at "go"
        refine op_sliceS (fun _ _ => ⟨_, rfl⟩) (by rw [sizeLine_eq]; omega) ?_
        rw [show Txt.slice x (some (q : Int)) (some ((q + 1 : Nat) : Int)) = t from ht]
        walk_at "go"
        refine cl_use0 (token_spec O _ _ (d := 0)) (by omega) ?_
        rintro _ rfl
        rfl
      show Seg _ _ _ _ _ _ _ (Sem.wrap _ _ _ _ (execs [_] _)) _ _
      refine sg_ex C hex (ov2 _ _ _ _ _ _) inv4 st4 (P := fun fo σ' => fo = .next ∧ LSub σ' [("input_string", .str x), ("place", .int ((q + 1 : Nat) : Int))]) (fun own => ?_) (fun fl s5 m5 σ5 fo inv5 kp5 st5 fr5 hP => ?_)
      · rw [hF]
        walk_at "go"
        try refine ⟨rfl, rfl, ?_⟩
        walk_at "sub"
      obtain ⟨rfl, ls5⟩ := hP
      cases fl <;> first | exact fr5.elim | skip
      exact seg_again rfl (ih s4 s5 m5 inv5 kp5 (pre ++ [(("OP", t) : Str × Str)]) (by rw [e0]; simp) (fun z hz => st5 z (ls5.all z hz)))
    | @op2 q ch t ts' hc hs hdg hdot hid h2 ht hle hT' ih =>
      have hq : q < x.length := (Array.getElem?_eq_some_iff.mp hc).1
      refine seg_whileLoop (sg_test C hex (ov2 _ _ _ _ _ _) inv1 st1' (B := fun b => b = decide (q < x.length)) (fun own => ?_) fun b s2 inv2 kp2 st2 hb => ?_)
      · rw [hF]
        walk_at "go"
        refine op_lenS (by omega) ?_
        walk_at "go"
        rw [decide_eq_decide]; omega
      rw [hb, decide_eq_true hq, if_pos rfl]
      show Seg _ _ _ _ _ _ _ (Sem.wrap _ _ _ _ (execs ([_, _, _, _, _] ++ [_, _]) _)) _ _
      rw [execs_app_wrap]
      refine sg_ex C hex (ov2 _ _ _ _ _ _) inv2 st2 (P := fun fo σ' => fo = .next ∧ LSub σ' [("input_string", .str x), ("place", .int (q : Int)), ("kind", .str "OP"), ("end", .int ((q + 2 : Nat) : Int))]) (fun own => ?_) (fun fl s3 m3 σ3 fo inv3 kp3 st3 fr3 hP => ?_)
      · rw [hF]
        walk_at "go"
        refine op_itemS (fun _ _ => ⟨_, rfl⟩) (by omega) hc ?_
        walk_at "go"
        refine d2_sin ?_
        refine tr_bool ?_
        refine if_f hs ?_
        walk_at "go"
        refine d2_sin ?_
        refine tr_bool ?_
        refine if_f hdg ?_
        walk_at "go"
        refine if_f hdot ?_
        walk_at "go"
        refine mt_isid ?_
        walk_at "go"
        refine cl_isid ?_
        refine tr_bool ?_
        refine if_f hid ?_
        walk_at "go"
        refine op_sliceS (fun _ _ => ⟨_, rfl⟩) (by rw [sizeLine_eq]; omega) ?_
        walk_at "go"
        refine op_inS ["**", "//"] rfl ?_
        refine tr_bool ?_
        refine if_t h2 ?_
        walk_at "go"
        try refine ⟨rfl, rfl, ?_⟩
        rw [show ((q : Int) + 2) = ((q + 2 : Nat) : Int) from rfl]
        walk_at "sub"
      obtain ⟨rfl, ls3⟩ := hP
      cases fl <;> first | exact fr3.elim | skip
      have st3' := fun z hz => st3 z (ls3.all z hz)
      dsimp only
      show Seg _ _ _ _ _ _ _ (Sem.wrap _ _ _ _ (execs [_, _] _)) _ _
      refine seg_execs_cons (sg_yield C hex rfl rfl rfl (ov2 _ _ _ _ _ _) inv3 ((kp1.trans kp2).trans kp3) st3' (n := ts'.length + 1) (p := tokPV "OP" t) ?_ (fun own => ?_) hco fun s4 inv4 st4 => ?_)
      · rw [e0]; exact tk_at ..
      · rw [hF]
        walk_at "go"
        refine op_sliceS (fun _ _ => ⟨_, rfl⟩) (by rw [sizeLine_eq]; omega) ?_
        rw [show Txt.slice x (some (q : Int)) (some ((q + 2 : Nat) : Int)) = t from ht]
        walk_at "go"
        refine cl_use0 (token_spec O _ _ (d := 0)) (by omega) ?_
        rintro _ rfl
        rfl
      show Seg _ _ _ _ _ _ _ (Sem.wrap _ _ _ _ (execs [_] _)) _ _
      refine sg_ex C hex (ov2 _ _ _ _ _ _) inv4 st4 (P := fun fo σ' => fo = .next ∧ LSub σ' [("input_string", .str x), ("place", .int ((q + 2 : Nat) : Int))]) (fun own => ?_) (fun fl s5 m5 σ5 fo inv5 kp5 st5 fr5 hP => ?_)
      · rw [hF]
        walk_at "go"
        try refine ⟨rfl, rfl, ?_⟩
        walk_at "sub"
      obtain ⟨rfl, ls5⟩ := hP
      cases fl <;> first | exact fr5.elim | skip
      exact seg_again rfl (ih s4 s5 m5 inv5 kp5 (pre ++ [(("OP", t) : Str × Str)]) (by rw [e0]; simp) (fun z hz => st5 z (ls5.all z hz)))
end
end
end Mine

namespace Mine
open PySem PySem.W PySem.Calls PyProof.Rows
/-- where a caught exception may have left the heap -/
structure Aft (G : Glb) (l : List Env) (g : Heap) (s s' : Shared) : Prop where
  up : g.UpToSlots s'.heap
  ss : SS s s'
  ff : s'.heap.FunFrames G.base l
  stay : G.base.StaysIn s'.heap
section
variable {G : Glb} {F : FnLit} {d : Nat} {A : Around} {g : Heap} {L : Addr} {Z₀ Z : FZ} {own : List (Addr × Obj)} {m : Str → Option Value} {σ : List (Str × PV)} {s : Shared}
theorem wp_try (O : G.Ok) (hh : F.host = none) {o : List Env} {C : Addr} {x : Str} {e : Expr} {np pe pt ph pc1 pr1 pc2 pr2 : Pos} {k1 k2 : Nat} {b : Bool} (l : Live G F d A g L Z₀ Z own s.heap m) (st : StR Z m σ) (hA : A.frames = some (F.env L :: o))
    (hx : F.scope.names.lookup x = some .globalImplicit) (hg : nsIn G.K mainGlobals x = some (some (.ref C))) (hm : exmOne G.K (.ref C) (.ref C) = some true) (hd : (x == ("__debug__" : Str)) = false)
    (hi : interactive (F.env L) = false) (hsw : swapsWith e none pe.line (F.env L) = pure false)
    (he : Ev G F d own σ e (fun _ => b = false) (if b then some (.ref C) else none)) :
    wpAny (model G.prog G.w) A (execs [.Try [.Expr e pe] [.ExceptHandler (some (.Name x np)) none [.Return (some (.Constant (.bool true) k1 pc1)) pr1] ph] [] [] pt, .Return (some (.Constant (.bool false) k2 pc2)) pr2] (F.env L))
      (fun fl s' => fl = .ret (.bool b) ∧ Aft G (F.env L :: o) g s s') (fun _ _ => False) s := by
  have hf : (F.env L).frame = some L := FnLit.frame_env hh L
  have htop : F.top L = F.env L := by unfold FnLit.top; rw [hh]
  refine wpAny_execs_cons (wpAny_Try_except (wpAny_execs_cons (wpAny_Expr_any (wpAny_mono (he A g L Z₀ Z s m l st) (fun v s₁ q => ?_) fun v s₁ q => ?_) hi hsw)))
  · obtain ⟨Z', p, k₁, l₁, q₁, r₁, rfl⟩ := q
    refine wpAny_execs_nil (wpAny_execs_nil (wpAny_execs_cons (wpAny_Return_some (wpAny_Constant_bool ⟨rfl, l₁.up, q₁, ?_, l₁.fr.keep⟩))))
    obtain ⟨o', ho, ff⟩ := l₁.stk
    rw [htop] at ho ff
    cases hA.symm.trans ho
    exact ff
  · obtain ⟨C', l', hX, hA', t⟩ := q
    cases b with
    | false => cases hX
    | true =>
      cases hX
      obtain rfl : l' = F.env L :: o := Option.some.inj (hA'.symm.trans hA)
      refine wp_note hA hf t.fl fun h₂ e a0 ev st2 hn ff tr u => ?_
      subst ev
      refine wpAny_landsW (s := { s₁ with heap := h₂ }) ⟨st2, hn, ff, tr⟩ fun h₃ fl₃ u₃ => ?_
      refine wpAny_handleBy_cons (codeAny_handlers_test (Name_function_global (by rw [F.scope_env]; exact l.kind) (by rw [F.kindOf_env]; exact hx) (loadGlobal_global (by rw [F.globals_env]; exact (topRead_of O.top).g.keeps fl₃.1) (mg_of O.kin (topRead_of O.top).g hg) ?_) hd)) (by intro q; cases q)
      obtain ⟨ob, hob, hoc⟩ := fl₃.there
      refine (exm_one (O.kin.keeps fl₃.1) (hoc ▸ (Looks.ld hob).andThen .now) hm).here ?_
      refine codeAny_handlers_suite (lands_againW fl₃ fun h₄ fl₄ u₄ => ?_)
      refine wpAny_execs_cons (wpAny_Return_some (wpAny_Constant_bool ?_))
      refine ⟨rfl, ((t.up.trans u).trans u₃).trans u₄, t.ss.trans ⟨rfl, .refl _⟩, fl₄.2.2.1, fl₄.1⟩
end
/-- the contract of a function that catches -/
def FnA (G : Glb) (d : Nat) (f : Value) (as : List PV) (b : Bool) : Prop :=
  ∀ A l s Z vs, CallCtx G d A l s.heap → Sub Z s.heap → RdL Z vs as → codeAny (model G.prog G.w) A (.call f ⟨vs, []⟩) (fun r s' => r = .ok (.ret (.bool b)) ∧ Aft G l s.heap s s') s
theorem fn_aft {G : Glb} (O : G.Ok) {f : Addr} {name qual : Str} {params : Arguments} {body : List Stmt} {scope : Scope} {dV kV doc pm cdv ct oc : Value} {an od : Option Addr} {osl : Array (Option Value)} {d : Nat} {as : List PV} {ps : List (Str × PV)} {b : Bool}
    (ho : G.K.lookup f = some ⟨oc, od, .func (fnOf name qual params body scope dV kV doc pm an cdv ct), osl⟩) (hcd : codeIn G.K cdv qual = true)
    (hb : Bnds G (fnOf name qual params body scope dV kV doc pm an cdv ct) as [] ps)
    (h : ∀ A g L Z s m o, Live G ⟨qual, scope, f, cdv, true, [], none⟩ d A g L Z Z [] s.heap m → StR Z m ps → A.frames = some ((⟨qual, scope, f, cdv, true, [], none⟩ : FnLit).env L :: o) →
      wpAny (model G.prog G.w) A (execs body ((⟨qual, scope, f, cdv, true, [], none⟩ : FnLit).env L)) (fun fl s' => fl = .ret (.bool b) ∧ Aft G ((⟨qual, scope, f, cdv, true, [], none⟩ : FnLit).env L :: o) g s s') (fun _ _ => False) s)
    (hloc : (ps.all fun q => scope.names.lookup q.1 == some .local) = true) (hnd : (ps.map (·.1)).Nodup)
    (hcell : (scope.names.all fun q => q.2 != .cell) = true) (hco : scope.isCoroutine = false) (hgen : scope.isGenerator = false) (hk : scope.kind = .function) : FnA G (d + 1) (.ref f) as b := by
  intro A l s Z vs c sub r
  have Xs := O.kin.keeps c.stay
  obtain ⟨bs, hbt, br⟩ := hb s Z vs [] Xs r rfl .nil
  refine codeAny_call_def (fd := fnOf name qual params body scope dV kV doc pm an cdv ct) (body := body) (binds := bs) (by have := c.room; omega) (Xs _ _ ho) rfl (O.top.nolimit.keeps c.stay) (codeRec_of Xs hcd) rfl hbt ?_ ?_ (fun h₁ hns hk₁ => ?_) hco hgen hk
  · intro x hx
    have := List.all_eq_true.mp hcell x hx
    simpa using this
  · intro x hx
    obtain ⟨q, hq, e⟩ : ∃ q ∈ ps, q.1 = x.1 := by
      have : x.1 ∈ ps.map (·.1) := br.names ▸ List.mem_map_of_mem hx
      obtain ⟨q, hq, e⟩ := List.mem_map.mp this
      exact ⟨q, hq, e⟩
    have := List.all_eq_true.mp hloc q hq
    rw [e] at this
    exact beq_iff_eq.mp this
  have bn : G.base.get? s.heap.objs.size = none := by
    cases q : G.base.get? s.heap.objs.size with
    | none => rfl
    | some o => exact absurd (Nat.lt_of_lt_of_le (Heap.lt_size q) c.bs) (Nat.lt_irrefl _)
  have lv : Live G ⟨qual, scope, f, cdv, true, [], none⟩ d (A.deeper (envOf qual scope s.heap.objs.size f cdv)) s.heap s.heap.objs.size Z Z [] h₁ (fun x => bs.reverse.lookup x) := {
    fr := ⟨hns, fun b o e => hk₁ b o (c.stay b o e), c.bs⟩
    up := Heap.UpToSlots.of_keeps hk₁
    ek := fun _ => hk₁
    og := fun _ hp => nomatch hp
    sz := Nat.le_refl _
    sub := sub.keeps hk₁
    zL := sub.none_at
    z0 := fun _ _ => rfl
    nw := fun _ hp => nomatch hp
    zo := fun _ hp => nomatch hp
    hd := c.hd
    stk := ⟨l, Around.frames_deeper c.fr, Heap.FunFrames.cons (by show scope.kind ≠ .module; rw [hk]; decide) rfl hns bn (c.ff.of_keeps fun b o e _ => ⟨o, hk₁ b o e, rfl⟩)⟩
    room := by have := c.room; show A.depth + 1 + d < _; omega
    unit := by have := c.unit; show A.units + 3 + 10 * d < _; omega
    kind := hk
    cel := fun _ hq => nomatch hq }
  have st : StR Z (fun x => bs.reverse.lookup x) ps := fun q hq => by
    obtain ⟨v, a, b⟩ := br.mem q hq
    refine ⟨v, ?_, b⟩
    have : (bs.reverse.map (·.1)).Nodup := by rw [List.map_reverse, br.names]; exact List.pairwise_reverse.mpr (hnd.imp fun h => Ne.symm h)
    exact lookup_nodup this (List.mem_reverse.mpr a)
  refine wpAny_mono (h _ s.heap s.heap.objs.size Z { s with heap := h₁, toks := s.toks + bs.length } _ l lv st (Around.frames_deeper c.fr)) (fun fl s' q => ?_) fun e s' q => q.elim
  obtain ⟨rfl, a⟩ := q
  exact ⟨rfl, a.up, (SS.mk rfl (.refl _) : SS s { s with heap := h₁, toks := s.toks + bs.length }).trans a.ss, a.ff.2.2, a.stay⟩
section
variable {G : Glb} {F : FnLit} {d : Nat} {A : Around} {g : Heap} {L : Addr} {Z₀ Z : FZ} {own : List (Addr × Obj)} {m : Str → Option Value} {σ : List (Str × PV)} {s : Shared}
abbrev noZ : FZ := fun _ => none
/-- nothing is frozen, nothing own -/
theorem Live.bare (l : Live G F d A g L Z₀ Z own s.heap m) (hc : F.cells = []) {F' : FnLit} (hF : F' = { F with ex := false }) : Live G F' d A g L noZ noZ [] s.heap m := by
  subst hF
  exact {
    fr := l.fr
    up := l.up
    ek := fun q => nomatch q
    og := fun _ hp => nomatch hp
    sz := l.sz
    sub := fun _ _ e => nomatch e
    zL := rfl
    z0 := fun _ _ => rfl
    nw := fun _ hp => nomatch hp
    zo := fun _ hp => nomatch hp
    hd := l.hd
    stk := l.stk
    room := l.room
    unit := l.unit
    kind := l.kind
    cel := fun q hq => by rw [show ({ F with ex := false } : FnLit).cells = [] from hc] at hq; cases hq }
/-- behind a call that caught -/
theorem Live.aft {s₁ : Shared} {o : List Env} (l : Live G F d A g L Z₀ Z own s.heap m) (hA : A.frames = some (F.top L :: o)) (a : Aft G (F.top L :: o) s.heap s s₁) (hc : F.cells = []) (hx : F.ex = false) : Live G F d A g L noZ noZ [] s₁.heap m where
  fr := l.fr.of_stays a.stay a.up
  up := l.up.trans a.up
  ek := fun q => by rw [hx] at q; cases q
  og := fun _ hp => nomatch hp
  sz := l.sz
  sub := fun _ _ e => nomatch e
  zL := rfl
  z0 := fun _ _ => rfl
  nw := fun _ hp => nomatch hp
  zo := fun _ hp => nomatch hp
  hd := l.hd
  stk := ⟨o, hA, a.ff⟩
  room := l.room
  unit := l.unit
  kind := l.kind
  cel := fun q hq => by rw [hc] at hq; cases hq
/-- a call of a function that catches -/
def Got0 (G : Glb) (F : FnLit) (d : Nat) (A : Around) (g : Heap) (L : Addr) (m : Str → Option Value) (s : Shared) (s' : Shared) : Prop := Live G F d A g L noZ noZ [] s'.heap m ∧ SS s s'
theorem wp_callA {d' : Nat} {f : Value} {as : List PV} {b : Bool} {vs : List Value} {E : Value → Shared → Prop} (T : FnA G d' f as b) (l : Live G F d A g L Z₀ Z own s.heap m) (hc : F.cells = []) (hx : F.ex = false) (hd : d' ≤ d) (r : RdL Z vs as) :
    wpAny (model G.prog G.w) A (call f vs []) (fun v s' => v = .bool b ∧ Got0 G F d A g L m s s') E s := by
  obtain ⟨o, hA, c⟩ := l.ctx hd
  refine wpAny_call (codeAny_mono (T A _ s Z vs c l.sub r) fun q s' hq => ?_)
  obtain ⟨rfl, a⟩ := hq
  exact ⟨rfl, l.aft hA a hc hx, a.ss⟩
end
end Mine

namespace Mine
open PySem PySem.W PySem.Calls PyProof.Rows
section
variable {G : Glb} {F : FnLit} {d : Nat} {A : Around} {g : Heap} {L : Addr} {m : Str → Option Value} {σ : List (Str × PV)} {s : Shared}
theorem wp_callA1 (O : G.Ok) {n x : Str} {p1 pos : Pos} {args : List Expr} {f : Addr} {b : Bool} {d' : Nat} {E : Value → Shared → Prop} (hn : Ev G F d [] σ (.Name n p1) (fun p => p = .raw (.ref f)) none) (kp : keepIn G.K (.ref f) = true) (hp : plainArgs args = true)
    (ha : Evs G F d [] σ args (fun as => as = [.str x]) none) (T : FnA G d' (.ref f) [.str x] b) (hd : d' ≤ d) (hc : F.cells = []) (hx : F.ex = false) (l : Live G F d A g L noZ noZ [] s.heap m) (st : StR noZ m σ) :
    wpAny (model G.prog G.w) A (eval (.Call (.Name n p1) args [] pos) (F.env L)) (fun v s' => v = .bool b ∧ Got0 G F d A g L m s s') E s := by
  refine wpAny_Call_ofName (wpAny_mono (hn A g L noZ noZ s m l st) (fun fv s₁ q => ?_) fun _ _ q => q.no.elim)
  obtain ⟨Z₁, p, k₁, l₁, q₁, r₁, rfl⟩ := q
  cases r₁
  have hs := plain_star (env := F.env L) (pos := pos) hp
  have hks : (backToKw pos (keywordEach [] (F.env L))).all (·.1.isSome) = true := by rw [kw_some]; rfl
  refine callWith_of (P := fun hh => G.K.In hh) (by rw [all_false_any _ hs, all_some_none _ hks]; rfl) (fun hh a => keeps_K kp hh a) ?_
  refine wp_evalArgs hs hks (wpAny_mono (ha A g L noZ Z₁ s₁ m pos l₁ (st.mono k₁)) (fun vs s₂ q => ?_) fun _ _ q => q.no.elim)
  obtain ⟨Z₂, as, k₂, l₂, q₂, r₂, rfl⟩ := q
  refine wpAny_evalAll_nil ⟨O.kin.keeps l₂.fr.keep, ?_⟩
  refine wpAny_mono (wp_callA T l₂ hc hx hd r₂) (fun v s' q => ?_) fun _ _ q => q
  exact ⟨q.1, q.2.1, (q₁.trans q₂).trans q.2.2⟩
end
end Mine

namespace Mine
open PySem PySem.W PySem.Calls PyProof.Rows
/-- a call that answers True, whatever it does to the heap -/
def Yes (G : Glb) (F : FnLit) (d : Nat) (σ : List (Str × PV)) (e : Expr) : Prop :=
  ∀ A g L s m (E : Value → Shared → Prop), Live G F d A g L noZ noZ [] s.heap m → StR noZ m σ → wpAny (model G.prog G.w) A (eval e (F.env L)) (fun v s' => v = .bool true ∧ Got0 G F d A g L m s s') E s
section
variable {G : Glb} {F : FnLit} {d : Nat} {A : Around} {g : Heap} {L : Addr} {m : Str → Option Value} {σ : List (Str × PV)} {s : Shared}
theorem Got0.back {s s₁ s₂ : Shared} (q : SS s s₁) (x : Got0 G F d A g L m s₁ s₂) : Got0 G F d A g L m s s₂ := ⟨x.1, q.trans x.2⟩
theorem wp_tail {n1 n2 n3 n4 n5 : Expr} {a1 a2 a3 a4 a5 : List Expr} {p1 p2 p3 p4 p5 pn1 pn2 po pf pr pi pa pr2 : Pos} {k : Nat} {E : Value → Shared → Prop}
    (c1 : Yes G F d σ (.Call n1 a1 [] p1)) (c2 : Yes G F d σ (.Call n2 a2 [] p2)) (c3 : Yes G F d σ (.Call n3 a3 [] p3)) (c4 : Yes G F d σ (.Call n4 a4 [] p4)) (c5 : Yes G F d σ (.Call n5 a5 [] p5))
    (l : Live G F d A g L noZ noZ [] s.heap m) (st : StR noZ m σ) :
    wpAny (model G.prog G.w) A (execs [.If (.BoolOp .Or [.UnaryOp .Not (.Call n1 a1 [] p1) pn1, .UnaryOp .Not (.Call n2 a2 [] p2) pn2] po) [.Return (some (.Constant (.bool false) k pf)) pr] [] pi,
      .Return (some (.BoolOp .And [.Call n3 a3 [] p3, .Call n4 a4 [] p4, .Call n5 a5 [] p5] pa)) pr2] (F.env L)) (fun fl s' => fl = .ret (.bool true) ∧ Got0 G F d A g L m s s') E s := by
  have tt : ∀ {s : Shared} {Q : Bool → Shared → Prop}, Q true s → wpAny (model G.prog G.w) A (truthy (.bool true)) Q E s := fun h _ _ _ => h
  have one : ∀ {e : Expr} {a : List Expr} {p q : Pos} {s : Shared} {P : Bool → Shared → Prop}, Yes G F d σ (.Call e a [] p) → Live G F d A g L noZ noZ [] s.heap m → (∀ s', Got0 G F d A g L m s s' → P false s') →
      wpAny (model G.prog G.w) A (isTrue (.UnaryOp .Not (.Call e a [] p) q) (F.env L) (eval (.UnaryOp .Not (.Call e a [] p) q) (F.env L))) P E s := by
    intro e a p q s P c l h
    refine isTrue_not (isTrue_plain (wpAny_mono (c A g L s m E l st) (fun v s' x => ?_) fun _ _ x => x) rfl)
    obtain ⟨rfl, x⟩ := x
    exact tt (h s' x)
  refine wpAny_execs_cons (wpAny_If (isTrue_or (one c1 l fun s₁ g₁ => isTrue_bo (w := pure .none) (isTrue_or (one c2 g₁.1 fun s₂ g₂ => isTrue_bo (w := pure .none) (isTrue_or_nil ?_))))))
  rw [if_neg Bool.false_ne_true]
  refine wpAny_execs_nil (wpAny_execs_cons (wpAny_Return_some ?_))
  refine BoolOp_and (wpAny_mono (c3 A g L s₂ m E g₂.1 st) (fun v s₃ x => ?_) fun _ _ x => x)
  obtain ⟨rfl, g₃⟩ := x
  refine tt ?_
  show wpAny _ _ (eval (.BoolOp .And [_, _] _) _) _ _ _
  refine BoolOp_and (wpAny_mono (c4 A g L s₃ m E g₃.1 st) (fun v s₄ x => ?_) fun _ _ x => x)
  obtain ⟨rfl, g₄⟩ := x
  refine tt ?_
  show wpAny _ _ (eval (.BoolOp .And [_] _) _) _ _ _
  refine BoolOp_one (wpAny_mono (c5 A g L s₄ m E g₄.1 st) (fun v s₅ x => ?_) fun _ _ x => x)
  obtain ⟨rfl, g₅⟩ := x
  exact ⟨rfl, g₅.back ((((g₁.2.trans g₂.2).trans g₃.2).trans g₄.2))⟩
theorem wp_tail' {F' : FnLit} {n1 n2 n3 n4 n5 : Expr} {a1 a2 a3 a4 a5 : List Expr} {p1 p2 p3 p4 p5 pn1 pn2 po pf pr pi pa pr2 : Pos} {k : Nat} {E : Value → Shared → Prop} (hF : F' = { F with ex := false })
    (c1 : Yes G F' d σ (.Call n1 a1 [] p1)) (c2 : Yes G F' d σ (.Call n2 a2 [] p2)) (c3 : Yes G F' d σ (.Call n3 a3 [] p3)) (c4 : Yes G F' d σ (.Call n4 a4 [] p4)) (c5 : Yes G F' d σ (.Call n5 a5 [] p5))
    (l : Live G F' d A g L noZ noZ [] s.heap m) (st : StR noZ m σ) :
    wpAny (model G.prog G.w) A (execs [.If (.BoolOp .Or [.UnaryOp .Not (.Call n1 a1 [] p1) pn1, .UnaryOp .Not (.Call n2 a2 [] p2) pn2] po) [.Return (some (.Constant (.bool false) k pf)) pr] [] pi,
      .Return (some (.BoolOp .And [.Call n3 a3 [] p3, .Call n4 a4 [] p4, .Call n5 a5 [] p5] pa)) pr2] (F.env L)) (fun fl s' => fl = .ret (.bool true) ∧ Got0 G F' d A g L m s s') E s := by
  have e : F.env L = F'.env L := by subst hF; rfl
  rw [e]
  exact wp_tail c1 c2 c3 c4 c5 l st
end
end Mine

namespace Mine
open PySem PySem.W PySem.Calls PyProof.Rows
section
local macro_rules | `(tactic| walk_at "nm") => `(tactic| first | with_reducible exact nm_add | with_reducible exact nm_mul | with_reducible exact nm_pow_operator | with_reducible exact nm_sub | with_reducible exact nm_truediv | with_reducible exact nm_DefinitionSyntaxError | with_reducible exact nm_common_divisor | with_reducible exact nm_Quotient | with_reducible exact nm_whole | with_reducible exact nm_number_from_text | with_reducible exact nm_TokenInfo | with_reducible exact nm_end_of_figures | with_reducible exact nm_end_of_number | with_reducible exact nm_tokenizer | with_reducible exact nm__power | with_reducible exact nm__divided | with_reducible exact nm__plus | with_reducible exact nm__minus | with_reducible exact nm__UNARY_OPERATOR_MAP | with_reducible exact nm__BINARY_OPERATOR_MAP | with_reducible exact nm__OP_PRIORITY | with_reducible exact nm_EvalTreeNode | with_reducible exact nm__build_eval_tree | with_reducible exact nm_build_eval_tree | with_reducible exact nm__law_cell | with_reducible exact nm__law_tree | with_reducible exact nm__law_bind | with_reducible exact nm__law_is_bare | with_reducible exact nm__law_text | with_reducible exact nm__law_within | with_reducible exact nm__law_told | with_reducible exact nm__law_value | with_reducible exact nm__law_number | with_reducible exact nm__law_is_refused)
local macro_rules | `(tactic| walk_at "mem") => `(tactic| repeat (first | with_reducible exact LMem.head | with_reducible apply LMem.tail))
local macro_rules | `(tactic| walk_at "put") => `(tactic| first
  | with_reducible exact PutR.nil
  | ((with_reducible refine' PutR.pass ?pn ?pr); (case pn => decide); (case pr => walk_at "put"))
  | ((with_reducible refine' PutR.drop ?pr); (case pr => walk_at "put")))
local macro_rules | `(tactic| walk_at "sub") => `(tactic| repeat (first
  | with_reducible exact LSub.nil
  | ((with_reducible refine' LSub.cons ?lm ?_); (case lm => walk_at "mem"))))
local macro_rules | `(tactic| walk_at "go") => `(tactic| repeat (first
  | with_reducible refine' ev_int ?_
  | with_reducible refine' ev_str ?_
  | ((with_reducible refine' ev_var ?hm ?hl ?hd ?_); (case hm => walk_at "mem"); (case hl => rfl); (case hd => decide))
  | ((with_reducible refine' ev_built ?hO ?hv ?he ?hn ?hl ?hd ?_); (case hO => assumption); (case hv => boot_by_name); (case he => kernel_rfl); (case hn => decide); (case hl => rfl); (case hd => decide))
  | ((with_reducible refine' ev_topS ?hO ?he ?hl ?hd ?_); (case he => first | with_reducible exact nm_ENDMARKER | with_reducible exact nm_NAME | with_reducible exact nm_NUMBER | with_reducible exact nm_OP); (case hO => assumption); (case hl => rfl); (case hd => decide))
  | ((with_reducible refine' ev_topI ?hO ?he ?hl ?hd ?_); (case he => with_reducible exact nm__MAX_RECURSION_DEPTH); (case hO => assumption); (case hl => rfl); (case hd => decide))
  | ((with_reducible refine' ev_top ?hO ?he ?hl ?hd ?_); (case hO => assumption); (case he => walk_at "nm"); (case hl => rfl); (case hd => decide))
  | ((with_reducible refine' ev_cel ?hl ?hd ?hc ?hm ?_); (case hl => rfl); (case hd => decide); (case hc => exact rfl); (case hm => exact List.Mem.head _))
  | ((with_reducible refine' And.intro ?hk ?_); (case hk => first | with_reducible exact kp_bi | with_reducible exact kp_ty | ((with_reducible refine' kp_fn ?_); kernel_rfl)))
  | with_reducible refine' evs_nil ?_
  | ((with_reducible refine' evs_more ?he ?_); (case he => intro _; rfl))
  | with_reducible refine' ev_bin ?_
  | with_reducible refine' ev_tup ?_
  | with_reducible refine' ev_lst ?_
  | ((with_reducible refine' And.intro ?hk ?_); (case hk => size_fits))
  | ((with_reducible refine' ev_mcl0 ?hO ?he ?hp ?_); (case hO => assumption); (case he => intro _; exact ⟨_, rfl⟩); (case hp => rfl))
  | ((with_reducible refine' ev_cl0 ?hO ?he ?hp ?_); (case hO => assumption); (case he => intro _; rfl); (case hp => rfl))
  | with_reducible refine' ev_sub ?_
  | ((with_reducible refine' ev_compare ?hm ?_); (case hm => with_unfolding_all rfl))
  | with_reducible refine' ev_attr ?_
  | with_reducible refine' ev_none ?_
  | with_reducible refine' ev_bool ?_
  | with_reducible refine' ev_un ?_
  | with_reducible refine' ev_ife ?_
  | ((with_reducible refine' ev_mcl ?hO ?he ?hp ?hk ?_); (case hO => assumption); (case he => intro _; exact ⟨_, rfl⟩); (case hp => rfl); (case hk => rfl))
  | ((with_reducible refine' ev_cl ?hO ?he ?hp ?hk ?_); (case hO => assumption); (case he => intro _; rfl); (case hp => rfl); (case hk => rfl))
  | with_reducible refine' evk_nil ?_
  | with_reducible refine' evk_cons ?_
  | with_reducible refine' ex_ret ?_
  | ((with_reducible refine' ex_asg ?hl ?hs ?_); (case hl => rfl); (case hs => intro _; rfl))
  | ((with_reducible refine' ex_swap2 ?hs ?hw ?hx ?hy ?_); (case hs => intro _; rfl); (case hw => intro _; rfl); (case hx => rfl); (case hy => rfl))
  | ((with_reducible refine' ex_tup2 ?hs ?hw ?hx ?hy ?_); (case hs => intro _; rfl); (case hw => intro _; rfl); (case hx => rfl); (case hy => rfl))
  | ((with_reducible refine' ex_aug ?hm ?hl ?_); (case hm => walk_at "mem"); (case hl => rfl))
  | ((with_reducible refine' Exists.intro _ (And.intro (?hp : PutR _ _ _ _) ?_)); (case hp => walk_at "put"))
  | with_reducible refine' Exists.intro _ (Exists.intro _ (And.intro rfl ?_))
  | with_reducible refine' Exists.intro _ (And.intro rfl ?_)
  | with_reducible refine' ex_if ?_
  | with_reducible refine' ex_nil ?_
  | with_reducible refine' ex_cont ?_
  | with_reducible refine' ex_pass ?_
  | with_reducible refine' ex_assert ?_
  | with_reducible refine' sq_next ?_
  | with_reducible refine' sq_ret ?_
  | with_reducible refine' sq_brk ?_
  | with_reducible refine' sq_cont ?_
  | with_reducible refine' retp ?_
  | with_reducible refine' cut_ret ?_
  | with_reducible refine' loop_ret ?_
  | with_reducible refine' loop_brk ?_
  | with_reducible refine' retn ?_
  | with_reducible refine' ts_not ?_
  | with_reducible refine' ts_andN ?_
  | with_reducible refine' ts_orN ?_
  | with_reducible refine' ts_and ?_
  | with_reducible refine' ts_or ?_
  | ((with_reducible refine' ts_compare ?hm ?_); (case hm => with_unfolding_all rfl))
  | ((with_reducible refine' ts_val ?_ ?he); (case he => intro _ _; rfl))
  | with_reducible refine' d2_add ?_
  | with_reducible refine' d2_sub ?_
  | with_reducible refine' d2_iadd ?_
  | with_reducible refine' d1_neg ?_
  | with_reducible refine' d2_lt ?_
  | with_reducible refine' d2_gt ?_
  | with_reducible refine' d2_le ?_
  | with_reducible refine' d2_ge ?_
  | with_reducible refine' d2_eq ?_
  | with_reducible refine' d2_ne ?_
  | with_reducible refine' d2_seq ?_
  | with_reducible refine' d2_sne ?_
  | with_reducible refine' tr_bool ?_
  | with_reducible refine' tr_none ?_
  | with_reducible refine' tr_int ?_
  | with_reducible refine' cl_abs ?_
  | with_reducible refine' cl_int ?_
  | ((with_reducible refine' op_fdiv ?hO ?hb ?hd ?hg ?hc ?hh ?_); (case hO => assumption); (case hb => decide); (case hd => decide); (case hg => rfl); (case hc => rfl); (case hh => rfl))
  | ((with_reducible refine' op_headNum ?hs ?_); (case hs => intro _ _; exact ⟨_, rfl⟩))
  | ((with_reducible refine' op_headNeg ?hs ?_); (case hs => intro _ _; exact ⟨_, rfl⟩))
  | ((with_reducible refine' op_headBin ?hs ?_); (case hs => intro _ _; exact ⟨_, rfl⟩))
  | ((with_reducible refine' op_head ?hs ?_); (case hs => intro _ _; exact ⟨_, rfl⟩))
  | ((with_reducible refine' op_num1 ?hs ?_); (case hs => intro _ _; exact ⟨_, rfl⟩))
  | ((with_reducible refine' op_neg1 ?hs ?_); (case hs => intro _ _; exact ⟨_, rfl⟩))
  | ((with_reducible refine' op_bin1 ?hs ?_); (case hs => intro _ _; exact ⟨_, rfl⟩))
  | ((with_reducible refine' op_bin2 ?hs ?_); (case hs => intro _ _; exact ⟨_, rfl⟩))
  | ((with_reducible refine' if_t ?hc ?_); (case hc => decide))
  | ((with_reducible refine' if_f ?hc ?_); (case hc => decide))
  | with_reducible refine' ev_slcTo ?_
  | ((with_reducible refine' tk_string ?hO ?_); (case hO => assumption))
  | ((with_reducible refine' tk_type ?hO ?_); (case hO => assumption))
  | ((with_reducible refine' nd_left ?hO ?_); (case hO => assumption))
  | ((with_reducible refine' nd_op ?hO ?_); (case hO => assumption))
  | ((with_reducible refine' nd_right ?hO ?_); (case hO => assumption))
  | ((with_reducible refine' tr_tok ?hO ?_); (case hO => assumption))
  | ((with_reducible refine' tr_node ?hO ?_); (case hO => assumption))
  | with_reducible refine' ev_slcFrom ?_
  | with_reducible refine' ev_slcBoth ?_
  ))
section
variable {w : World} {loose : List Str} {mean : ExcName → Option Value} {mg mb : Str → Option Value} {base : Heap}
theorem refused_spec (O : (GG w loose mean mg mb base).Ok) {x : Str} {ts : List (Str × Str)} {k : Nat} {r : Option (N × Nat)} (hT : Tkz x 0 ts) (hz : x.length ≤ 100000) (hts : ts.length ≤ 90000) (htx : ∀ q ∈ ts, q.2.length ≤ 1000)
    (hr : head (ts ++ [endTok]) k 0 0 "<none>" none = some r) : FnA (GG w loose mean mg mb base) (k + 301) (.ref 440) [.str x] r.isNone := by
  refine fn_aft O (d := k + 300) (ps := [("text", .str x)]) (by rfl) (by kernel_rfl) (bnds1 fun _ => by rfl) (fun A g L Z s m o l st hA => ?_) (by rfl) (of_decide_eq_true (by kernel_rfl)) (by rfl) rfl rfl rfl
  refine wp_try O (C := 69) rfl l st hA (by rfl) (by kernel_rfl) (by kernel_rfl) (by decide) (by rfl) (by rfl) ?_
  have hX : (if r.isNone then some (.ref 69) else none) = rX r := by cases r <;> rfl
  rw [hX]
  refine (bet_spec O hT hz hts htx hr (Nat.le_refl _) (fun _ _ => ?_) ?_ ?_).mono (fun p q => ?_)
  · walk_at "go"
    rfl
  · walk_at "go"
    rfl
  · walk_at "go"
    rfl
  · obtain ⟨n, j, rfl, _⟩ := q
    rfl
theorem yes_ref (O : (GG w loose mean mg mb base).Ok) {F : FnLit} {d : Nat} {σ : List (Str × PV)} {x : Str} {ts : List (Str × Str)} {k : Nat} {p1 pos : Pos} {args : List Expr} (hT : Tkz x 0 ts) (hz : x.length ≤ 100000) (hts : ts.length ≤ 90000) (htx : ∀ q ∈ ts, q.2.length ≤ 1000)
    (hr : head (ts ++ [endTok]) k 0 0 "<none>" none = some none) (hd : k + 301 ≤ d) (hc : F.cells = []) (hx : F.ex = false) (hp : plainArgs args = true)
    (hn : Ev (GG w loose mean mg mb base) F d [] σ (.Name "_law_is_refused" p1) (fun p => p = .raw (.ref 440)) none) (ha : Evs (GG w loose mean mg mb base) F d [] σ args (fun as => as = [.str x]) none) :
    Yes (GG w loose mean mg mb base) F d σ (.Call (.Name "_law_is_refused" p1) args [] pos) :=
  fun A g L s m E l st => wp_callA1 O hn (by kernel_rfl) hp ha (refused_spec O hT hz hts htx hr) hd hc hx l st
end
end
end Mine

namespace Mine
open PySem PySem.W PySem.Calls PyProof.Rows

/-! ## The tree's node and its tokens -/
def Op.mark : Op → Str
  | .add => "+"
  | .sub => "-"
  | .mul => "*"
  | .div => "/"
  | .jux => "*"
  | .pow => "**"
def T.toN : T → N
  | .num k => .tok "NUMBER" (Str.ofString (toString (k : Int)))
  | .neg a => .un "-" a.toN
  | .bin o a b => .bin a.toN (if T.bare (.bin o a b) = true then none else some o.mark) b.toN
def wrapT (t : T) (lvl : Nat) (w : Bool) (x : List (Str × Str)) : List (Str × Str) := if (decide (t.bind < lvl) || (w && !t.isNum)) = true then ("OP", "(") :: (x ++ [(("OP", ")") : Str × Str)]) else x
def T.la : T → Nat
  | .bin .pow _ _ => 4
  | t => t.bind
def T.opT (t : T) (o : Op) : List (Str × Str) := if t.bare = true then [] else [("OP", o.mark)]
def T.toks (w : Bool) : T → List (Str × Str)
  | .num k => [("NUMBER", Str.ofString (toString (k : Int)))]
  | .neg a => ("OP", "-") :: wrapT a 3 w (a.toks w)
  | .bin o a b => wrapT a (T.la (.bin o a b)) w (a.toks w) ++ (T.opT (.bin o a b) o ++ wrapT b (T.bind (.bin o a b) + 1) w (b.toks w))

/-! ## Rules of the plain parser -/
theorem endT_mono {t : Tn} {f g : Nat → Option N → PRes} {r : Option (N × Nat)} (h : ∀ j n r, f j n = some r → g j n = some r) (e : endT t f = some r) : endT t g = some r := by
  cases t <;> first | exact e | exact h _ _ _ e
theorem turn1_mono {rec rec' : Nat → Nat → Str → PRes} (h : ∀ i d p r, rec i d p = some r → rec' i d p = some r) {ts : List (Str × Str)} {i d : Nat} {p : Str} {res : Option N} : turn1 rec ts i d p res = .stuck ∨ turn1 rec ts i d p res = turn1 rec' ts i d p res := by
  have ha : ∀ i d p (k : N → Nat → Tn), after (rec i d p) k = .stuck ∨ after (rec i d p) k = after (rec' i d p) k := fun i d p k => by
    cases e : rec i d p with
    | none => exact .inl rfl
    | some q => exact .inr (by rw [h _ _ _ _ e])
  unfold turn1
  repeat' (first | exact .inr rfl | exact ha .. | split)
theorem head_mono (ts : List (Str × Str)) : ∀ (k i d : Nat) (p : Str) (res : Option N) (r : Option (N × Nat)), head ts k i d p res = some r → head ts (k + 1) i d p res = some r
  | 0, _, _, _, _, _, h => nomatch h
  | k + 1, i, d, p, res, r, h => by
    have ih := head_mono ts k
    rw [head] at h ⊢
    rcases turn1_mono (rec := fun i d p => if d ≤ 100 then head ts k i d p none else none) (rec' := fun i d p => if d ≤ 100 then head ts (k + 1) i d p none else none) (fun i d p r e => by
      split at e
      · rename_i hd; rw [if_pos hd]; exact ih _ _ _ _ _ e
      · cases e) (ts := ts) (i := i) (d := d) (p := p) (res := res) with e | e
    · rw [e] at h; cases h
    · rw [← e]
      exact endT_mono (fun j n r q => endT_mono (fun j n r q => ih _ _ _ _ _ q) q) h
theorem head_le {ts : List (Str × Str)} {k k' i d : Nat} {p : Str} {res : Option N} {r : Option (N × Nat)} (h : head ts k i d p res = some r) (hk : k ≤ k') : head ts k' i d p res = some r := by
  obtain ⟨n, rfl⟩ := Nat.exists_eq_add_of_le hk
  induction n with
  | zero => exact h
  | succ n ih => exact head_mono _ _ _ _ _ _ _ (ih (Nat.le_add_right ..))
end Mine

namespace Mine
open PySem PySem.W PySem.Calls PyProof.Rows

def Stop (lv : Int) (q : Str × Str) : Prop :=
  q.1 = "ENDMARKER" ∨ (q.1 = "OP" ∧ q.2 = ")") ∨
  (q.1 = "OP" ∧ (q.2 == ")") = false ∧ (q.2 == "(") = false ∧ (prio q.2 = none ∨ ∃ p, prio q.2 = some p ∧ p ≤ lv ∧ (["**", "^"] : List Str).any (· == q.2) = false)) ∨ (q.1 = "NUMBER" ∧ 1 ≤ lv)
theorem Stop.mono {a b : Int} {q : Str × Str} (h : Stop a q) (le : a ≤ b) : Stop b q := by
  rcases h with h | h | ⟨h1, h2, h3, h4⟩ | ⟨h1, h2⟩
  · exact .inl h
  · exact .inr (.inl h)
  · refine .inr (.inr (.inl ⟨h1, h2, h3, ?_⟩))
    rcases h4 with h4 | ⟨p, a1, a2, a3⟩
    · exact .inl h4
    · exact .inr ⟨p, a1, by omega, a3⟩
  · exact .inr (.inr (.inr ⟨h1, by omega⟩))
/-- behind an operand's parse -/
def fin (ts : List (Str × Str)) (sr : Option (N × Nat)) (f : N → N) (d : Nat) (p : Str) (k : Nat) : PRes :=
  endT (after (some sr) fun m j => .go j (some (f m))) fun j r => endT (turn2 ts d p j r) fun j r => head ts k j d p r

section
variable {ts : List (Str × Str)} {i j d k k' e : Nat} {p x y : Str} {res : Option N} {r sr : Option (N × Nat)} {n m : N}
theorem t2_go {K : Nat → Option N → PRes} {q : Str × Str} (h : ts[j]? = some q) (hq : (q.1 == "ENDMARKER") = false) (hl : j + 1 < ts.length) : endT (turn2 ts d p j res) K = K (j + 1) res := by
  unfold turn2
  rw [h]
  dsimp only
  rw [if_neg (by rw [hq]; decide), if_pos hl]
  rfl
theorem t1_end {rec : Nat → Nat → Str → PRes} {q : Str × Str} (h : ts[e]? = some q) (hq : q.1 = "ENDMARKER") : turn1 rec ts e d p res = .go e res := by
  obtain ⟨ty, y⟩ := q
  obtain rfl : ty = "ENDMARKER" := hq
  unfold turn1
  rw [h]
  dsimp only
  rw [if_neg (by decide), if_neg (by decide)]
theorem t2_end {K K' : Nat → Option N → PRes} {q : Str × Str} (h : ts[e]? = some q) (hq : q.1 = "ENDMARKER") : endT (turn2 ts d p e res) K = endT (turn2 ts d p e res) K' := by
  obtain ⟨ty, y⟩ := q
  obtain rfl : ty = "ENDMARKER" := hq
  unfold turn2
  rw [h]
  dsimp only
  rw [if_pos (by decide)]
  repeat' (first | rfl | split)
theorem hd_num (h : ts[i]? = some (("NUMBER", x) : Str × Str)) (hl : i + 1 < ts.length) (hr : head ts k (i + 1) d p (some (.tok "NUMBER" x)) = some r) : head ts (k + 1) i d p none = some r := by
  rw [head]
  unfold turn1
  rw [h]
  dsimp only
  rw [if_neg (by decide), if_pos (by decide)]
  show endT (turn2 ts d p i (some (.tok "NUMBER" x))) _ = _
  rw [t2_go h (by dsimp only; decide) hl]
  exact hr
theorem hd_un {q : Int} (h : ts[i]? = some (("OP", x) : Str × Str)) (h1 : (x == ")") = false) (h2 : (x == "(") = false) (hq : prio x = some q) (hd : d + 1 ≤ 100) (hs : head ts k (i + 1) (d + 1) "unary" none = some sr) :
    head ts (k + 1) i d p none = fin ts sr (fun m => .un x m) d p k := by
  rw [head]
  unfold turn1
  rw [h]
  dsimp only
  rw [if_pos (by decide), if_neg (by rw [h1]; decide), if_neg (by rw [h2]; decide), hq]
  dsimp only
  rw [if_pos hd, hs]
  rfl
theorem hd_bin {q : Int} (h : ts[i]? = some (("OP", x) : Str × Str)) (h1 : (x == ")") = false) (h2 : (x == "(") = false) (hq : prio x = some q) (hp : (decide (q ≤ (prio p).getD (-1)) && !(["**", "^"] : List Str).any (· == x)) = false) (hd : d + 1 ≤ 100) (hs : head ts k (i + 1) (d + 1) x none = some sr) :
    head ts (k + 1) i d p (some n) = fin ts sr (fun m => .bin n (some x) m) d p k := by
  rw [head]
  unfold turn1
  rw [h]
  dsimp only
  rw [if_pos (by decide), if_neg (by rw [h1]; decide), if_neg (by rw [h2]; decide), hq]
  dsimp only
  rw [if_neg (by rw [hp]; decide), if_pos hd, hs]
  rfl
theorem hd_jux (h : ts[i]? = some (("NUMBER", x) : Str × Str)) (hp : ¬ (1 ≤ (prio p).getD (-1))) (hd : d + 1 ≤ 100) (hs : head ts k i (d + 1) "" none = some sr) :
    head ts (k + 1) i d p (some n) = fin ts sr (fun m => .bin n none m) d p k := by
  rw [head]
  unfold turn1
  rw [h]
  dsimp only
  rw [if_neg (by decide), if_pos (by decide), if_neg (by simpa using hp), if_pos hd, hs]
  rfl
theorem hd_par (h : ts[i]? = some (("OP", "(") : Str × Str)) (hs : head ts k (i + 1) 0 "(" none = some (some (m, j))) (hj : ts[j]? = some (("OP", ")") : Str × Str)) (hl : j + 1 < ts.length) (hr : head ts k (j + 1) d p (some m) = some r) : head ts (k + 1) i d p none = some r := by
  rw [head]
  unfold turn1
  rw [h]
  dsimp only
  rw [if_pos (by decide), if_neg (by decide), if_pos (by decide), if_pos (by omega), hs]
  show endT (match ts[j]? with | none => .stuck | some (_, y) => if (y == ")") = true then .go j (some m) else .stuck) _ = _
  rw [hj]
  dsimp only
  rw [if_pos (by decide)]
  show endT (turn2 ts d p j (some m)) _ = _
  rw [t2_go hj (by decide) hl]
  exact hr
theorem hd_close (h : ts[e]? = some (("OP", ")") : Str × Str)) : head ts (k + 1) e 0 "(" (some m) = some (some (m, e)) := by
  rw [head]
  unfold turn1
  rw [h]
  dsimp only
  rw [if_pos (by decide), if_pos (by decide), if_neg (by decide), if_pos (by decide)]
  rfl
/-- an operand ends -/
theorem hd_stop {lv : Int} {q : Str × Str} (hq : ts[e]? = some q) (hs : Stop lv q) (hlv : lv ≤ (prio x).getD (-1)) (hx : (x == "<none>") = false) (hx2 : (x == "(") = false) (he : 0 < e) {q' : Str × Str} (hq' : ts[e - 1]? = some q') (hn' : (q'.1 == "ENDMARKER") = false) (hl : e < ts.length) :
    ∃ sr, head ts 1 e (d + 1) x (some m) = some sr ∧ ∀ (f : N → N) dd p k k' r, k ≤ k' → head ts k e dd p (some (f m)) = some r → fin ts sr f dd p k' = some r := by
  obtain ⟨e, rfl⟩ : ∃ e', e = e' + 1 := ⟨e - 1, by omega⟩
  have retE : ∀ (f : N → N) dd p k k' r, k ≤ k' → head ts k (e + 1) dd p (some (f m)) = some r → fin ts (some (m, e)) f dd p k' = some r := fun f dd p k k' r hk h => by
    show endT (turn2 ts dd p e (some (f m))) _ = _
    rw [t2_go (j := e) (q := q') hq' hn' hl]
    exact head_le h hk
  have sb : ∀ {c : Prop} [Decidable c] {a b : Tn}, c → (if c then a else b) = a := fun h => if_pos h
  rcases hs with h | h | ⟨h1, h2, h3, h4⟩ | ⟨h1, h2⟩
  · refine ⟨some (m, e + 1), ?_, fun f dd p k k' r hk h' => ?_⟩
    · rw [head, t1_end hq h]
      show endT (turn2 ts (d + 1) x (e + 1) (some m)) _ = _
      unfold turn2
      obtain ⟨ty, y⟩ := q
      obtain rfl : ty = "ENDMARKER" := h
      rw [hq]
      dsimp only
      rw [if_pos (by decide), if_neg (by rw [hx2]; decide), if_pos (by simp)]
      rfl
    · show endT (turn2 ts dd p (e + 1) (some (f m))) _ = _
      cases k with
      | zero => cases h'
      | succ k =>
        rw [head, t1_end hq h] at h'
        rw [← h']
        exact t2_end hq h
  · obtain ⟨ty, y⟩ := q
    obtain ⟨rfl, rfl⟩ : ty = "OP" ∧ y = ")" := h
    refine ⟨some (m, e), ?_, retE⟩
    rw [head]
    unfold turn1
    rw [hq]
    dsimp only
    rw [if_pos (by decide), if_pos (by decide), if_neg (by rw [hx]; decide), if_neg (by rw [hx2]; decide)]
    rfl
  · obtain ⟨ty, y⟩ := q
    obtain rfl : ty = "OP" := h1
    rcases h4 with h4 | ⟨pr, h4, h5, h6⟩
    · have bad : ∀ k dd p n, head ts (k + 1) (e + 1) dd p (some n) = some none := fun k dd p n => by
        rw [head]
        unfold turn1
        rw [hq]
        dsimp only at h2 h3 h4 ⊢
        rw [if_pos (by decide), if_neg (by rw [h2]; decide), if_neg (by rw [h3]; decide), h4]
        rfl
      refine ⟨none, bad _ _ _ _, fun f dd p k k' r hk h' => ?_⟩
      cases k with
      | zero => cases h'
      | succ k => rw [← h', bad]; rfl
    · refine ⟨some (m, e), ?_, retE⟩
      rw [head]
      unfold turn1
      rw [hq]
      dsimp only at h2 h3 h4 h6 ⊢
      rw [if_pos (by decide), if_neg (by rw [h2]; decide), if_neg (by rw [h3]; decide), h4]
      dsimp only
      rw [if_pos (by rw [h6]; simp; omega)]
      rfl
  · obtain ⟨ty, y⟩ := q
    obtain rfl : ty = "NUMBER" := h1
    refine ⟨some (m, e), ?_, retE⟩
    rw [head]
    unfold turn1
    rw [hq]
    dsimp only
    rw [if_neg (by decide), if_pos (by decide), if_pos (by simp; omega)]
    rfl
end
end Mine

namespace Mine
open PySem PySem.W PySem.Calls PyProof.Rows

theorem get_at {α : Type} (pre : List α) (a : α) (rest : List α) : (pre ++ a :: rest)[pre.length]? = some a := by simp
theorem wrapT_last {t : T} {w : Bool} {x : List (Str × Str)} (l : Nat) (h : ∃ init last, x = init ++ [last] ∧ (last.1 == ("ENDMARKER" : Str)) = false) : ∃ init last, wrapT t l w x = init ++ [last] ∧ (last.1 == ("ENDMARKER" : Str)) = false := by
  unfold wrapT
  split
  · exact ⟨("OP", "(") :: x, ("OP", ")"), rfl, by decide⟩
  · exact h
theorem toks_last (w : Bool) : ∀ t : T, ∃ init last, t.toks w = init ++ [last] ∧ (last.1 == ("ENDMARKER" : Str)) = false
  | .num k => ⟨[], ("NUMBER", Str.ofString (toString (k : Int))), rfl, by dsimp only; decide⟩
  | .neg a => by
    obtain ⟨i, l, e, h⟩ := wrapT_last (t := a) (w := w) 3 (toks_last w a)
    exact ⟨("OP", "-") :: i, l, by rw [T.toks, e]; rfl, h⟩
  | .bin o a b => by
    obtain ⟨i, l, e, h⟩ := wrapT_last (t := b) (w := w) (T.bind (.bin o a b) + 1) (toks_last w b)
    exact ⟨wrapT a (T.la (.bin o a b)) w (a.toks w) ++ (T.opT (.bin o a b) o ++ i), l, by rw [T.toks, e]; simp, h⟩

def PI (w : Bool) (t : T) : Prop := ∀ (ts pre rest : List (Str × Str)) (q : Str × Str) (d : Nat) (p : Str), ts = pre ++ (t.toks w ++ q :: rest) → (t.isNum = true ∨ Stop t.bind q) → (prio p).getD (-1) < (t.bind : Int) → d + t.size ≤ 100 →
  ∀ k r, head ts k (pre.length + (t.toks w).length) d p (some t.toN) = some r → head ts (k + (8 * t.size - 2)) pre.length d p none = some r
def PWr (w : Bool) (l : Nat) (t : T) : Prop := ∀ (ts pre rest : List (Str × Str)) (q : Str × Str) (d : Nat) (p : Str), ts = pre ++ (wrapT t l w (t.toks w) ++ q :: rest) → (l ≤ t.bind → t.isNum = true ∨ Stop t.bind q) → (l ≤ t.bind → (prio p).getD (-1) < (t.bind : Int)) → d + t.size ≤ 100 →
  ∀ k r, head ts k (pre.length + (wrapT t l w (t.toks w)).length) d p (some t.toN) = some r → head ts (k + 8 * t.size) pre.length d p none = some r
theorem PI.wrap {w : Bool} {t : T} (h : PI w t) (l : Nat) : PWr w l t := by
  intro ts pre rest q d p e hs hp hd k r hr
  have sp := t.size_pos
  unfold wrapT at e hr
  split at e
  · rename_i c
    rw [if_pos c] at hr
    have hl : ((("OP", "(") : Str × Str) :: (t.toks w ++ [(("OP", ")") : Str × Str)])).length = (t.toks w).length + 2 := by simp
    rw [hl] at hr
    have e1 : ts[pre.length]? = some (("OP", "(") : Str × Str) := by rw [e]; exact get_at ..
    have e2 : ts = (pre ++ [(("OP", "(") : Str × Str)]) ++ (t.toks w ++ (("OP", ")") : Str × Str) :: (q :: rest)) := by rw [e]; simp
    have e3 : ts[pre.length + 1 + (t.toks w).length]? = some (("OP", ")") : Str × Str) := by
      have := get_at ((pre ++ [(("OP", "(") : Str × Str)]) ++ t.toks w) (("OP", ")") : Str × Str) (q :: rest)
      rw [List.append_assoc, ← e2] at this
      rw [show pre.length + 1 + (t.toks w).length = ((pre ++ [(("OP", "(") : Str × Str)]) ++ t.toks w).length by simp; omega]
      exact this
    have hlen : pre.length + 1 + (t.toks w).length + 1 < ts.length := by rw [e2]; simp; omega
    obtain ⟨K, hK⟩ : ∃ K, k + 8 * t.size = K + 1 := ⟨k + 8 * t.size - 1, by omega⟩
    rw [hK]
    have ins := h ts (pre ++ [(("OP", "(") : Str × Str)]) (q :: rest) ("OP", ")") 0 "(" e2 (.inr (.inr (.inl ⟨rfl, rfl⟩))) (by
      have : (prio "(").getD (-1) = -1 := by decide
      rw [this]; omega) (by omega) 1 (some (t.toN, pre.length + 1 + (t.toks w).length)) (by
      rw [show (pre ++ [(("OP", "(") : Str × Str)]).length + (t.toks w).length = pre.length + 1 + (t.toks w).length by simp]
      exact hd_close e3)
    rw [show (pre ++ [(("OP", "(") : Str × Str)]).length = pre.length + 1 by simp] at ins
    exact hd_par e1 (head_le ins (by omega)) e3 hlen (head_le (by rw [show pre.length + 1 + (t.toks w).length + 1 = pre.length + ((t.toks w).length + 2) by omega]; exact hr) (by omega))
  · rename_i c
    rw [if_neg c] at hr
    have hb : l ≤ t.bind := by
      simp only [Bool.or_eq_true, decide_eq_true_eq, not_or] at c
      omega
    exact head_le (h ts pre rest q d p e (hs hb) (hp hb) hd k r hr) (by omega)

theorem prio_mark (o : Op) (a b : T) : prio o.mark = some ((T.bind (.bin o a b) : Nat) : Int) := by
  cases o
  · exact (by decide : prio "+" = some 0)
  · exact (by decide : prio "-" = some 0)
  · exact (by decide : prio "*" = some 1)
  · exact (by decide : prio "/" = some 1)
  · exact (by decide : prio "*" = some 1)
  · exact (by decide : prio "**" = some 3)
theorem mark_ne (o : Op) : (o.mark == (")" : Str)) = false ∧ (o.mark == ("(" : Str)) = false ∧ (o.mark == ("<none>" : Str)) = false := by cases o <;> decide
theorem mark_pow (o : Op) (h : o ≠ .pow) : (["**", "^"] : List Str).any (· == o.mark) = false := by
  cases o <;> first | exact absurd rfl h | decide
theorem bind4 (t : T) (h : 4 ≤ t.bind) : t.isNum = true := by
  cases t with
  | num k => rfl
  | neg a => exact absurd h (by simp [T.bind])
  | bin o a b => cases o <;> exact absurd h (by simp [T.bind])
theorem bare_b {o : Op} {a b : T} (h : T.bare (.bin o a b) = true) : o = .jux ∧ b.isNum = true := by
  cases o <;> first | (cases h; done) | skip
  unfold T.bare at h
  exact ⟨rfl, (Bool.and_eq_true_iff.mp h).1⟩
end Mine

namespace Mine
open PySem PySem.W PySem.Calls PyProof.Rows

theorem T.la_le {o : Op} {a b : T} : T.bind (.bin o a b) ≤ T.la (.bin o a b) := by cases o <;> simp [T.la, T.bind]
theorem la_stop {o : Op} {a b : T} {q : Str × Str} (h : T.la (.bin o a b) ≤ a.bind) (hq : q = (("OP", o.mark) : Str × Str) ∨ (q.1 = "NUMBER" ∧ 1 ≤ T.bind (.bin o a b))) : a.isNum = true ∨ Stop (a.bind : Int) q := by
  have hl := Nat.le_trans T.la_le h
  rcases hq with rfl | ⟨h1, h2⟩
  · by_cases ho : o = .pow
    · subst ho; exact .inl (bind4 a h)
    · obtain ⟨m1, m2, m3⟩ := mark_ne o
      exact .inr (.inr (.inr (.inl ⟨rfl, m1, m2, .inr ⟨_, prio_mark o a b, by exact_mod_cast hl, mark_pow o ho⟩⟩)))
  · exact .inr (.inr (.inr (.inr ⟨h1, by omega⟩)))

theorem parse (w : Bool) : ∀ t : T, t.wf → PI w t
  | .num c, _ => by
    intro ts pre rest q d p e hs hp hd k r hr
    have e1 : ts[pre.length]? = some (("NUMBER", Str.ofString (toString (c : Int))) : Str × Str) := by rw [e]; exact get_at ..
    have hl : pre.length + 1 < ts.length := by rw [e]; simp [T.toks]
    exact head_le (hd_num e1 hl hr) (by simp [T.size])
  | .neg a, hw => by
    intro ts pre rest q d p e hs hp hd k r hr
    have sa := a.size_pos
    have ih := (parse w a hw).wrap 3
    have hd' : d + (a.size + 1) ≤ 100 := hd
    rw [show (8 * (T.neg a).size - 2) = 8 * a.size + 6 by show 8 * (a.size + 1) - 2 = _; omega]
    obtain ⟨ini, lst, el, en⟩ := wrapT_last (t := a) (w := w) 3 (toks_last w a)
    have hlen : ((T.neg a).toks w).length = 1 + (wrapT a 3 w (a.toks w)).length := by rw [T.toks]; simp; omega
    rw [hlen] at hr
    have e1 : ts[pre.length]? = some (("OP", "-") : Str × Str) := by rw [e, T.toks]; exact get_at ..
    have e2 : ts = (pre ++ [(("OP", "-") : Str × Str)]) ++ (wrapT a 3 w (a.toks w) ++ q :: rest) := by rw [e, T.toks]; simp
    have e3 : ts[pre.length + (1 + (wrapT a 3 w (a.toks w)).length)]? = some q := by
      have := get_at ((pre ++ [(("OP", "-") : Str × Str)]) ++ wrapT a 3 w (a.toks w)) q rest
      rw [List.append_assoc, ← e2] at this
      rw [show pre.length + (1 + (wrapT a 3 w (a.toks w)).length) = ((pre ++ [(("OP", "-") : Str × Str)]) ++ wrapT a 3 w (a.toks w)).length by simp; omega]
      exact this
    have e4 : ts[pre.length + (1 + (wrapT a 3 w (a.toks w)).length) - 1]? = some lst := by
      have := get_at ((pre ++ [(("OP", "-") : Str × Str)]) ++ ini) lst (q :: rest)
      have e5 : ((pre ++ [(("OP", "-") : Str × Str)]) ++ ini) ++ lst :: (q :: rest) = ts := by rw [e2, el]; simp
      rw [e5] at this
      rw [show pre.length + (1 + (wrapT a 3 w (a.toks w)).length) - 1 = ((pre ++ [(("OP", "-") : Str × Str)]) ++ ini).length by rw [el]; simp; omega]
      exact this
    have hst : Stop ((T.neg a).bind : Int) q := hs.resolve_left (by show ¬ (false = true); decide)
    have hlt : pre.length + (1 + (wrapT a 3 w (a.toks w)).length) < ts.length := (List.getElem?_eq_some_iff.mp e3).1
    have pu : (prio "unary").getD (-1) = 2 := by decide
    obtain ⟨sr, h1, h2⟩ := hd_stop (d := d) (x := "unary") (m := a.toN) e3 hst (by rw [pu]; exact Int.le_refl _) (by decide) (by decide) (by omega) e4 en hlt
    have sub := ih ts (pre ++ [(("OP", "-") : Str × Str)]) rest q (d + 1) "unary" e2 (fun hb => .inr (hst.mono (by show (2 : Int) ≤ _; omega))) (fun hb => by rw [pu]; omega) (by omega) 1 sr (by
      rw [show (pre ++ [(("OP", "-") : Str × Str)]).length + (wrapT a 3 w (a.toks w)).length = pre.length + (1 + (wrapT a 3 w (a.toks w)).length) by simp; omega]
      exact h1)
    rw [show (pre ++ [(("OP", "-") : Str × Str)]).length = pre.length + 1 by simp] at sub
    rw [show k + (8 * a.size + 6) = (k + (8 * a.size + 5)) + 1 by omega]
    rw [hd_un (q := 0) e1 (by decide) (by decide) (by decide) (by omega) (head_le sub (by omega))]
    exact h2 (fun m => .un "-" m) d p k _ r (by omega) hr
  | .bin o a b, hw => by
    intro ts pre rest q d p e hs hp hd k r hr
    have sa := a.size_pos
    have sb := b.size_pos
    have iha := (parse w a (T.wf_a hw)).wrap (T.la (.bin o a b))
    have ihb := (parse w b (T.wf_b hw)).wrap (T.bind (.bin o a b) + 1)
    have hd' : d + (a.size + b.size + 1) ≤ 100 := hd
    have hst : Stop ((T.bin o a b).bind : Int) q := hs.resolve_left (by show ¬ (false = true); decide)
    rw [show (8 * (T.bin o a b).size - 2) = 8 * a.size + (8 * b.size + 6) by show 8 * (a.size + b.size + 1) - 2 = _; omega]
    obtain ⟨ini, lst, el, en⟩ := wrapT_last (t := b) (w := w) (T.bind (.bin o a b) + 1) (toks_last w b)
    rw [T.toks] at e hr
    unfold PWr at iha ihb
    generalize hA : wrapT a (T.la (.bin o a b)) w (a.toks w) = WA at *
    generalize hB : wrapT b (T.bind (.bin o a b) + 1) w (b.toks w) = WB at *
    by_cases hbare : T.bare (.bin o a b) = true
    · obtain ⟨rfl, hn⟩ := bare_b hbare
      obtain ⟨c, rfl⟩ : ∃ c, b = .num c := by cases b with | num c => exact ⟨c, rfl⟩ | neg _ => cases hn | bin _ _ _ => cases hn
      have hW : WB = [(("NUMBER", Str.ofString (toString (c : Int))) : Str × Str)] := by
        rw [← hB, wrapT]
        have : T.bind (.bin .jux a (.num c)) = 1 := rfl
        rw [this, if_neg (by simp [T.bind, T.isNum])]
        rfl
      have hop : T.opT (.bin .jux a (.num c)) .jux = [] := if_pos hbare
      rw [hop, List.nil_append, hW] at e hr
      have hN : T.toN (.bin .jux a (.num c)) = .bin a.toN none (T.toN (.num c)) := by
        show N.bin a.toN (if T.bare (.bin .jux a (.num c)) = true then none else some (Op.mark .jux)) (T.toN (.num c)) = _
        rw [if_pos hbare]
      rw [hN] at hr
      have hb1 : T.bind (.bin .jux a (.num c)) = 1 := rfl
      rw [hb1] at hp hst
      have e2 : ts = pre ++ (WA ++ (("NUMBER", Str.ofString (toString (c : Int))) : Str × Str) :: (q :: rest)) := by rw [e]; simp
      have e1 : ts[pre.length + WA.length]? = some (("NUMBER", Str.ofString (toString (c : Int))) : Str × Str) := by
        have := get_at (pre ++ WA) (("NUMBER", Str.ofString (toString (c : Int))) : Str × Str) (q :: rest)
        rw [List.append_assoc, ← e2, List.length_append] at this
        exact this
      have e3 : ts[pre.length + WA.length + 1]? = some q := by
        have := get_at (pre ++ (WA ++ [(("NUMBER", Str.ofString (toString (c : Int))) : Str × Str)])) q rest
        rw [List.append_assoc, ← e] at this
        rw [show pre.length + WA.length + 1 = (pre ++ (WA ++ [(("NUMBER", Str.ofString (toString (c : Int))) : Str × Str)])).length by simp; omega]
        exact this
      have pz : (prio "").getD (-1) = 1 := by decide
      obtain ⟨sr, h1, h2⟩ := hd_stop (d := d) (x := "") (m := T.toN (.num c)) e3 hst (by rw [pz]; exact Int.le_refl _) (by decide) (by decide) (by omega) (q' := (("NUMBER", Str.ofString (toString (c : Int))) : Str × Str)) e1 (by dsimp only; decide) (List.getElem?_eq_some_iff.mp e3).1
      have sub := parse w (.num c) (T.wf_b hw) ts (pre ++ WA) rest q (d + 1) "" (by rw [e]; simp [T.toks]) (.inl rfl) (by rw [pz]; show (1 : Int) < 9; decide) (by show d + 1 + 1 ≤ 100; omega) 1 sr (by
        rw [show (pre ++ WA).length + (T.toks w (.num c)).length = pre.length + WA.length + 1 by simp [T.toks]]
        exact h1)
      rw [List.length_append] at sub
      have key : head ts (k + (8 * (T.num c).size + 6)) (pre.length + WA.length) d p (some a.toN) = some r := by
        rw [show k + (8 * (T.num c).size + 6) = (k + (8 * (T.num c).size + 5)) + 1 by omega]
        rw [hd_jux e1 (by omega) (by omega) (head_le sub (by omega))]
        refine h2 (fun m => .bin a.toN none m) d p k _ r (by omega) ?_
        rw [show pre.length + WA.length + 1 = pre.length + (WA ++ [(("NUMBER", Str.ofString (toString (c : Int))) : Str × Str)]).length by simp; omega]
        exact hr
      have fin := iha ts pre (q :: rest) (("NUMBER", Str.ofString (toString (c : Int))) : Str × Str) d p e2 (fun hb => la_stop hb (.inr ⟨rfl, by rw [hb1]; exact Nat.le_refl _⟩)) (fun hb => by
        have := Nat.le_trans (T.la_le (o := .jux) (a := a) (b := .num c)) hb
        rw [hb1] at this
        omega) (by omega) _ r key
      rw [show k + (8 * a.size + (8 * (T.num c).size + 6)) = k + (8 * (T.num c).size + 6) + 8 * a.size by omega]
      exact fin
    · have hop : T.opT (.bin o a b) o = [(("OP", o.mark) : Str × Str)] := if_neg hbare
      rw [hop] at e hr
      have hN : T.toN (.bin o a b) = .bin a.toN (some o.mark) b.toN := by rw [T.toN, if_neg hbare]
      rw [hN] at hr
      obtain ⟨m1, m2, m3⟩ := mark_ne o
      have pm := prio_mark o a b
      have pz : (prio o.mark).getD (-1) = ((T.bind (.bin o a b) : Nat) : Int) := by rw [pm]; rfl
      have e2 : ts = pre ++ (WA ++ (("OP", o.mark) : Str × Str) :: (WB ++ q :: rest)) := by rw [e]; simp
      have e1 : ts[pre.length + WA.length]? = some (("OP", o.mark) : Str × Str) := by
        have := get_at (pre ++ WA) (("OP", o.mark) : Str × Str) (WB ++ q :: rest)
        rw [List.append_assoc, ← e2, List.length_append] at this
        exact this
      have e5 : ts = (pre ++ (WA ++ [(("OP", o.mark) : Str × Str)])) ++ (WB ++ q :: rest) := by rw [e]; simp
      have l5 : (pre ++ (WA ++ [(("OP", o.mark) : Str × Str)])).length = pre.length + WA.length + 1 := by simp; omega
      have e3 : ts[pre.length + WA.length + 1 + WB.length]? = some q := by
        have := get_at ((pre ++ (WA ++ [(("OP", o.mark) : Str × Str)])) ++ WB) q rest
        rw [List.append_assoc, ← e5, List.length_append, l5] at this
        exact this
      have e4 : ts[pre.length + WA.length + 1 + WB.length - 1]? = some lst := by
        have := get_at ((pre ++ (WA ++ [(("OP", o.mark) : Str × Str)])) ++ ini) lst (q :: rest)
        have e6 : ((pre ++ (WA ++ [(("OP", o.mark) : Str × Str)])) ++ ini) ++ lst :: (q :: rest) = ts := by rw [e5, el]; simp
        rw [e6, List.length_append, l5] at this
        rw [show pre.length + WA.length + 1 + WB.length - 1 = pre.length + WA.length + 1 + ini.length by rw [el]; simp]
        exact this
      obtain ⟨sr, h1, h2⟩ := hd_stop (d := d) (x := o.mark) (m := b.toN) e3 hst (by rw [pz]; exact Int.le_refl _) m3 m2 (by omega) e4 en (List.getElem?_eq_some_iff.mp e3).1
      have sub := ihb ts (pre ++ (WA ++ [(("OP", o.mark) : Str × Str)])) rest q (d + 1) o.mark e5 (fun hb => .inr (hst.mono (by omega))) (fun hb => by rw [pz]; omega) (by omega) 1 sr (by rw [l5]; exact h1)
      rw [l5] at sub
      have key : head ts (k + (8 * b.size + 6)) (pre.length + WA.length) d p (some a.toN) = some r := by
        rw [show k + (8 * b.size + 6) = (k + (8 * b.size + 5)) + 1 by omega]
        rw [hd_bin e1 m1 m2 pm (by
          rw [decide_eq_false (by omega)]; rfl) (by omega) (head_le sub (by omega))]
        refine h2 (fun m => .bin a.toN (some o.mark) m) d p k _ r (by omega) ?_
        rw [show pre.length + WA.length + 1 + WB.length = pre.length + (WA ++ ([(("OP", o.mark) : Str × Str)] ++ WB)).length by simp; omega]
        exact hr
      have fin := iha ts pre (WB ++ q :: rest) (("OP", o.mark) : Str × Str) d p e2 (fun hb => la_stop hb (.inl rfl)) (fun hb => by
        have := Nat.le_trans (T.la_le (o := o) (a := a) (b := b)) hb
        omega) (by omega) _ r key
      rw [show k + (8 * a.size + (8 * b.size + 6)) = k + (8 * b.size + 6) + 8 * a.size by omega]
      exact fin
end Mine

namespace Mine
open PySem PySem.W PySem.Calls PyProof.Rows
abbrev eTok : Str × Str := ("ENDMARKER", "")
section
variable {w : Bool} {t : T}
theorem run_go (q : Str × Str) (rest : List (Str × Str)) (hw : t.wf) (hz : t.size ≤ 19) (hs : t.isNum = true ∨ Stop t.bind q) {r : Option (N × Nat)}
    (h : head (t.toks w ++ q :: rest) 1 (t.toks w).length 0 "<none>" (some t.toN) = some r) : head (t.toks w ++ q :: rest) 160 0 0 "<none>" none = some r := by
  have := parse w t hw (t.toks w ++ q :: rest) [] rest q 0 "<none>" rfl hs (by
    have : (prio "<none>").getD (-1) = -1 := by decide
    rw [this]; omega) (by omega) 1 r (by rw [List.length_nil, Nat.zero_add]; exact h)
  exact head_le this (by omega)
/-- the text of a tree parses to its node -/
theorem run_ok (hw : t.wf) (hz : t.size ≤ 19) : head (t.toks w ++ [eTok]) 160 0 0 "<none>" none = some (some (t.toN, (t.toks w).length)) := by
  refine run_go eTok [] hw hz (.inr (.inl rfl)) ?_
  have e : (t.toks w ++ [eTok])[(t.toks w).length]? = some eTok := get_at ..
  rw [head, t1_end e rfl]
  show endT (turn2 _ 0 "<none>" _ _) _ = _
  unfold turn2
  rw [e]
  dsimp only
  rw [if_pos (by decide), if_neg (by decide), if_pos (by decide)]
  rfl
theorem run_close (hw : t.wf) (hz : t.size ≤ 19) : head ((t.toks w ++ [(("OP", ")") : Str × Str)]) ++ [eTok]) 160 0 0 "<none>" none = some none := by
  rw [List.append_assoc]
  refine run_go ("OP", ")") [eTok] hw hz (.inr (.inr (.inl ⟨rfl, rfl⟩))) ?_
  have e : (t.toks w ++ (("OP", ")") : Str × Str) :: [eTok])[(t.toks w).length]? = some (("OP", ")") : Str × Str) := get_at ..
  rw [head]
  unfold turn1
  rw [e]
  dsimp only
  rw [if_pos (by decide), if_pos (by decide), if_pos (by decide)]
  rfl
theorem run_dollar (hw : t.wf) (hz : t.size ≤ 19) : head ((t.toks w ++ [(("OP", "$") : Str × Str), (("NUMBER", "2") : Str × Str)]) ++ [eTok]) 160 0 0 "<none>" none = some none := by
  rw [List.append_assoc]
  refine run_go ("OP", "$") [("NUMBER", "2"), eTok] hw hz (.inr (.inr (.inr (.inl ⟨rfl, by decide, by decide, .inl (by decide)⟩)))) ?_
  have e : (t.toks w ++ (("OP", "$") : Str × Str) :: [(("NUMBER", "2") : Str × Str), eTok])[(t.toks w).length]? = some (("OP", "$") : Str × Str) := get_at ..
  have hp : prio "$" = none := by decide
  rw [head]
  unfold turn1
  rw [e]
  dsimp only
  rw [if_pos (by decide), if_neg (by decide), if_neg (by decide), hp]
  rfl
theorem run_open (hw : t.wf) (hz : t.size ≤ 19) : head (((("OP", "(") : Str × Str) :: t.toks w) ++ [eTok]) 160 0 0 "<none>" none = some none := by
  have e0 : (((("OP", "(") : Str × Str) :: t.toks w) ++ [eTok])[0]? = some (("OP", "(") : Str × Str) := rfl
  have e : (((("OP", "(") : Str × Str) :: t.toks w) ++ [eTok])[((("OP", "(") : Str × Str) :: t.toks w).length]? = some eTok := get_at ..
  have sub := parse w t hw (((("OP", "(") : Str × Str) :: t.toks w) ++ [eTok]) [(("OP", "(") : Str × Str)] [] eTok 0 "(" rfl (.inr (.inl rfl)) (by
    have : (prio "(").getD (-1) = -1 := by decide
    rw [this]; omega) (by omega) 1 none (by
    rw [show [(("OP", "(") : Str × Str)].length + (t.toks w).length = ((("OP", "(") : Str × Str) :: t.toks w).length by simp; omega]
    rw [head, t1_end e rfl]
    show endT (turn2 _ 0 "(" _ _) _ = _
    unfold turn2
    rw [e]
    dsimp only
    rw [if_pos (by decide), if_pos (by decide)]
    rfl)
  rw [show (160 : Nat) = 159 + 1 from rfl, head]
  unfold turn1
  rw [e0]
  dsimp only
  rw [if_pos (by decide), if_neg (by decide), if_pos (by decide), if_pos (by decide), show head ((("OP", "(") : Str × Str) :: t.toks w ++ [eTok]) 159 (0 + 1) 0 "(" none = some none from head_le (k' := 159) sub (by omega)]
  rfl
theorem run_nil : head ([] ++ [eTok]) 160 0 0 "<none>" none = some none := rfl
theorem run_plus : head ([(("NUMBER", "2") : Str × Str), (("OP", "+") : Str × Str)] ++ [eTok]) 160 0 0 "<none>" none = some none := rfl
end
end Mine

namespace Mine
open PySem PySem.W PySem.Calls PyProof.Rows
theorem clip_nat (i n : Nat) : (let j := if (i : Int) < 0 then (i : Int) + n else (i : Int); if (1 : Int) > 0 then max 0 (min j n) else max (-1) (min j (n - 1))) = ((min i n : Nat) : Int) := by
  have h1 : ¬ ((i : Int) < 0) := by omega
  simp only [if_neg h1, show (1 : Int) > 0 by decide, if_true]
  omega
theorem idx_nat (a b n : Nat) : Builtin.Str.strSliceIndices (some (a : Int)) (some (b : Int)) 1 n = (List.range (min b n - min a n)).map fun k => min a n + k := by
  have e : Builtin.Str.strSliceIndices (some (a : Int)) (some (b : Int)) 1 n = sliceRange ((min a n : Nat) : Int) ((min b n : Nat) : Int) 1 := by
    unfold Builtin.Str.strSliceIndices
    dsimp only
    rw [clip_nat a n, clip_nat b n]
  rw [e]
  unfold sliceRange
  have hc : (if (1 : Int) > 0 then (if ((min a n : Nat) : Int) < ((min b n : Nat) : Int) then (((min b n : Nat) : Int) - ((min a n : Nat) : Int) + 1 - 1) / 1 else 0) else (if ((min a n : Nat) : Int) > ((min b n : Nat) : Int) then (((min a n : Nat) : Int) - ((min b n : Nat) : Int) - 1 - 1) / (-1) else 0)).toNat = min b n - min a n := by
    rw [if_pos (by decide), Int.ediv_one]
    split <;> omega
  dsimp only
  rw [hc]
  apply List.map_congr_left
  intro k _
  omega
theorem fm_map {α β : Type} (f : α → Option β) (g : α → β) : ∀ l : List α, (∀ i ∈ l, f i = some (g i)) → l.filterMap f = l.map g
  | [], _ => rfl
  | a :: r, h => by rw [List.filterMap_cons, h a (.head _), List.map_cons, fm_map f g r fun i hi => h i (.tail _ hi)]
theorem slice_eq (x : Str) {a b : Nat} {l : List Nat} (h : ((List.range (min b x.length - min a x.length)).map fun k => min a x.length + k).filterMap (x.cps[·]?) = l) : sliceS x a b = ⟨l.toArray⟩ := by
  unfold sliceS Txt.slice
  rw [idx_nat]
  split
  · rename_i c
    have hl : min b x.length - min a x.length = x.length := by
      simpa using c
    have ha : min a x.length = 0 := by omega
    rw [← h, hl, ha]
    have : ((List.range x.length).map fun k => 0 + k) = List.range x.length := by simp
    rw [this]
    have : (List.range x.length).filterMap (x.cps[·]?) = x.cps.toList := by
      have e1 : (List.range x.length).filterMap (x.cps[·]?) = (List.range x.length).map fun i => x.cps.getD i 0 := by
        refine fm_map _ _ _ fun i hi => ?_
        have hi : i < x.cps.size := List.mem_range.mp hi
        simp [hi]
      rw [e1]
      apply List.ext_getElem
      · simp; rfl
      · intro i h1 h2
        have : i < x.cps.size := by simpa using h2
        simp [this]
    rw [this]
  · rw [h]
theorem slice_1 {x : Str} {p c : Nat} (h : x.cps[p]? = some c) : sliceS x p (p + 1) = ⟨#[c]⟩ := by
  have hp : p < x.cps.size := (Array.getElem?_eq_some_iff.mp h).1
  refine slice_eq x (l := [c]) ?_
  have e1 : min p x.length = p := by show min p x.cps.size = p; omega
  have e2 : min (p + 1) x.length = p + 1 := by show min (p + 1) x.cps.size = _; omega
  rw [e1, e2, show p + 1 - p = 1 by omega]
  show List.filterMap (x.cps[·]?) [p + 0] = [c]
  simp [h]
theorem slice_0 {x : Str} {p q : Nat} (h : x.cps[p]? = none) : sliceS x p q = ⟨#[]⟩ := by
  have hp : x.cps.size ≤ p := Array.getElem?_eq_none_iff.mp h
  refine slice_eq x (l := []) ?_
  have e2 : min q x.length - min p x.length = 0 := by show min q x.cps.size - min p x.cps.size = 0; omega
  rw [e2]
  rfl
theorem slice_2 {x : Str} {p c c' : Nat} (h : x.cps[p]? = some c) (h' : x.cps[p + 1]? = some c') : sliceS x p (p + 2) = ⟨#[c, c']⟩ := by
  have hp : p + 1 < x.cps.size := (Array.getElem?_eq_some_iff.mp h').1
  refine slice_eq x (l := [c, c']) ?_
  have e1 : min p x.length = p := by show min p x.cps.size = p; omega
  have e2 : min (p + 2) x.length = p + 2 := by show min (p + 2) x.cps.size = _; omega
  rw [e1, e2, show p + 2 - p = 2 by omega]
  show List.filterMap (x.cps[·]?) [p + 0, p + 1] = [c, c']
  simp [h, h']
theorem slice_12 {x : Str} {p c : Nat} (h : x.cps[p]? = some c) (h' : x.cps[p + 1]? = none) : sliceS x p (p + 2) = ⟨#[c]⟩ := by
  have hp : p < x.cps.size := (Array.getElem?_eq_some_iff.mp h).1
  have hp' : x.cps.size ≤ p + 1 := Array.getElem?_eq_none_iff.mp h'
  refine slice_eq x (l := [c]) ?_
  have e1 : min p x.length = p := by show min p x.cps.size = p; omega
  have e2 : min (p + 2) x.length = p + 1 := by show min (p + 2) x.cps.size = _; omega
  rw [e1, e2, show p + 1 - p = 1 by omega]
  show List.filterMap (x.cps[·]?) [p + 0] = [c]
  simp [h]
/-- the tokens of a row of signs -/
inductive TL : List Nat → List (Str × Str) → Prop
  | nil : TL [] []
  | sp {cs : List Nat} {ts : List (Str × Str)} : TL cs ts → TL (32 :: cs) ts
  | num {c : Nat} {cs : List Nat} {ts : List (Str × Str)} : 48 ≤ c → c ≤ 57 → (∀ c', cs.head? = some c' → c' = 32 ∨ c' = 41) → TL cs ts → TL (c :: cs) (("NUMBER", ⟨#[c]⟩) :: ts)
  | op {c : Nat} {cs : List Nat} {ts : List (Str × Str)} : (c = 40 ∨ c = 41 ∨ c = 43 ∨ c = 45 ∨ c = 36 ∨ ((c = 42 ∨ c = 47) ∧ cs.head? = some 32)) → TL cs ts → TL (c :: cs) (("OP", ⟨#[c]⟩) :: ts)
  | pow {cs : List Nat} {ts : List (Str × Str)} : TL cs ts → TL (42 :: 42 :: cs) (("OP", "**") :: ts)
theorem str_ne {a b : Array Nat} (h : a ≠ b) : ((⟨a⟩ : Str) == ⟨b⟩) = false := beq_eq_false_iff_ne.mpr fun q => h (Str.mk.inj q)
theorem two_ne {c c' : Nat} (h : (c ≠ 42 ∧ c ≠ 47) ∨ c' = 32) : (["**", "//"] : List Str).any (· == (⟨#[c, c']⟩ : Str)) = false := by
  show ((("**" : Str) == ⟨#[c, c']⟩) || ((("//" : Str) == ⟨#[c, c']⟩) || false)) = false
  rw [show ("**" : Str) = ⟨#[42, 42]⟩ by decide, show ("//" : Str) = ⟨#[47, 47]⟩ by decide, str_ne (by simp; omega), str_ne (by simp; omega)]
  rfl
theorem one_ne (c : Nat) : (["**", "//"] : List Str).any (· == (⟨#[c]⟩ : Str)) = false := by
  show ((("**" : Str) == ⟨#[c]⟩) || ((("//" : Str) == ⟨#[c]⟩) || false)) = false
  rw [show ("**" : Str) = ⟨#[42, 42]⟩ by decide, show ("//" : Str) = ⟨#[47, 47]⟩ by decide, str_ne (by simp), str_ne (by simp)]
  rfl
theorem dig_ok {c : Nat} (h1 : 48 ≤ c) (h2 : c ≤ 57) : inSp c = false ∧ isDig c = true := by
  have : c = 48 ∨ c = 49 ∨ c = 50 ∨ c = 51 ∨ c = 52 ∨ c = 53 ∨ c = 54 ∨ c = 55 ∨ c = 56 ∨ c = 57 := by omega
  rcases this with rfl | rfl | rfl | rfl | rfl | rfl | rfl | rfl | rfl | rfl <;> exact ⟨by decide +kernel, by decide +kernel⟩
theorem op_ok {c : Nat} (h : c = 40 ∨ c = 41 ∨ c = 43 ∨ c = 45 ∨ c = 36 ∨ c = 42 ∨ c = 47) : inSp c = false ∧ isDig c = false ∧ ((⟨#[c]⟩ : Str) == ".") = false ∧ Txt.isidentifier ⟨#[c]⟩ = false := by
  rcases h with rfl | rfl | rfl | rfl | rfl | rfl | rfl <;> exact ⟨by decide +kernel, by decide +kernel, by decide +kernel, by decide +kernel⟩
theorem drop_cons {x : Str} {p c : Nat} {cs : List Nat} (h : x.cps.toList.drop p = c :: cs) : x.cps[p]? = some c ∧ x.cps.toList.drop (p + 1) = cs := by
  have h1 : x.cps.toList[p]? = some c := by
    have : (x.cps.toList.drop p)[0]? = some c := by rw [h]; rfl
    rw [List.getElem?_drop, Nat.add_zero] at this
    exact this
  refine ⟨by simpa using h1, ?_⟩
  rw [← List.drop_drop, h]
  rfl
end Mine

namespace Mine
open PySem PySem.W PySem.Calls PyProof.Rows
theorem drop_head {x : Str} {p : Nat} {cs : List Nat} (h : x.cps.toList.drop p = cs) : x.cps[p]? = cs.head? := by
  have : (x.cps.toList.drop p)[0]? = cs.head? := by rw [h]; cases cs <;> rfl
  rw [List.getElem?_drop, Nat.add_zero] at this
  simpa using this
theorem tl_tkz {x : Str} {cs : List Nat} {ts : List (Str × Str)} (h : TL cs ts) : ∀ p, x.cps.toList.drop p = cs → p ≤ x.length → Tkz x p ts := by
  have lt : ∀ {p c : Nat}, x.cps[p]? = some c → p + 1 ≤ x.length := fun h => (Array.getElem?_eq_some_iff.mp h).1
  induction h with
  | nil =>
    intro p hp hl
    refine .done ?_
    have := List.drop_eq_nil_iff.mp hp
    have : x.cps.size ≤ p := by simpa using this
    have : p ≤ x.cps.size := hl
    show p = x.cps.size
    omega
  | sp h ih =>
    intro p hp hl
    obtain ⟨a, b⟩ := drop_cons hp
    exact .skip a (by decide +kernel) (ih _ b (lt a))
  | @num c cs ts h1 h2 hn h ih =>
    intro p hp hl
    obtain ⟨a, b⟩ := drop_cons hp
    obtain ⟨d1, d2⟩ := dig_ok h1 h2
    have hh := drop_head b
    have nx : (∀ c', x.cps[p+1]? = some c' → isDig c' = false) ∧ (sliceS x (p + 1) (p + 2) == ".") = false ∧ (["e", "E"] : List Str).any (· == sliceS x (p + 1) (p + 2)) = false := by
      cases e : x.cps[p+1]? with
      | none =>
        rw [slice_0 e]
        exact ⟨fun c' q => (nomatch q), by decide, by decide⟩
      | some c' =>
        have := hn c' (hh ▸ e)
        rw [show p + 2 = (p + 1) + 1 from rfl, slice_1 e]
        rcases this with rfl | rfl
        · exact ⟨fun c' q => by cases q; decide +kernel, by decide, by decide⟩
        · exact ⟨fun c' q => by cases q; decide +kernel, by decide, by decide⟩
    exact .num a d1 d2 nx.1 nx.2.1 nx.2.2 (slice_1 a) (ih _ b (lt a))
  | @op c cs ts hc h ih =>
    intro p hp hl
    obtain ⟨a, b⟩ := drop_cons hp
    have hh := drop_head b
    obtain ⟨d1, d2, d3, d4⟩ := op_ok (c := c) (by omega)
    refine .op1 a d1 d2 d3 d4 ?_ (slice_1 a) (ih _ b (lt a))
    cases e : x.cps[p+1]? with
    | none => rw [slice_12 a e]; exact one_ne c
    | some c' =>
      rw [slice_2 a e]
      refine two_ne ?_
      rcases hc with h | h | h | h | h | ⟨h, h'⟩
      · omega
      · omega
      · omega
      · omega
      · omega
      · rw [← hh, e] at h'
        exact .inr (Option.some.inj h')
  | @pow cs ts h ih =>
    intro p hp hl
    obtain ⟨a, b⟩ := drop_cons hp
    obtain ⟨a', b'⟩ := drop_cons b
    obtain ⟨d1, d2, d3, d4⟩ := op_ok (c := 42) (by omega)
    have e : sliceS x p (p + 2) = "**" := by rw [slice_2 a a']; decide
    exact .op2 a d1 d2 d3 d4 (by rw [e]; decide) e (lt a') (ih _ b' (lt a'))
theorem tl_run {x : Str} {ts : List (Str × Str)} (h : TL x.cps.toList ts) : Tkz x 0 ts := tl_tkz h 0 (by simp) (Nat.zero_le _)

def Nx (cs : List Nat) : Prop := ∀ c', cs.head? = some c' → c' = 32 ∨ c' = 41
theorem dg_sign {k : Nat} (h : k ≤ 9) : Str.ofString (toString (k : Int)) = ⟨#[48 + k]⟩ := by
  have : k = 0 ∨ k = 1 ∨ k = 2 ∨ k = 3 ∨ k = 4 ∨ k = 5 ∨ k = 6 ∨ k = 7 ∨ k = 8 ∨ k = 9 := by omega
  rcases this with rfl | rfl | rfl | rfl | rfl | rfl | rfl | rfl | rfl | rfl <;> decide
theorem tl_num {k : Nat} (h : k ≤ 9) {cs : List Nat} {ts : List (Str × Str)} (n : Nx cs) (x : TL cs ts) : TL ((Str.ofString (toString (k : Int))).cps.toList ++ cs) (("NUMBER", Str.ofString (toString (k : Int))) :: ts) := by
  rw [dg_sign h]
  exact .num (by omega) (by omega) n x
theorem tl_wrap {w : Bool} {t : T} (l : Nat) (h : ∀ cs ts, Nx cs → TL cs ts → TL ((t.txt w).cps.toList ++ cs) (t.toks w ++ ts)) : ∀ cs ts, Nx cs → TL cs ts → TL ((wrap t l w (t.txt w)).cps.toList ++ cs) (wrapT t l w (t.toks w) ++ ts) := by
  intro cs ts n x
  unfold wrap wrapT
  split
  · rw [cps_toList_append, cps_toList_append]
    rw [show ("(" : Str) = ⟨#[40]⟩ by decide, show (")" : Str) = ⟨#[41]⟩ by decide]
    have := TL.op (c := 40) (.inl rfl) (h (41 :: cs) (("OP", ⟨#[41]⟩) :: ts) (fun c' q => .inr (Option.some.inj q).symm) (TL.op (c := 41) (.inr (.inl rfl)) x))
    simpa using this
  · exact h cs ts n x
theorem nx_sp {cs : List Nat} : Nx (32 :: cs) := fun c' q => .inl (Option.some.inj q).symm
theorem tl_txt (w : Bool) : ∀ t : T, t.wf → ∀ cs ts, Nx cs → TL cs ts → TL ((t.txt w).cps.toList ++ cs) (t.toks w ++ ts)
  | .num k, hw, cs, ts, n, x => tl_num hw n x
  | .neg a, hw, cs, ts, n, x => by
    have := TL.op (c := 45) (by omega) (tl_wrap 3 (tl_txt w a hw) cs ts n x)
    rw [T.txt, T.toks, cps_toList_append, show ("-" : Str) = ⟨#[45]⟩ by decide]
    simpa using this
  | .bin o a b, hw, cs, ts, n, x => by
    have ia := fun l => tl_wrap l (tl_txt w a (T.wf_a hw))
    have ib := fun l => tl_wrap l (tl_txt w b (T.wf_b hw)) cs ts n x
    rw [T.toks]
    have gen : ∀ (c : Nat) (m : Str) (la lb : Nat), (c = 43 ∨ c = 45 ∨ c = 42 ∨ c = 47) → m = ⟨#[c]⟩ → TL ((wrap a la w (a.txt w) ++ " " ++ m ++ " " ++ wrap b lb w (b.txt w)).cps.toList ++ cs) (wrapT a la w (a.toks w) ++ ([(("OP", m) : Str × Str)] ++ wrapT b lb w (b.toks w)) ++ ts) := fun c m la lb hc hm => by
      subst hm
      have := ia la _ _ nx_sp (.sp (.op (c := c) (by simp; omega) (.sp (ib lb))))
      rw [cps_toList_append, cps_toList_append, cps_toList_append, cps_toList_append, show (" " : Str) = ⟨#[32]⟩ by decide]
      simpa using this
    cases o
    case pow =>
      have := ia 4 _ _ nx_sp (.sp (.pow (.sp (ib 4))))
      obtain ⟨_, e, he, rfl⟩ := hw
      have h34 : ∀ x, wrapT (.num e) 4 w x = x := fun x => by
        unfold wrapT
        rw [if_neg (by simp [T.bind, T.isNum])]
      have h3 : wrap (.num e) 3 w ((T.num e).txt w) = wrap (.num e) 4 w ((T.num e).txt w) := by
        unfold wrap
        rw [if_neg (by simp [T.bind, T.isNum]), if_neg (by simp [T.bind, T.isNum])]
      show TL ((wrap a 4 w (a.txt w) ++ " ** " ++ wrap (.num e) 3 w ((T.num e).txt w)).cps.toList ++ cs) (wrapT a 4 w (a.toks w) ++ ([(("OP", "**") : Str × Str)] ++ wrapT (.num e) 4 w ((T.num e).toks w)) ++ ts)
      rw [h3, cps_toList_append, cps_toList_append, show (" ** " : Str) = ⟨#[32, 42, 42, 32]⟩ by decide]
      simpa using this
    case jux =>
      by_cases hb : T.bare (.bin .jux a b) = true
      · obtain ⟨_, hn⟩ := bare_b hb
        obtain ⟨c, rfl⟩ : ∃ c, b = .num c := by cases b with | num c => exact ⟨c, rfl⟩ | neg _ => cases hn | bin _ _ _ => cases hn
        have := ia 1 _ _ nx_sp (.sp (tl_num (T.wf_b hw) n x))
        have e1 : T.txt w (.bin .jux a (.num c)) = wrap a 1 w (a.txt w) ++ " " ++ Str.ofString (toString (c : Int)) := by
          show (if T.bare (.bin .jux a (.num c)) = true then wrap a 1 w (a.txt w) ++ " " ++ T.digit (.num c) else _) = _
          rw [if_pos hb]
          rfl
        have e2 : T.opT (.bin .jux a (.num c)) .jux = [] := if_pos hb
        have e3 : wrapT (.num c) (T.bind (.bin .jux a (.num c)) + 1) w ((T.num c).toks w) = [(("NUMBER", Str.ofString (toString (c : Int))) : Str × Str)] := by
          have : T.bind (.bin .jux a (.num c)) = 1 := rfl
          rw [wrapT, this, if_neg (by simp [T.bind, T.isNum])]
          rfl
        rw [e1, e2, e3, cps_toList_append, cps_toList_append, show (" " : Str) = ⟨#[32]⟩ by decide]
        show TL _ (wrapT a 1 w (a.toks w) ++ ([] ++ [(("NUMBER", Str.ofString (toString (c : Int))) : Str × Str)]) ++ ts)
        simpa using this
      · have e1 : T.txt w (.bin .jux a b) = wrap a 1 w (a.txt w) ++ " * " ++ wrap b 2 w (b.txt w) := by
          show (if T.bare (.bin .jux a b) = true then _ else wrap a 1 w (a.txt w) ++ " * " ++ wrap b 2 w (b.txt w)) = _
          rw [if_neg hb]
        have e2 : T.opT (.bin .jux a b) .jux = [(("OP", "*") : Str × Str)] := if_neg hb
        have := ia 1 _ _ nx_sp (.sp (.op (c := 42) (by simp) (.sp (ib 2))))
        rw [e1, e2, cps_toList_append, cps_toList_append, show (" * " : Str) = ⟨#[32, 42, 32]⟩ by decide, show ("*" : Str) = ⟨#[42]⟩ by decide]
        show TL _ (wrapT a 1 w (a.toks w) ++ ([(("OP", ⟨#[42]⟩) : Str × Str)] ++ wrapT b 2 w (b.toks w)) ++ ts)
        simpa using this
    case add => exact gen 43 "+" 0 1 (by omega) (by decide)
    case sub => exact gen 45 "-" 0 1 (by omega) (by decide)
    case mul => exact gen 42 "*" 1 2 (by omega) (by decide)
    case div => exact gen 47 "/" 1 2 (by omega) (by decide)
end Mine

namespace Mine
open PySem PySem.W PySem.Calls PyProof.Rows
theorem tk_ok (w : Bool) (t : T) (hw : t.wf) : Tkz (t.txt w) 0 (t.toks w) := by
  have := tl_txt w t hw [] [] (fun _ q => nomatch q) .nil
  rw [List.append_nil, List.append_nil] at this
  exact tl_run this
theorem tk_open (w : Bool) (t : T) (hw : t.wf) : Tkz ("(" ++ t.txt w) 0 (("OP", "(") :: t.toks w) := by
  have := tl_txt w t hw [] [] (fun _ q => nomatch q) .nil
  rw [List.append_nil, List.append_nil] at this
  refine tl_run ?_
  rw [cps_toList_append, show ("(" : Str) = ⟨#[40]⟩ by decide]
  exact .op (c := 40) (.inl rfl) this
theorem tk_close (w : Bool) (t : T) (hw : t.wf) : Tkz (t.txt w ++ ")") 0 (t.toks w ++ [(("OP", ")") : Str × Str)]) := by
  refine tl_run ?_
  rw [cps_toList_append, show (")" : Str) = ⟨#[41]⟩ by decide]
  exact tl_txt w t hw [41] _ (fun _ q => .inr (Option.some.inj q).symm) (.op (c := 41) (.inr (.inl rfl)) .nil)
theorem tk_dollar (w : Bool) (t : T) (hw : t.wf) : Tkz (t.txt w ++ " $ 2") 0 (t.toks w ++ [(("OP", "$") : Str × Str), (("NUMBER", "2") : Str × Str)]) := by
  refine tl_run ?_
  rw [cps_toList_append, show (" $ 2" : Str) = ⟨#[32, 36, 32, 50]⟩ by decide, show ("$" : Str) = ⟨#[36]⟩ by decide, show ("2" : Str) = ⟨#[50]⟩ by decide]
  exact tl_txt w t hw [32, 36, 32, 50] _ nx_sp (.sp (.op (c := 36) (by omega) (.sp (.num (by omega) (by omega) (fun _ q => nomatch q) .nil))))
theorem tk_nil : Tkz "" 0 [] := .done (by decide)
theorem tk_plus : Tkz "2 +" 0 [(("NUMBER", "2") : Str × Str), (("OP", "+") : Str × Str)] := by
  refine tl_run ?_
  rw [show ("2 +" : Str) = ⟨#[50, 32, 43]⟩ by decide, show ("+" : Str) = ⟨#[43]⟩ by decide, show ("2" : Str) = ⟨#[50]⟩ by decide]
  exact .num (by omega) (by omega) nx_sp (.sp (.op (c := 43) (by omega) .nil))
theorem wrapT_len (t : T) (l : Nat) (w : Bool) (x : List (Str × Str)) : (wrapT t l w x).length ≤ x.length + 2 := by
  unfold wrapT
  split
  · simp
  · omega
theorem toks_len (w : Bool) : ∀ t : T, (t.toks w).length + 2 ≤ 5 * t.size
  | .num k => by show 1 + 2 ≤ 5 * 1; omega
  | .neg a => by
    have i := toks_len w a
    have e := wrapT_len a 3 w (a.toks w)
    show ((("OP", "-") : Str × Str) :: wrapT a 3 w (a.toks w)).length + 2 ≤ 5 * (a.size + 1)
    rw [List.length_cons]; omega
  | .bin o a b => by
    have i := toks_len w a
    have j := toks_len w b
    have e := wrapT_len a (T.la (.bin o a b)) w (a.toks w)
    have f := wrapT_len b (T.bind (.bin o a b) + 1) w (b.toks w)
    have g : (T.opT (.bin o a b) o).length ≤ 1 := by unfold T.opT; split <;> simp
    show (wrapT a (T.la (.bin o a b)) w (a.toks w) ++ (T.opT (.bin o a b) o ++ wrapT b (T.bind (.bin o a b) + 1) w (b.toks w))).length + 2 ≤ 5 * (a.size + b.size + 1)
    rw [List.length_append, List.length_append]; omega
def Sh (l : List (Str × Str)) : Prop := ∀ q ∈ l, q.2.length ≤ 1000
theorem Sh.app {a b : List (Str × Str)} (x : Sh a) (y : Sh b) : Sh (a ++ b) := fun q hq => (List.mem_append.mp hq).elim (x q) (y q)
theorem Sh.one {k x : Str} (h : x.length ≤ 1000) : Sh [((k, x) : Str × Str)] := fun q hq => by rw [List.mem_singleton.mp hq]; exact h
theorem Sh.cons {k x : Str} {l : List (Str × Str)} (h : x.length ≤ 1000) (y : Sh l) : Sh ((k, x) :: l) := fun q hq => by
  rcases List.mem_cons.mp hq with rfl | hq
  · exact h
  · exact y q hq
theorem Sh.wrap {t : T} {l : Nat} {w : Bool} {x : List (Str × Str)} (h : Sh x) : Sh (wrapT t l w x) := by
  unfold wrapT
  split
  · exact .cons (by decide) (h.app (.one (by decide)))
  · exact h
theorem toks_sh (w : Bool) : ∀ t : T, t.wf → Sh (t.toks w)
  | .num k, hw => .one (by rw [digit_len k hw]; decide)
  | .neg a, hw => .cons (by decide) (toks_sh w a hw).wrap
  | .bin o a b, hw => by
    refine (toks_sh w a (T.wf_a hw)).wrap.app (Sh.app ?_ (toks_sh w b (T.wf_b hw)).wrap)
    unfold T.opT
    split
    · exact fun q hq => nomatch hq
    · exact .one (by cases o <;> decide)
theorem toN_pv : ∀ t : T, t.toN.pv = t.node
  | .num k => rfl
  | .neg a => by
    show nodePV a.toN.pv (tokPV "OP" "-") .none = nodePV a.node (tokPV "OP" "-") .none
    rw [toN_pv a]
  | .bin o a b => by
    have e : o.mark = o.sign := by cases o <;> rfl
    show nodePV a.toN.pv (match (if T.bare (.bin o a b) = true then none else some o.mark) with | none => .none | some x => tokPV "OP" x) b.toN.pv = nodePV a.node (opTok (.bin o a b) o) b.node
    rw [toN_pv a, toN_pv b]
    unfold opTok
    by_cases h : T.bare (.bin o a b) = true
    · rw [if_pos h, if_pos h]
    · rw [if_neg h, if_neg h, e]
end Mine

namespace Mine
open PySem PySem.W PySem.Calls PyProof.Rows
section
local macro_rules | `(tactic| walk_at "nm") => `(tactic| first | with_reducible exact nm_add | with_reducible exact nm_mul | with_reducible exact nm_pow_operator | with_reducible exact nm_sub | with_reducible exact nm_truediv | with_reducible exact nm_DefinitionSyntaxError | with_reducible exact nm_common_divisor | with_reducible exact nm_Quotient | with_reducible exact nm_whole | with_reducible exact nm_number_from_text | with_reducible exact nm_TokenInfo | with_reducible exact nm_end_of_figures | with_reducible exact nm_end_of_number | with_reducible exact nm_tokenizer | with_reducible exact nm__power | with_reducible exact nm__divided | with_reducible exact nm__plus | with_reducible exact nm__minus | with_reducible exact nm__UNARY_OPERATOR_MAP | with_reducible exact nm__BINARY_OPERATOR_MAP | with_reducible exact nm__OP_PRIORITY | with_reducible exact nm_EvalTreeNode | with_reducible exact nm__build_eval_tree | with_reducible exact nm_build_eval_tree | with_reducible exact nm__law_cell | with_reducible exact nm__law_tree | with_reducible exact nm__law_bind | with_reducible exact nm__law_is_bare | with_reducible exact nm__law_text | with_reducible exact nm__law_within | with_reducible exact nm__law_told | with_reducible exact nm__law_value | with_reducible exact nm__law_number | with_reducible exact nm__law_is_refused)
local macro_rules | `(tactic| walk_at "mem") => `(tactic| repeat (first | with_reducible exact LMem.head | with_reducible apply LMem.tail))
local macro_rules | `(tactic| walk_at "put") => `(tactic| first
  | with_reducible exact PutR.nil
  | ((with_reducible refine' PutR.pass ?pn ?pr); (case pn => decide); (case pr => walk_at "put"))
  | ((with_reducible refine' PutR.drop ?pr); (case pr => walk_at "put")))
local macro_rules | `(tactic| walk_at "sub") => `(tactic| repeat (first
  | with_reducible exact LSub.nil
  | ((with_reducible refine' LSub.cons ?lm ?_); (case lm => walk_at "mem"))))
local macro_rules | `(tactic| walk_at "go") => `(tactic| repeat (first
  | with_reducible refine' ev_int ?_
  | with_reducible refine' ev_str ?_
  | ((with_reducible refine' ev_var ?hm ?hl ?hd ?_); (case hm => walk_at "mem"); (case hl => rfl); (case hd => decide))
  | ((with_reducible refine' ev_built ?hO ?hv ?he ?hn ?hl ?hd ?_); (case hO => assumption); (case hv => boot_by_name); (case he => kernel_rfl); (case hn => decide); (case hl => rfl); (case hd => decide))
  | ((with_reducible refine' ev_topS ?hO ?he ?hl ?hd ?_); (case he => first | with_reducible exact nm_ENDMARKER | with_reducible exact nm_NAME | with_reducible exact nm_NUMBER | with_reducible exact nm_OP); (case hO => assumption); (case hl => rfl); (case hd => decide))
  | ((with_reducible refine' ev_topI ?hO ?he ?hl ?hd ?_); (case he => with_reducible exact nm__MAX_RECURSION_DEPTH); (case hO => assumption); (case hl => rfl); (case hd => decide))
  | ((with_reducible refine' ev_top ?hO ?he ?hl ?hd ?_); (case hO => assumption); (case he => walk_at "nm"); (case hl => rfl); (case hd => decide))
  | ((with_reducible refine' ev_cel ?hl ?hd ?hc ?hm ?_); (case hl => rfl); (case hd => decide); (case hc => exact rfl); (case hm => exact List.Mem.head _))
  | ((with_reducible refine' And.intro ?hk ?_); (case hk => first | with_reducible exact kp_bi | with_reducible exact kp_ty | ((with_reducible refine' kp_fn ?_); kernel_rfl)))
  | with_reducible refine' evs_nil ?_
  | ((with_reducible refine' evs_more ?he ?_); (case he => intro _; rfl))
  | with_reducible refine' ev_bin ?_
  | with_reducible refine' ev_tup ?_
  | with_reducible refine' ev_lst ?_
  | ((with_reducible refine' And.intro ?hk ?_); (case hk => size_fits))
  | ((with_reducible refine' ev_mcl0 ?hO ?he ?hp ?_); (case hO => assumption); (case he => intro _; exact ⟨_, rfl⟩); (case hp => rfl))
  | ((with_reducible refine' ev_cl0 ?hO ?he ?hp ?_); (case hO => assumption); (case he => intro _; rfl); (case hp => rfl))
  | with_reducible refine' ev_sub ?_
  | ((with_reducible refine' ev_compare ?hm ?_); (case hm => with_unfolding_all rfl))
  | with_reducible refine' ev_attr ?_
  | with_reducible refine' ev_none ?_
  | with_reducible refine' ev_bool ?_
  | with_reducible refine' ev_un ?_
  | with_reducible refine' ev_ife ?_
  | ((with_reducible refine' ev_mcl ?hO ?he ?hp ?hk ?_); (case hO => assumption); (case he => intro _; exact ⟨_, rfl⟩); (case hp => rfl); (case hk => rfl))
  | ((with_reducible refine' ev_cl ?hO ?he ?hp ?hk ?_); (case hO => assumption); (case he => intro _; rfl); (case hp => rfl); (case hk => rfl))
  | with_reducible refine' evk_nil ?_
  | with_reducible refine' evk_cons ?_
  | with_reducible refine' ex_ret ?_
  | ((with_reducible refine' ex_asg ?hl ?hs ?_); (case hl => rfl); (case hs => intro _; rfl))
  | ((with_reducible refine' ex_swap2 ?hs ?hw ?hx ?hy ?_); (case hs => intro _; rfl); (case hw => intro _; rfl); (case hx => rfl); (case hy => rfl))
  | ((with_reducible refine' ex_tup2 ?hs ?hw ?hx ?hy ?_); (case hs => intro _; rfl); (case hw => intro _; rfl); (case hx => rfl); (case hy => rfl))
  | ((with_reducible refine' ex_aug ?hm ?hl ?_); (case hm => walk_at "mem"); (case hl => rfl))
  | ((with_reducible refine' Exists.intro _ (And.intro (?hp : PutR _ _ _ _) ?_)); (case hp => walk_at "put"))
  | with_reducible refine' Exists.intro _ (Exists.intro _ (And.intro rfl ?_))
  | with_reducible refine' Exists.intro _ (And.intro rfl ?_)
  | with_reducible refine' ex_if ?_
  | with_reducible refine' ex_nil ?_
  | with_reducible refine' ex_cont ?_
  | with_reducible refine' ex_pass ?_
  | with_reducible refine' ex_assert ?_
  | with_reducible refine' sq_next ?_
  | with_reducible refine' sq_ret ?_
  | with_reducible refine' sq_brk ?_
  | with_reducible refine' sq_cont ?_
  | with_reducible refine' retp ?_
  | with_reducible refine' cut_ret ?_
  | with_reducible refine' loop_ret ?_
  | with_reducible refine' loop_brk ?_
  | with_reducible refine' retn ?_
  | with_reducible refine' ts_not ?_
  | with_reducible refine' ts_andN ?_
  | with_reducible refine' ts_orN ?_
  | with_reducible refine' ts_and ?_
  | with_reducible refine' ts_or ?_
  | ((with_reducible refine' ts_compare ?hm ?_); (case hm => with_unfolding_all rfl))
  | ((with_reducible refine' ts_val ?_ ?he); (case he => intro _ _; rfl))
  | with_reducible refine' d2_add ?_
  | with_reducible refine' d2_sub ?_
  | with_reducible refine' d2_iadd ?_
  | with_reducible refine' d1_neg ?_
  | with_reducible refine' d2_lt ?_
  | with_reducible refine' d2_gt ?_
  | with_reducible refine' d2_le ?_
  | with_reducible refine' d2_ge ?_
  | with_reducible refine' d2_eq ?_
  | with_reducible refine' d2_ne ?_
  | with_reducible refine' d2_seq ?_
  | with_reducible refine' d2_sne ?_
  | with_reducible refine' tr_bool ?_
  | with_reducible refine' tr_none ?_
  | with_reducible refine' tr_int ?_
  | with_reducible refine' cl_abs ?_
  | with_reducible refine' cl_int ?_
  | ((with_reducible refine' op_fdiv ?hO ?hb ?hd ?hg ?hc ?hh ?_); (case hO => assumption); (case hb => decide); (case hd => decide); (case hg => rfl); (case hc => rfl); (case hh => rfl))
  | ((with_reducible refine' op_headNum ?hs ?_); (case hs => intro _ _; exact ⟨_, rfl⟩))
  | ((with_reducible refine' op_headNeg ?hs ?_); (case hs => intro _ _; exact ⟨_, rfl⟩))
  | ((with_reducible refine' op_headBin ?hs ?_); (case hs => intro _ _; exact ⟨_, rfl⟩))
  | ((with_reducible refine' op_head ?hs ?_); (case hs => intro _ _; exact ⟨_, rfl⟩))
  | ((with_reducible refine' op_num1 ?hs ?_); (case hs => intro _ _; exact ⟨_, rfl⟩))
  | ((with_reducible refine' op_neg1 ?hs ?_); (case hs => intro _ _; exact ⟨_, rfl⟩))
  | ((with_reducible refine' op_bin1 ?hs ?_); (case hs => intro _ _; exact ⟨_, rfl⟩))
  | ((with_reducible refine' op_bin2 ?hs ?_); (case hs => intro _ _; exact ⟨_, rfl⟩))
  | ((with_reducible refine' if_t ?hc ?_); (case hc => decide))
  | ((with_reducible refine' if_f ?hc ?_); (case hc => decide))
  | with_reducible refine' ev_slcTo ?_
  | ((with_reducible refine' tk_string ?hO ?_); (case hO => assumption))
  | ((with_reducible refine' tk_type ?hO ?_); (case hO => assumption))
  | ((with_reducible refine' nd_left ?hO ?_); (case hO => assumption))
  | ((with_reducible refine' nd_op ?hO ?_); (case hO => assumption))
  | ((with_reducible refine' nd_right ?hO ?_); (case hO => assumption))
  | ((with_reducible refine' tr_tok ?hO ?_); (case hO => assumption))
  | ((with_reducible refine' tr_node ?hO ?_); (case hO => assumption))
  | with_reducible refine' ev_slcFrom ?_
  | with_reducible refine' ev_slcBoth ?_
  ))
section
variable {w : World} {loose : List Str} {mean : ExcName → Option Value} {mg mb : Str → Option Value} {base : Heap}
theorem ld : (Str.ofString " $ 2").length = 4 := by decide
theorem rep_q (O : (GG w loose mean mg mb base).Ok) {x y : Int} {B : Nat} {p : PV} (hy : y ≠ 0) (h : Rep x y B p) : Fn (GG w loose mean mg mb base) 102 (.ref 223) [p] [] (fun q => q = QPV (qn x y) (qd x y)) none := by
  have key : ∀ n m : Int, Nf n m → n * y = x * m → n = qn x y ∧ m = qd x y := fun n m hn e => by
    refine Nf.uniq hn (.of hy) ?_
    have hc := q_cross x y
    apply Int.eq_of_mul_eq_mul_right hy
    grind
  rcases h with ⟨n, rfl, e, _⟩ | ⟨n, m, rfl, hn, e, _⟩
  · obtain ⟨a, b⟩ := key n 1 (Nf.one n) (by rw [e, Int.mul_one])
    rw [← a, ← b]
    exact quot_int O
  · obtain ⟨a, b⟩ := key n m hn e
    rw [← a, ← b]
    exact quot_q O hn
theorem law_spec (O : (GG w loose mean mg mb base).Ok) {ns : List Int} (hl : ns.length < 2 ^ 59) : FnA (GG w loose mean mg mb base) 690 (.ref 447) [.lst (ns.map PV.int)] true := by
  refine fn_aft O (d := 689) (ps := [("script", .lst (ns.map PV.int))]) (by rfl) (by kernel_rfl) (bnds1 fun _ => by rfl) (fun A g L Z s m o l st hA => ?_) (by rfl) (of_decide_eq_true (by kernel_rfl)) (by rfl) rfl rfl rfl
  show wpAny _ _ (execs ([_, _, _] ++ [_, _]) _) _ _ _
  rw [execs_app]
  refine wpAny_bind (wpAny_mono ((?part1 : Ex _ _ _ [] _ _ (fun fo o σ' => fo = .next ∧ ∃ (t : T) (v : Bool), t.wf ∧ t.size ≤ 19 ∧ LSub σ' [("text", .str (t.txt v))]) none) A g L Z Z s m l st) (fun fl s₁ q => ?_) fun _ _ q => q.no.elim)
  case part1 =>
    walk_at "go"
    refine cl_use0 (tree_spec O hl) (by decide) ?_
    rintro _ ⟨t, hw, hlv, hz, rfl⟩
    walk_at "go"
    refine cl_use0 (cell_spec O (by decide) (by decide) (by omega)) (by decide) ?_
    rintro _ ⟨r, hr, rfl⟩
    walk_at "go"
    refine op_modN (by decide) fun k _ hk => ?_
    walk_at "go"
    generalize ((k : Int) == 2) = v
    refine cl_use0 (value_spec O t hw (by omega) hlv) (by omega) ?_
    rintro _ rfl
    walk_at "go"
    refine cl_use0 (text_spec O v t hw (by omega)) (by omega) ?_
    rintro _ rfl
    walk_at "go"
    cases hv : t.value with
    | none =>
      refine op_isnot rfl ?_
      walk_at "go"
      refine ⟨t, v, hw, hz, ?_⟩
      walk_at "sub"
    | some xy =>
      obtain ⟨x, y⟩ := xy
      refine op_isnot rfl ?_
      refine tr_bool ?_
      refine if_t rfl ?_
      have tl := txt_len v t hw
      have kl := toks_len v t
      refine ex_asg (by rfl) (fun _ => by rfl) ?_
      refine (bet_spec O (tk_ok v t hw) (by omega) (by omega) (toks_sh v t hw) (run_ok hw hz) (by decide) (fun _ _ => ?_) ?_ ?_).mono (fun p q => ?_)
      · walk_at "go"
        rfl
      · walk_at "go"
        rfl
      · walk_at "go"
        rfl
      obtain ⟨n, j, hj, rfl⟩ := q
      cases hj
      rw [toN_pv]
      obtain ⟨a1, a2, a3, hnode⟩ := t.node_eq
      walk_at "go"
      rw [hnode]
      refine mt_eval O ?_
      rw [← hnode]
      walk_at "go"
      refine cl_use0 (eval_spec O t hw hlv x y hv) (by omega) ?_
      intro p hp
      have hy := (T.value_le t hw hv).2.2
      walk_at "go"
      refine cl_use0 (rep_q O hy hp) (by omega) ?_
      rintro _ rfl
      walk_at "go"
      refine op_atT (k := 0) (l := [.int x, .int y]) (fun _ _ => ⟨_, rfl⟩) (by decide) rfl ?_
      walk_at "go"
      refine op_atT (k := 1) (l := [.int x, .int y]) (fun _ _ => ⟨_, rfl⟩) (by decide) rfl ?_
      walk_at "go"
      refine cl_use0 (quot_2 O hy) (by omega) ?_
      rintro _ rfl
      refine op_neS O (d := 688) (by kernel_rfl) (by kernel_rfl) (by kernel_rfl) (by kernel_rfl) (eq_spec O (n := qn x y) (m := qd x y) (n' := qn x y) (m' := qd x y)) (by omega) ?_
      rw [beq_self_eq_true, beq_self_eq_true]
      refine tr_bool ?_
      refine if_f rfl ?_
      walk_at "go"
      cases v with
      | true =>
        refine if_f rfl ?_
        walk_at "go"
        try refine if_f rfl ?_
        walk_at "go"
        refine ⟨t, true, hw, hz, ?_⟩
        walk_at "sub"
      | false =>
        refine if_t rfl ?_
        walk_at "go"
        rw [hnode]
        refine mt_tostr O ?_
        rw [← hnode]
        walk_at "go"
        refine cl_use0 (tostr_spec O t hw (by omega)) (by omega) ?_
        rintro _ rfl
        walk_at "go"
        refine cl_use0 (told_spec O t hw (by omega)) (by omega) ?_
        rintro _ rfl
        walk_at "go"
        rw [bne_self_eq_false]
        refine if_f rfl ?_
        try refine if_f rfl ?_
        walk_at "go"
        refine ⟨t, false, hw, hz, ?_⟩
        walk_at "sub"
  obtain ⟨Z', m', own', σ', fo, k₁, l₁, q₁, st₁, fr, rfl, t, v, hw, hz, ls⟩ := q
  cases fl <;> first | exact fr.elim | skip
  dsimp only
  have tl := txt_len v t hw
  have kl := toks_len v t
  have st₂ : StR noZ m' [("text", .str (t.txt v))] := fun q hq => by
    obtain ⟨u, a, b⟩ := st₁ q (ls.all q hq)
    rw [List.mem_singleton.mp hq] at a b ⊢
    cases b
    exact ⟨_, a, .str _ _⟩
  have l₂ := l₁.bare rfl rfl
  refine wpAny_mono (wp_tail' (d := 689) rfl ?c1 ?c2 ?c3 ?c4 ?c5 l₂ st₂) (fun fl s' q => ?_) fun _ _ q => q
  case c1 =>
    refine yes_ref O (tk_open v t hw) ?_ ?_ ?_ (run_open hw hz) (by decide) rfl rfl rfl ?_ ?_
    · rw [strLen_append, l5]; omega
    · rw [List.length_cons]; omega
    · exact Sh.cons (by decide) (toks_sh v t hw)
    · dsimp only
      walk_at "go"
      rfl
    · dsimp only
      walk_at "go"
      refine d2_sadd ?_ (by rw [l5, sizeLine_eq]; omega)
      walk_at "go"
      rfl
  case c2 =>
    refine yes_ref O (tk_close v t hw) ?_ ?_ ?_ (run_close hw hz) (by decide) rfl rfl rfl ?_ ?_
    · rw [strLen_append, l6]; omega
    · rw [List.length_append]; show _ + 1 ≤ _; omega
    · exact (toks_sh v t hw).app (Sh.one (by decide))
    · dsimp only
      walk_at "go"
      rfl
    · dsimp only
      walk_at "go"
      refine d2_sadd ?_ (by rw [l6, sizeLine_eq]; omega)
      walk_at "go"
      rfl
  case c3 =>
    refine yes_ref O (tk_nil) ?_ ?_ ?_ (run_nil) (by decide) rfl rfl rfl ?_ ?_
    · decide
    · decide
    · exact fun q hq => nomatch hq
    · dsimp only
      walk_at "go"
      rfl
    · dsimp only
      walk_at "go"
      rfl
  case c4 =>
    refine yes_ref O (tk_dollar v t hw) ?_ ?_ ?_ (run_dollar hw hz) (by decide) rfl rfl rfl ?_ ?_
    · rw [strLen_append, ld]; omega
    · rw [List.length_append]; show _ + 2 ≤ _; omega
    · exact (toks_sh v t hw).app (Sh.cons (by decide) (Sh.one (by decide)))
    · dsimp only
      walk_at "go"
      rfl
    · dsimp only
      walk_at "go"
      refine d2_sadd ?_ (by rw [ld, sizeLine_eq]; omega)
      walk_at "go"
      rfl
  case c5 =>
    refine yes_ref O (tk_plus) ?_ ?_ ?_ (run_plus) (by decide) rfl rfl rfl ?_ ?_
    · decide
    · decide
    · exact Sh.cons (by decide) (Sh.one (by decide))
    · dsimp only
      walk_at "go"
      rfl
    · dsimp only
      walk_at "go"
      rfl
  obtain ⟨rfl, g₂⟩ := q
  refine ⟨rfl, g₂.1.up, q₁.trans g₂.2, ?_, g₂.1.fr.keep⟩
  obtain ⟨o', ho, ff⟩ := g₂.1.stk
  cases hA.symm.trans ho
  exact ff
end
end
end Mine

namespace Mine
open PySem PySem.W PySem.Calls PyProof.Rows
section
theorem ints_rd {Z : FZ} {vs : List Value} {ns : List Int} (h : IntsAre vs ns) : RdL Z vs (ns.map PV.int) := by
  induction h with
  | nil => exact .nil
  | cons n t _ ih => exact .cons (.int _ _) ih
theorem joined : PySem.Challenge.rw_fe0210_01.Holds := by
  refine hd ?_
  intro w s₀ s₁ mg mb G Y a o pm cd doc dV kV ho hd' hcd hD hmg hg args vals as hpre hlay hrd hwl hlo
  have KX := kIn_of Y
  have T := G.T
  have hmg' : mg "law" = some (.ref a) := hmg
  have el := mg_of (n := "law") (v := .ref 447) KX T.g (by kernel_rfl)
  rw [hmg'] at el
  cases el
  clear hd' hcd hD hmg hmg' ho G Y
  wrow_args hpre hlay hrd hwl hlo
  rename_i hL ra w1 r0 hI hr hc1 hc2
  clear ra w1 r0 hr hc2
  refine enter_call ?_
  have O : (GG w _ _ mg mb s₁.heap).Ok := ⟨KX, T, rfl, by kernel_rfl⟩
  obtain ⟨ob, ho, hcl, n, hdt⟩ := hL
  refine codeAny_mono (law_spec O (by omega) callerA [] s₁ (fun b => s₁.heap.get? b) _ ⟨rfl, rfl, trivial, fun _ _ e => e, Nat.le_refl _, by decide, by decide⟩ (fun _ _ e => e) (.cons (.lst ho hcl hdt (ints_rd hI)) .nil)) (fun r s' q => ?_)
  obtain ⟨rfl, af⟩ := q
  refine ⟨.inl ⟨_, _, [], rfl, fun _ => rfl, ReadsW.bool true, ?_, fun _ => ⟨List.nodup_nil, fun _ hm => (nomatch hm)⟩⟩, .of_keep af.stay, af.ss.os, ?_⟩
  · first | rfl | wrow_post
  · intro x hx
    obtain ⟨i, hi⟩ := Array.getElem?_of_mem hx
    rcases af.ss.gens.2 i x hi with e | e
    · rw [hg] at e; simp at e
    · exact e
end
end Mine

theorem PySem.Challenge.cw_fe0210_01_holds : PySem.Challenge.rw_fe0210_01.Holds :=
  Mine.joined
