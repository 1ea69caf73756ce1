import PyProof.Rows.All
import Wide.All
import OpenK.AllK
import Wide.FinOn
import PySem.Challenge.RW_fq5009_02
open PySem PySem.W PyProof.Rows PySem.Spec PySem.Calls
set_option Elab.async false
set_option maxRecDepth 100000
set_option linter.unusedVariables false

set_option maxHeartbeats 8000000 in
open_top hd2 for PySem.Challenge.rw_fq5009_02

namespace Sx

inductive AV where
  | none | bool (b : Bool) | int (i : Int) | str (x : Str) | ref (i : Nat) | con (v : Value)

inductive AO where
  | list (vs : List AV)
  | tup (vs : List AV)
  | inst (C : Addr) (d : Nat)
  | sdict (v : Option AV)
  | cell (v : Option AV)
  | dict (es : List (Int × Str × AV))
  | iter (T : Bool) (l k : Nat)
  | range (n : Nat)
  | riter (k n : Nat)

def AO.isDict : AO → Bool
  | .dict _ => true
  | _ => false

structure AS where
  loc : Str → Option AV
  hp : Nat → Option AO
  nx : Nat

def AS.set (st : AS) (x : Str) (a : AV) : AS := { st with loc := fun y => if y = x then some a else st.loc y }
def AS.put (st : AS) (i : Nat) (o : AO) : AS := { st with hp := fun j => if j = i then some o else st.hp j }
def AS.new (st : AS) (o : AO) : AS := { loc := st.loc, hp := fun j => if j = st.nx then some o else st.hp j, nx := st.nx + 1 }

section
variable (σ : Nat → Addr) (nx : Nat)
def VR : AV → Value → Prop
  | .none, v => v = .none
  | .bool b, v => v = .bool b
  | .int i, v => ∃ t, v = .int i t
  | .str x, v => ∃ t, v = .str x t
  | .ref i, v => i < nx ∧ v = .ref (σ i)
  | .con u, v => v = u
def VRs : List AV → List Value → Prop
  | [], vs => vs = []
  | a :: as, vs => ∃ v r, vs = v :: r ∧ VR σ nx a v ∧ VRs as r
def VRo : Option AV → Option Value → Prop
  | none, _ => True
  | some a, v => ∃ u, v = some u ∧ VR σ nx a u
def ER : List (Int × Str × AV) → List DictEntry → Prop
  | [], es => es = []
  | (h, x, a) :: r, es => ∃ t u q, es = ⟨h, .str x t, u⟩ :: q ∧ VR σ nx a u ∧ ER r q
def OR : AO → Obj → Prop
  | .list vs, o => ∃ us n, o = listOf (List.toArray us) n ∧ VRs σ nx vs us
  | .tup vs, o => ∃ us n, o = { cls := .type "tuple", data := .seq (List.toArray us) n } ∧ VRs σ nx vs us
  | .inst C d, o => d < nx ∧ ∃ sl, o = ⟨.ref C, some (σ d), .plain, sl⟩
  | .sdict none, o => ∃ n, o = dictOf [] n
  | .sdict (some a), o => ∃ h t u n, o = dictOf [⟨h, .str "_items" t, u⟩] n ∧ VR σ nx a u
  | .cell a, o => ∃ w, o.data = .cell w ∧ VRo σ nx a w
  | .dict es, o => ∃ ds n, o = dictOf ds n ∧ ER σ nx es ds
  | .range n, o => ∃ t u v, o = { cls := .type "range", dict := none, data := .fields #[.int 0 t, .int n u, .int 1 v], slots := #[] }
  | .riter k n, o => o = { cls := .type "range_iterator", dict := none, data := .fields #[rawInt k, rawInt ((n : Int) - (k : Nat)), rawInt 1], slots := #[] }
  | .iter T l k, o => l < nx ∧ o.cls = .type (if T then "tuple_iterator" else "list_iterator") ∧ o.data = .fields #[.ref (σ l), .int k 0]
end

structure Ext (nx : Nat) (σ σ' : Nat → Addr) (nx' : Nat) : Prop where
  le : nx ≤ nx'
  eq : ∀ i, i < nx → σ' i = σ i
theorem Ext.refl {nx : Nat} {σ : Nat → Addr} : Ext nx σ σ nx := ⟨Nat.le_refl _, fun _ _ => rfl⟩
theorem Ext.trans {n1 n2 n3 : Nat} {σ1 σ2 σ3 : Nat → Addr} (a : Ext n1 σ1 σ2 n2) (b : Ext n2 σ2 σ3 n3) : Ext n1 σ1 σ3 n3 :=
  ⟨Nat.le_trans a.le b.le, fun i h => (b.eq i (Nat.lt_of_lt_of_le h a.le)).trans (a.eq i h)⟩

theorem VR.mono {n1 n2 : Nat} {σ1 σ2 : Nat → Addr} (e : Ext n1 σ1 σ2 n2) : ∀ {a : AV} {v : Value}, VR σ1 n1 a v → VR σ2 n2 a v
  | .none, _, h => h
  | .bool _, _, h => h
  | .int _, _, h => h
  | .str _, _, h => h
  | .ref i, _, h => ⟨Nat.lt_of_lt_of_le h.1 e.le, h.2.trans (congrArg Value.ref (e.eq i h.1).symm)⟩
  | .con _, _, h => h
theorem VRs.mono {n1 n2 : Nat} {σ1 σ2 : Nat → Addr} (e : Ext n1 σ1 σ2 n2) : ∀ {as : List AV} {vs : List Value}, VRs σ1 n1 as vs → VRs σ2 n2 as vs
  | [], _, h => h
  | _ :: _, _, ⟨v, r, h, a, b⟩ => ⟨v, r, h, a.mono e, VRs.mono e b⟩
theorem VRo.mono {n1 n2 : Nat} {σ1 σ2 : Nat → Addr} (e : Ext n1 σ1 σ2 n2) : ∀ {a : Option AV} {v : Option Value}, VRo σ1 n1 a v → VRo σ2 n2 a v
  | none, _, _ => trivial
  | some _, _, ⟨u, h, a⟩ => ⟨u, h, a.mono e⟩
theorem ER.mono {n1 n2 : Nat} {σ1 σ2 : Nat → Addr} (e : Ext n1 σ1 σ2 n2) : ∀ {as : List (Int × Str × AV)} {vs : List DictEntry}, ER σ1 n1 as vs → ER σ2 n2 as vs
  | [], _, h => h
  | (_, _, _) :: _, _, ⟨t, u, q, x, a, b⟩ => ⟨t, u, q, x, a.mono e, ER.mono e b⟩
theorem OR.mono {n1 n2 : Nat} {σ1 σ2 : Nat → Addr} (e : Ext n1 σ1 σ2 n2) : ∀ {a : AO} {o : Obj}, OR σ1 n1 a o → OR σ2 n2 a o
  | .list _, _, ⟨us, n, h, a⟩ => ⟨us, n, h, a.mono e⟩
  | .tup _, _, ⟨us, n, h, a⟩ => ⟨us, n, h, a.mono e⟩
  | .inst _ d, _, ⟨h, sl, a⟩ => ⟨Nat.lt_of_lt_of_le h e.le, sl, by rw [e.eq d h]; exact a⟩
  | .sdict none, _, h => h
  | .sdict (some _), _, ⟨h, t, u, n, x, a⟩ => ⟨h, t, u, n, x, a.mono e⟩
  | .cell _, _, ⟨w, h, a⟩ => ⟨w, h, a.mono e⟩
  | .dict _, _, ⟨ds, n, h, a⟩ => ⟨ds, n, h, a.mono e⟩
  | .range _, _, h => h
  | .riter _ _, _, h => h
  | .iter T l k, _, ⟨h, a, b⟩ => ⟨Nat.lt_of_lt_of_le h e.le, a, by rw [e.eq l h]; exact b⟩

theorem VRs.length {σ nx} : ∀ {as : List AV} {vs : List Value}, VRs σ nx as vs → vs.length = as.length
  | [], _, h => by cases h; rfl
  | _ :: _, _, ⟨v, r, h, a, b⟩ => by subst h; rw [List.length_cons, List.length_cons, VRs.length b]
theorem VRs.append {σ nx} : ∀ {as bs : List AV} {vs us : List Value}, VRs σ nx as vs → VRs σ nx bs us → VRs σ nx (as ++ bs) (vs ++ us)
  | [], _, _, _, h, k => by cases h; exact k
  | _ :: _, _, _, _, ⟨v, r, h, a, b⟩, k => by subst h; exact ⟨v, _, rfl, a, VRs.append b k⟩
theorem VRs.one {σ nx} {a : AV} {v : Value} (h : VR σ nx a v) : VRs σ nx [a] [v] := ⟨v, [], rfl, h, rfl⟩
theorem VRs.get {σ nx} : ∀ {as : List AV} {vs : List Value} {i : Nat} {a : AV}, VRs σ nx as vs → as[i]? = some a → ∃ v, vs[i]? = some v ∧ VR σ nx a v
  | _ :: _, _, 0, _, ⟨v, r, h, x, b⟩, e => by subst h; cases e; exact ⟨v, rfl, x⟩
  | _ :: as, _, i + 1, _, ⟨v, r, h, x, b⟩, e => by subst h; exact VRs.get b (i := i) e
theorem VRs.get' {σ nx} : ∀ {as : List AV} {vs : List Value} {i : Nat} {v : Value}, VRs σ nx as vs → vs[i]? = some v → ∃ a, as[i]? = some a ∧ VR σ nx a v
  | [], _, i, _, h, e => by cases h; simp at e
  | _ :: _, _, 0, _, ⟨v, r, h, x, b⟩, e => by subst h; cases e; exact ⟨_, rfl, x⟩
  | _ :: as, _, i + 1, _, ⟨v, r, h, x, b⟩, e => by subst h; exact VRs.get' b (i := i) e
theorem VRs.take {σ nx} : ∀ {as : List AV} {vs : List Value} (n : Nat), VRs σ nx as vs → VRs σ nx (as.take n) (vs.take n)
  | [], _, n, h => by cases h; simp [VRs]
  | _ :: _, _, 0, h => by simp [VRs]
  | _ :: _, _, n + 1, ⟨v, r, h, x, b⟩ => by subst h; exact ⟨v, _, rfl, x, VRs.take n b⟩
theorem VRs.drop {σ nx} : ∀ {as : List AV} {vs : List Value} (n : Nat), VRs σ nx as vs → VRs σ nx (as.drop n) (vs.drop n)
  | [], _, n, h => by cases h; simp [VRs]
  | _ :: _, _, 0, h => h
  | _ :: _, _, n + 1, ⟨v, r, h, x, b⟩ => by subst h; exact VRs.drop n b

/-- the data of the program at hand: the part of the heap that is known whole, and what the top has left -/
structure Gl where
  prog : Program
  w : World
  K : Frag
  p : Program
  loose : List Str
  mean : ExcName → Option Value
  mg : Str → Option Value
  mb : Str → Option Value
  base : Heap
  os : OsState
  drawn : Drawn
  gp : Array GenState → Prop
structure Gl.Ok (g : Gl) : Prop where
  X : g.K.In g.base
  T : Top g.p g.loose g.mean g.mg g.mb g.base

/-- an activation -/
structure Cx where
  A : Around
  env : Env
  fenv : Env
  L : Addr
  outer : List Env
  outs : List (Addr × (Str → Option Value))
  cid : Str → Option Nat
  cd : Option ((Str → Option Value) × (Str → Option Value))
  pins : List (Addr × Obj)

structure Cx.Ok (c : Cx) : Prop where
  frames : c.A.frames = some (c.fenv :: c.outer)
  frame : c.fenv.frame = some c.L
  fkind : c.fenv.scope.kind = .function
  kind : c.env.scope.kind = .function
  globals : c.env.globals = mainGlobals
  own : c.cd = none → c.env = c.fenv ∧ c.env.locals = c.L
  comp : ∀ x, c.cd = some x → (c.env.locals, x.1) ∈ c.outs
  outer : ∀ e ∈ c.outer, e.scope.kind ≠ .module ∧ ∃ p ∈ c.outs, e.frame = some p.1
  apart : ∀ p ∈ c.outs, p.1 ≠ c.L

def Loc (c : Cx) (σ : Nat → Addr) (st : AS) (m : Str → Option Value) : Prop := match c.cd with
  | none => ∀ x a, st.loc x = some a → ∃ v, m x = some v ∧ VR σ st.nx a v
  | some (lm, m₀) => m = m₀ ∧ ∀ x a, st.loc x = some a → ∃ v, lm x = some v ∧ VR σ st.nx a v

structure RepN (g : Gl) (c : Cx) (σ : Nat → Addr) (st : AS) (m : Str → Option Value) (news : List (Addr × Obj)) (h : Heap) : Prop where
  fr : Fr g.base c.L h m
  nw : News g.base c.L h news
  loc : Loc c σ st m
  hp : ∀ i o, st.hp i = some o → i < st.nx ∧ ∃ ob, (σ i, ob) ∈ news ∧ OR σ st.nx o ob
  inj : ∀ i j, st.hp i ≠ none → st.hp j ≠ none → σ i = σ j → i = j
  outs : ∀ p ∈ c.outs, ∃ o, (p.1, o) ∈ news ∧ LCg.NsObj o p.2
  sep : ∀ i, st.hp i ≠ none → ∀ p ∈ c.outs, σ i ≠ p.1
  cids : ∀ x i, c.cid x = some i → i < st.nx ∧ c.env.cells.lookup x = some (σ i)
  pins : ∀ p ∈ c.pins, p ∈ news ∧ (∀ i, st.hp i ≠ none → σ i ≠ p.1) ∧ ∀ q ∈ c.outs, p.1 ≠ q.1
  lo : ∀ i o, st.hp i = some o → o.isDict = true → 1 < σ i

def Still (g : Gl) (s : Shared) : Prop := s.os = g.os ∧ s.drawn = g.drawn ∧ g.gp s.gens
def Rep (g : Gl) (c : Cx) (σ : Nat → Addr) (st : AS) (s : Shared) : Prop := (∃ m news, RepN g c σ st m news s.heap) ∧ Still g s

/-- an exception on its way, in the frame c -/
inductive Phase (c : Cx) (B : Heap) (a : Addr) (cls a0 : Value) (h : Heap) : Prop
  | new (k : B.StaysIn h) (n : B.get? a = none) (f : h.FunFrames B (c.fenv :: c.outer)) (t : ∃ ob vs, h.get? a = some ob ∧ ob.cls = cls ∧ ob.data = .fields vs ∧ vs[1]? = some .none ∧ vs[0]? = some a0)
  | fly (x : Heap.FlyingW B (c.fenv :: c.outer) a cls a0 h)
  | held (x : Heap.HeldW B (c.fenv :: c.outer) a cls a0 c.L h)
def RepX (g : Gl) (c : Cx) (σ : Nat → Addr) (st : AS) (cls : String) (e : Value) (s : Shared) : Prop :=
  (∃ m news, RepN g c σ st m news s.heap ∧ ∃ a B a0, e = .ref a ∧ g.base.StaysIn B ∧ (∀ q ∈ news, (∀ p ∈ c.outs, q.1 ≠ p.1) → B.get? q.1 = some q.2) ∧ Phase c B a (.type cls) a0 s.heap) ∧ Still g s

section
variable {α β : Type}
def PostOk (g : Gl) (c : Cx) (R : (Nat → Addr) → Nat → β → α → Prop) (σ : Nat → Addr) (nx : Nat) (Q : β → AS → Prop) : α → Shared → Prop :=
  fun v s' => ∃ r σ' st', Q r st' ∧ Ext nx σ σ' st'.nx ∧ Rep g c σ' st' s' ∧ R σ' st'.nx r v
def PostX (g : Gl) (c : Cx) (σ : Nat → Addr) (nx : Nat) (X : String → AS → Prop) : Value → Shared → Prop :=
  fun e s' => ∃ cls σ' st', X cls st' ∧ Ext nx σ σ' st'.nx ∧ RepX g c σ' st' cls e s'
def Ok (g : Gl) (c : Cx) (R : (Nat → Addr) → Nat → β → α → Prop) (t : Sem α) (st : AS) (Q : β → AS → Prop) (X : String → AS → Prop) : Prop :=
  ∀ σ s, Rep g c σ st s → wpAny (model g.prog g.w) c.A t (PostOk g c R σ st.nx Q) (PostX g c σ st.nx X) s

variable {g : Gl} {c : Cx} {R : (Nat → Addr) → Nat → β → α → Prop} {t : Sem α} {st : AS} {Q Q' : β → AS → Prop} {X X' : String → AS → Prop} {σ σ' : Nat → Addr} {nx nx' : Nat} {s : Shared}
theorem PostX.ext (e : Ext nx σ σ' nx') {v : Value} (h : PostX g c σ' nx' X v s) : PostX g c σ nx X v s :=
  let ⟨cls, σ2, st2, a, b, r⟩ := h; ⟨cls, σ2, st2, a, e.trans b, r⟩
theorem PostOk.ext (e : Ext nx σ σ' nx') {v : α} (h : PostOk g c R σ' nx' Q v s) : PostOk g c R σ nx Q v s :=
  let ⟨cls, σ2, st2, a, b, r⟩ := h; ⟨cls, σ2, st2, a, e.trans b, r⟩
theorem Ok.mono (h : Ok g c R t st Q X) (hQ : ∀ r st, Q r st → Q' r st) (hX : ∀ r st, X r st → X' r st) : Ok g c R t st Q' X' := fun σ s r =>
  wpAny_mono (h σ s r) (fun _ _ ⟨r, σ', st', a, b⟩ => ⟨r, σ', st', hQ _ _ a, b⟩) fun _ _ ⟨r, σ', st', a, b⟩ => ⟨r, σ', st', hX _ _ a, b⟩
/-- one tree, then what comes behind it -/
theorem seq {F : α → Shared → Prop} (h : Ok g c R t st Q X) (r : Rep g c σ st s)
    (k : ∀ v s' a σ' st', Q a st' → Ext st.nx σ σ' st'.nx → Rep g c σ' st' s' → R σ' st'.nx a v → F v s') : wpAny (model g.prog g.w) c.A t F (PostX g c σ st.nx X) s :=
  wpAny_mono (h σ s r) (fun v s' ⟨a, σ', st', q, e, r, x⟩ => k v s' a σ' st' q e r x) fun _ _ x => x
end

theorem Rep.still {g : Gl} {c : Cx} {σ : Nat → Addr} {st : AS} {s : Shared} (r : Rep g c σ st s) : Still g s := r.2
theorem Rep.toks {g : Gl} {c : Cx} {σ : Nat → Addr} {st : AS} {s : Shared} {tk : Nat} (r : Rep g c σ st s) : Rep g c σ st { s with toks := tk } := r
end Sx

namespace Sx

section
variable {g : Gl} {c : Cx} {σ : Nat → Addr} {st : AS} {m : Str → Option Value} {news : List (Addr × Obj)} {h h' : Heap} {s : Shared}

theorem Loc.put (H : Loc c σ st m) (i : Nat) (o : AO) : Loc c σ (st.put i o) m := H
theorem Loc.ext {σ' : Nat → Addr} {st' : AS} (H : Loc c σ st m) (hl : st'.loc = st.loc) (e : Ext st.nx σ σ' st'.nx) : Loc c σ' st' m := by
  unfold Loc at H ⊢
  rw [hl]
  split at H
  · exact fun x a q => let ⟨v, y, z⟩ := H x a q; ⟨v, y, z.mono e⟩
  · exact ⟨H.1, fun x a q => let ⟨v, y, z⟩ := H.2 x a q; ⟨v, y, z.mono e⟩⟩

/-- more objects, nothing else -/
theorem RepN.grown (r : RepN g c σ st m news h) (k : ∀ b o, h.get? b = some o → h'.get? b = some o) : RepN g c σ st m news h' :=
  { r with fr := r.fr.keeps k, nw := r.nw.grown k }
theorem RepN.of (r : RepN g c σ st m news h) (F : Fr g.base c.L h' m) (N : News g.base c.L h' news) : RepN g c σ st m news h' := { r with fr := F, nw := N }

/-- a new object that the state takes in -/
theorem lo_new {hp : Nat → Option AO} {nx a : Nat} {σ : Nat → Addr} {o : AO} (lo : ∀ i o, hp i = some o → o.isDict = true → 1 < σ i) (lt : ∀ i o, hp i = some o → i < nx) (ha : o.isDict = true → 1 < a) :
    ∀ i o', (if i = nx then some o else hp i) = some o' → o'.isDict = true → 1 < (if i = nx then a else σ i) := fun i o' h hd => by
  by_cases e : i = nx
  · rw [if_pos e] at h ⊢
    cases h
    exact ha hd
  · rw [if_neg e] at h ⊢
    exact lo i o' h hd
theorem RepN.new (r : RepN g c σ st m news h) {a : Addr} {ob : Obj} {o : AO} (F : Fr g.base c.L h' m) (N : News g.base c.L h' ((a, ob) :: news)) (l : ∀ p ∈ news, p.1 < a)
    (e : OR (fun i => if i = st.nx then a else σ i) (st.nx + 1) o ob) (hlo : o.isDict = true → 1 < a := by exact fun h => Bool.noConfusion h) :
    RepN g c (fun i => if i = st.nx then a else σ i) (st.new o) m ((a, ob) :: news) h' ∧ Ext st.nx σ (fun i => if i = st.nx then a else σ i) (st.new o).nx := by
  have ex : Ext st.nx σ (fun i => if i = st.nx then a else σ i) (st.new o).nx := ⟨Nat.le_succ _, fun i hi => if_neg (Nat.ne_of_lt hi)⟩
  have old : ∀ i, st.hp i ≠ none → (if i = st.nx then a else σ i) = σ i ∧ σ i < a ∧ i ≠ st.nx := fun i hi => by
    obtain ⟨o', ho'⟩ := Option.ne_none_iff_exists'.mp hi
    obtain ⟨lt, ob', hm, _⟩ := r.hp i o' ho'
    exact ⟨if_neg (Nat.ne_of_lt lt), l _ hm, Nat.ne_of_lt lt⟩
  refine ⟨{ fr := F, nw := N, lo := lo_new r.lo (fun i o q => (r.hp i o q).1) hlo, loc := r.loc.ext rfl ex, hp := fun i o' q => ?_, inj := fun i j hi hj q => ?_, outs := fun p hp => ?_, sep := fun i hi p hp => ?_, cids := fun x i q => ?_, pins := fun p hp => ⟨List.mem_cons_of_mem _ (r.pins p hp).1, fun i hi => ?_, (r.pins p hp).2.2⟩ }, ex⟩
  · by_cases hi : i = st.nx
    · subst hi
      have : o' = o := by simp [AS.new] at q; exact q.symm
      subst this
      exact ⟨Nat.lt_succ_self _, ob, by simp, e⟩
    · have q' : st.hp i = some o' := by simpa [AS.new, hi] using q
      obtain ⟨lt, ob', hm, ho⟩ := r.hp i o' q'
      exact ⟨Nat.lt_succ_of_lt lt, ob', by rw [if_neg hi]; exact List.mem_cons_of_mem _ hm, ho.mono ex⟩
  · have key : ∀ k, (st.new o).hp k ≠ none → k = st.nx ∨ st.hp k ≠ none := fun k hk => by
      by_cases z : k = st.nx
      · exact .inl z
      · exact .inr (by simpa [AS.new, z] using hk)
    rcases key i hi with rfl | hi' <;> rcases key j hj with rfl | hj'
    · rfl
    · obtain ⟨x1, x2, x3⟩ := old j hj'
      (try dsimp only at q)
      rw [if_pos rfl, x1] at q
      exact absurd x2 (by rw [q]; exact Nat.lt_irrefl _)
    · obtain ⟨x1, x2, x3⟩ := old i hi'
      (try dsimp only at q)
      rw [if_pos rfl, x1] at q
      exact absurd x2 (by rw [q]; exact Nat.lt_irrefl _)
    · (try dsimp only at q)
      rw [(old i hi').1, (old j hj').1] at q
      exact r.inj i j hi' hj' q
  · obtain ⟨o', hm, hn⟩ := r.outs p hp
    exact ⟨o', List.mem_cons_of_mem _ hm, hn⟩
  · by_cases z : i = st.nx
    · obtain ⟨o', hm, _⟩ := r.outs p hp
      (try dsimp only)
      rw [if_pos z]
      exact Nat.ne_of_gt (l _ hm)
    · have hi' : st.hp i ≠ none := by simpa [AS.new, z] using hi
      (try dsimp only)
      rw [if_neg z]
      exact r.sep i hi' p hp
  · obtain ⟨lt, q'⟩ := r.cids x i q
    exact ⟨Nat.lt_succ_of_lt lt, by rw [if_neg (Nat.ne_of_lt lt)]; exact q'⟩
  · by_cases z : i = st.nx
    · (try dsimp only)
      rw [if_pos z]
      exact Nat.ne_of_gt (l _ (r.pins p hp).1)
    · have hi' : st.hp i ≠ none := by simpa [AS.new, z] using hi
      (try dsimp only)
      rw [if_neg z]
      exact (r.pins p hp).2.1 i hi'

/-- the object at i, taken out to be changed -/
theorem RepN.take (r : RepN g c σ st m news h) {i : Nat} {o : AO} (q : st.hp i = some o) : ∃ ob rest, News g.base c.L h ((σ i, ob) :: rest) ∧ OR σ st.nx o ob ∧ (∀ p ∈ rest, p.1 ≠ σ i) ∧ (∀ p ∈ rest, p ∈ news) ∧ (∀ p ∈ news, p.1 ≠ σ i → p ∈ rest) ∧ (σ i, ob) ∈ news ∧
    ∀ h' ob' o', Fr g.base c.L h' m → News g.base c.L h' ((σ i, ob') :: rest) → OR σ st.nx o' ob' → (o'.isDict = true → o.isDict = true) → RepN g c σ (st.put i o') m ((σ i, ob') :: rest) h' := by
  obtain ⟨lt, ob, hm, ho⟩ := r.hp i o q
  refine ⟨ob, news.filter (fun p => decide (p.1 ≠ σ i)), fun p hp => ?_, ho, fun p hp => by simpa using (List.mem_filter.mp hp).2, fun p hp => (List.mem_filter.mp hp).1, fun p hp hne => List.mem_filter.mpr ⟨hp, by simpa using hne⟩, hm, fun h' ob' o' F N e hlo => ?_⟩
  · rcases List.mem_cons.mp hp with rfl | hp
    · exact r.nw _ hm
    · exact r.nw _ (List.mem_filter.mp hp).1
  · refine { fr := F, nw := N, lo := fun j o₂ hj hd => (by
      by_cases z : j = i
      · subst z
        have : o₂ = o' := by simpa [AS.put] using hj.symm
        subst this
        exact r.lo j o q (hlo hd)
      · exact r.lo j o₂ (by simpa [AS.put, z] using hj) hd), loc := r.loc.put i o', hp := fun j o₂ hj => ?_, inj := fun j k hj hk z => ?_, outs := fun p hp => ?_, sep := fun j hj p hp => ?_, cids := r.cids, pins := fun p hp => ⟨List.mem_cons_of_mem _ (List.mem_filter.mpr ⟨(r.pins p hp).1, ?_⟩), fun j hj => (r.pins p hp).2.1 j ?_, (r.pins p hp).2.2⟩ }
    · by_cases z : j = i
      · subst z
        have : o₂ = o' := by simpa [AS.put] using hj.symm
        subst this
        exact ⟨lt, ob', by simp, e⟩
      · have hj' : st.hp j = some o₂ := by simpa [AS.put, z] using hj
        obtain ⟨lt', ob₂, hm₂, ho₂⟩ := r.hp j o₂ hj'
        refine ⟨lt', ob₂, List.mem_cons_of_mem _ (List.mem_filter.mpr ⟨hm₂, ?_⟩), ho₂⟩
        simp only [ne_eq, decide_not, Bool.not_eq_eq_eq_not, Bool.not_true, decide_eq_false_iff_not]
        exact fun y => z (r.inj j i (by rw [hj']; simp) (by rw [q]; simp) y)
    · have key : ∀ k, (st.put i o').hp k ≠ none → st.hp k ≠ none := fun k hk => by
        by_cases z : k = i
        · subst z; rw [q]; simp
        · simpa [AS.put, z] using hk
      exact r.inj j k (key j hj) (key k hk) z
    · obtain ⟨o₂, hm₂, hn⟩ := r.outs p hp
      refine ⟨o₂, List.mem_cons_of_mem _ (List.mem_filter.mpr ⟨hm₂, ?_⟩), hn⟩
      simp only [ne_eq, decide_not, Bool.not_eq_eq_eq_not, Bool.not_true, decide_eq_false_iff_not]
      exact fun y => r.sep i (by rw [q]; simp) p hp y.symm
    · refine r.sep j ?_ p hp
      by_cases z : j = i
      · subst z; rw [q]; simp
      · simpa [AS.put, z] using hj
    · simp only [ne_eq, decide_not, Bool.not_eq_eq_eq_not, Bool.not_true, decide_eq_false_iff_not]
      exact fun y => (r.pins p hp).2.1 i (by rw [q]; simp) y.symm
    · by_cases z : j = i
      · subst z; rw [q]; simp
      · simpa [AS.put, z] using hj

theorem RepN.obj (r : RepN g c σ st m news h) {i : Nat} {o : AO} (q : st.hp i = some o) : ∃ ob, (σ i, ob) ∈ news ∧ h.get? (σ i) = some ob ∧ OR σ st.nx o ob :=
  let ⟨_, ob, hm, ho⟩ := r.hp i o q; ⟨ob, hm, (r.nw _ hm).1, ho⟩
end

abbrev EV (g : Gl) (c : Cx) (e : Expr) (st : AS) (Q : AV → AS → Prop) (X : String → AS → Prop) : Prop := Ok g c VR (eval e c.env) st Q X

section
variable {g : Gl} {c : Cx} {st : AS} {Q : AV → AS → Prop} {X : String → AS → Prop} {x : Str} {pos : Pos} {a : AV}

/-- an end at the state where one stands -/
theorem here {α β : Type} {R : (Nat → Addr) → Nat → β → α → Prop} {Q : β → AS → Prop} {σ : Nat → Addr} {s : Shared} {v : α} {b : β} (q : Q b st) (r : Rep g c σ st s) (x : R σ st.nx b v) : PostOk g c R σ st.nx Q v s :=
  ⟨b, σ, st, q, .refl, r, x⟩

theorem ev_none {k} (q : Q .none st) : EV g c (.Constant .none k pos) st Q X := fun _ _ r => wpAny_Constant_none (here q r rfl)
theorem ev_bool {b k} (q : Q (.bool b) st) : EV g c (.Constant (.bool b) k pos) st Q X := fun _ _ r => wpAny_Constant_bool (here q r rfl)
theorem ev_int {i k} (q : Q (.int i) st) : EV g c (.Constant (.int i) k pos) st Q X := fun _ _ r => wpAny_Constant_int (here q r.toks ⟨_, rfl⟩)
theorem ev_str {i k} (q : Q (.str i) st) : EV g c (.Constant (.str i) k pos) st Q X := fun _ _ r => wpAny_Constant_str (here q r.toks ⟨_, rfl⟩)

theorem ns_of_mem {h : Heap} {L C : Addr} {base : Heap} {news : List (Addr × Obj)} {o : Obj} {m : Str → Option Value} (N : News base L h news) (hm : (C, o) ∈ news) (x : LCg.NsObj o m) : h.Ns C m := x.ns (N _ hm).1

theorem ev_local (O : c.Ok) (hx : st.loc x = some a) (q : Q a st) (hl : c.env.kindOf x = some .local := by rfl) (hd : (x == ("__debug__" : Str)) = false := by decide) : EV g c (.Name x pos) st Q X := by
  rintro σ s ⟨⟨m, news, r⟩, z⟩
  have L := r.loc
  unfold Loc at L
  split at L
  · rename_i e
    obtain ⟨v, hv, V⟩ := L x a hx
    exact wpAny_Name (wpAny_loadName_local O.kind hl (by rw [(O.own e).2]; exact r.fr.ns) hv (here q ⟨⟨m, news, r⟩, z⟩ V)) hd
  · rename_i lm m₀ e
    obtain ⟨v, hv, V⟩ := L.2 x a hx
    obtain ⟨o, hm, hn⟩ := r.outs _ (O.comp _ e)
    exact wpAny_Name (wpAny_loadName_local O.kind hl (ns_of_mem r.nw hm hn) hv (here q ⟨⟨m, news, r⟩, z⟩ V)) hd

theorem ev_cell (O : c.Ok) {i : Nat} (hc : c.cid x = some i) (hx : st.hp i = some (.cell (some a))) (q : Q a st) (hl : c.env.kindOf x = some .cell := by rfl) (hd : (x == ("__debug__" : Str)) = false := by decide) :
    EV g c (.Name x pos) st Q X := by
  rintro σ s ⟨⟨m, news, r⟩, z⟩
  obtain ⟨ob, hm, ho, w, hw, u, rfl, V⟩ := r.obj hx
  exact wpAny_Name (wpAny_loadName_cell O.kind hl (r.cids x i hc).2 ⟨ob, ho, hw⟩ (here q ⟨⟨m, news, r⟩, z⟩ V)) hd
theorem ev_free (O : c.Ok) {i : Nat} (hc : c.cid x = some i) (hx : st.hp i = some (.cell (some a))) (q : Q a st) (hl : c.env.kindOf x = some .free := by rfl) (hd : (x == ("__debug__" : Str)) = false := by decide)
    (hn : (x == ("__classdict__" : Str)) = false := by decide) : EV g c (.Name x pos) st Q X := by
  rintro σ s ⟨⟨m, news, r⟩, z⟩
  obtain ⟨ob, hm, ho, w, hw, u, rfl, V⟩ := r.obj hx
  exact wpAny_Name (wpAny_loadName_free O.kind hl (r.cids x i hc).2 ⟨ob, ho, hw⟩ (here q ⟨⟨m, news, r⟩, z⟩ V) hn) hd
theorem ev_glob (G : g.Ok) (O : c.Ok) {v : Value} (e : nsIn g.K mainGlobals x = some (some v)) (q : Q (.con v) st) (hl : c.env.kindOf x = some .globalImplicit := by rfl) (hd : (x == ("__debug__" : Str)) = false := by decide) :
    EV g c (.Name x pos) st Q X := by
  rintro σ s ⟨⟨m, news, r⟩, z⟩
  exact Name_function_global O.kind hl (loadGlobal_global (by rw [O.globals]; exact G.T.g.keeps r.fr.keep) (mg_of G.X G.T.g e) (here q ⟨⟨m, news, r⟩, z⟩ rfl)) hd
theorem ev_bltn (G : g.Ok) (O : c.Ok) {v : Value} (e : nsIn g.K mainGlobals x = some none) (hv : bootBuiltins x = some v) (q : Q (.con v) st) (hb : c.env.builtins = builtinsNs := by rfl) (hn : x ≠ "__name__" := by decide)
    (hl : c.env.kindOf x = some .globalImplicit := by rfl) (hd : (x == ("__debug__" : Str)) = false := by decide) : EV g c (.Name x pos) st Q X := by
  rintro σ s ⟨⟨m, news, r⟩, z⟩
  exact Name_function_global O.kind hl (loadGlobal_builtin (by rw [O.globals]; exact G.T.g.keeps r.fr.keep) (mg_none_of G.X G.T.g e) (by rw [hb]; exact G.T.b.keeps r.fr.keep) ((G.T.builtins x hn).trans hv) (here q ⟨⟨m, news, r⟩, z⟩ rfl)) hd

/-! statements -/
inductive AF where
  | next | brk | cont | ret (a : AV)
def FR (σ : Nat → Addr) (nx : Nat) : AF → Flow → Prop
  | .next, f => f = .next
  | .brk, f => f = .brk
  | .cont, f => f = .cont
  | .ret a, f => ∃ v, f = .ret v ∧ VR σ nx a v
abbrev ST (g : Gl) (c : Cx) (e : Stmt) (st : AS) (Q : AF → AS → Prop) (X : String → AS → Prop) : Prop := Ok g c FR (exec e c.env) st Q X
abbrev SS (g : Gl) (c : Cx) (e : List Stmt) (st : AS) (Q : AF → AS → Prop) (X : String → AS → Prop) : Prop := Ok g c FR (execs e c.env) st Q X
def BR (_ : Nat → Addr) (_ : Nat) (b b' : Bool) : Prop := b' = b
abbrev TR (g : Gl) (c : Cx) (e : Expr) (st : AS) (Q : Bool → AS → Prop) (X : String → AS → Prop) : Prop := Ok g c BR (isTrue e c.env (eval e c.env)) st Q X

/-- the end of a tree whose value stands for b, at a later state -/
theorem later {α β : Type} {R : (Nat → Addr) → Nat → β → α → Prop} {Q : β → AS → Prop} {σ σ' : Nat → Addr} {nx : Nat} {st' : AS} {s : Shared} {v : α} (e : Ext nx σ σ' st'.nx) (h : PostOk g c R σ' st'.nx Q v s) : PostOk g c R σ nx Q v s := h.ext e

theorem ss_nil {Q : AF → AS → Prop} (q : Q .next st) : SS g c [] st Q X := fun _ _ r => wpAny_execs_nil (here q r rfl)
theorem ss_cons {Q : AF → AS → Prop} {e : Stmt} {es : List Stmt} (h : ST g c e st (fun f st' => match f with | .next => SS g c es st' Q X | f => Q f st') X) : SS g c (e :: es) st Q X := fun σ s r => by
  refine wpAny_execs_cons (seq h r fun f s' a σ' st' q e r' x => ?_)
  cases a with
  | next => cases x; exact wpAny_mono (q σ' s' r') (fun _ _ y => y.ext e) fun _ _ y => y.ext e
  | brk => cases x; exact ⟨.brk, σ', st', q, e, r', rfl⟩
  | cont => cases x; exact ⟨.cont, σ', st', q, e, r', rfl⟩
  | ret a => obtain ⟨v, rfl, V⟩ := x; exact ⟨.ret a, σ', st', q, e, r', v, rfl, V⟩
theorem st_pass {Q : AF → AS → Prop} (q : Q .next st) : ST g c (.Pass pos) st Q X := fun _ _ r => wpAny_Pass (here q r rfl)
theorem st_break {Q : AF → AS → Prop} (q : Q .brk st) : ST g c (.Break pos) st Q X := fun _ _ r => wpAny_Break (here q r rfl)
theorem st_ret {Q : AF → AS → Prop} {e : Expr} (h : EV g c e st (fun a st' => Q (.ret a) st') X) : ST g c (.Return (some e) pos) st Q X := fun σ s r =>
  wpAny_Return_some (seq h r fun v s' a σ' st' q e r' x => ⟨_, σ', st', q, e, r', v, rfl, x⟩)
theorem st_ret0 {Q : AF → AS → Prop} (q : Q (.ret .none) st) : ST g c (.Return none pos) st Q X := fun _ _ r => wpAny_Return_none (here q r ⟨_, rfl, rfl⟩)
theorem st_if {Q : AF → AS → Prop} {t : Expr} {b o : List Stmt} (h : TR g c t st (fun v st' => if v = true then SS g c b st' Q X else SS g c o st' Q X) X) : ST g c (.If t b o pos) st Q X := fun σ s r => by
  refine wpAny_If (seq h r fun v s' a σ' st' q e r' x => ?_)
  cases a with
  | true => cases x; exact wpAny_mono (q σ' s' r') (fun _ _ y => y.ext e) fun _ _ y => y.ext e
  | false => cases x; exact wpAny_mono (q σ' s' r') (fun _ _ y => y.ext e) fun _ _ y => y.ext e

/-- one name bound -/
abbrev SN (g : Gl) (c : Cx) (x : Str) (v : AV) (st : AS) (Q : AS → Prop) (X : String → AS → Prop) : Prop :=
  ∀ σ s u, Rep g c σ st s → VR σ st.nx v u → wpAny (model g.prog g.w) c.A (storeName c.env x u) (PostOk g c (fun _ _ (_ : Unit) (_ : Unit) => True) σ st.nx (fun _ st' => Q st')) (PostX g c σ st.nx X) s
theorem sn_local (O : c.Ok) (hc : c.cd = none) {Q : AS → Prop} (q : Q (st.set x a)) (hl : c.env.kindOf x = some .local := by rfl) : SN g c x a st Q X := by
  rintro σ s u ⟨⟨m, news, r⟩, z⟩ V
  have eL := (O.own hc).2
  refine wpAny_storeName_local hl (by rw [eL]; exact r.fr.ns) (fun h' hn hs => ?_) (by rw [O.kind]; rfl)
  rw [eL] at hn hs
  refine ⟨(), σ, st.set x a, q, .refl, ⟨⟨_, news, { r with fr := r.fr.set hn hs, nw := r.nw.set hs, loc := ?_ }⟩, z⟩, trivial⟩
  have L := r.loc
  unfold Loc at L ⊢
  rw [hc] at L ⊢
  intro y b hy
  by_cases e : y = x
  · subst e
    have : b = a := by simpa [AS.set] using hy.symm
    subst this
    exact ⟨u, if_pos rfl, V⟩
  · obtain ⟨v, hv, W⟩ := L y b (by simpa [AS.set, e] using hy)
    exact ⟨v, (if_neg e).trans hv, W⟩
theorem sn_cell (O : c.Ok) {i : Nat} {o : Option AV} (hc : c.cid x = some i) (hx : st.hp i = some (.cell o)) {Q : AS → Prop} (q : Q (st.put i (.cell (some a)))) (hl : c.env.kindOf x = some .cell := by rfl) : SN g c x a st Q X := by
  rintro σ s u ⟨⟨m, news, r⟩, z⟩ V
  obtain ⟨ob, rest, N, ho, ne, _, _, _, back⟩ := r.take hx
  obtain ⟨w, hw, _⟩ := ho
  have hd := N (σ i, ob) (.head _)
  refine wpAny_storeName_cell O.kind hl (r.cids x i hc).2 ⟨ob, hd.1, hw⟩ fun h' hv hs => ?_
  obtain ⟨o', ho', hd'⟩ := hv
  refine ⟨(), σ, _, q, .refl, ⟨⟨m, _, back h' o' _ (r.fr.change hs hd.2.1 hd.2.2) ?_ ⟨_, hd', u, rfl, V⟩ (fun h => Bool.noConfusion h)⟩, z⟩, trivial⟩
  exact News.setAt (own := []) N (fun _ hp => nomatch hp) ne hs ho'

theorem st_assign {Q : AF → AS → Prop} {e : Expr} {px : Pos} (h : EV g c e st (fun a st' => SN g c x a st' (fun st'' => Q .next st'') X) X) (hs : swapsWith e (some (.Name x px)) pos.line c.env = pure false := by rfl) :
    ST g c (.Assign [.Name x px] e pos) st Q X := fun σ s r =>
  wpAny_Assign_Name (seq h r fun v s' a σ' st' q e r' V => wpAny_mono (q σ' s' v r' V) (fun _ _ ⟨_, σ2, st2, q2, e2, r2, _⟩ => ⟨.next, σ2, st2, q2, e.trans e2, r2, rfl⟩) fun _ _ y => y.ext e) hs
end
end Sx

namespace Sx

abbrev Op2 (g : Gl) (c : Cx) (f : Value → Value → Sem Value) (a b : AV) (st : AS) (Q : AV → AS → Prop) (X : String → AS → Prop) : Prop :=
  ∀ σ s u v, Rep g c σ st s → VR σ st.nx a u → VR σ st.nx b v → wpAny (model g.prog g.w) c.A (f u v) (PostOk g c VR σ st.nx Q) (PostX g c σ st.nx X) s
abbrev Op1 (g : Gl) (c : Cx) (f : Value → Sem Value) (a : AV) (st : AS) (Q : AV → AS → Prop) (X : String → AS → Prop) : Prop :=
  ∀ σ s u, Rep g c σ st s → VR σ st.nx a u → wpAny (model g.prog g.w) c.A (f u) (PostOk g c VR σ st.nx Q) (PostX g c σ st.nx X) s
abbrev Tr1 (g : Gl) (c : Cx) (a : AV) (st : AS) (Q : Bool → AS → Prop) (X : String → AS → Prop) : Prop :=
  ∀ σ s u, Rep g c σ st s → VR σ st.nx a u → wpAny (model g.prog g.w) c.A (truthy u) (PostOk g c BR σ st.nx Q) (PostX g c σ st.nx X) s
abbrev Args (g : Gl) (c : Cx) (pos : Pos) (es : List Expr) (st : AS) (Q : List AV → AS → Prop) (X : String → AS → Prop) : Prop := Ok g c VRs (spliced (backTo pos (starEach es c.env))) st Q X
abbrev CallV (g : Gl) (c : Cx) (f : Value) (as : List AV) (st : AS) (Q : AV → AS → Prop) (X : String → AS → Prop) : Prop :=
  ∀ σ s us, Rep g c σ st s → VRs σ st.nx as us → wpAny (model g.prog g.w) c.A (call f us) (PostOk g c VR σ st.nx Q) (PostX g c σ st.nx X) s

section
variable {g : Gl} {c : Cx} {st : AS} {Q : AV → AS → Prop} {X : String → AS → Prop} {x : Str} {pos : Pos} {a b : AV} {l r e : Expr}

theorem wp_ext {α : Type} {t : Sem α} {F F' : α → Shared → Prop} {E E' : Value → Shared → Prop} {s : Shared} (h : wpAny (model g.prog g.w) c.A t F E s) (hF : ∀ v s, F v s → F' v s) (hE : ∀ v s, E v s → E' v s) :
    wpAny (model g.prog g.w) c.A t F' E' s := wpAny_mono h hF hE

theorem ev_binop {op : Operator} (h : EV g c l st (fun a st1 => EV g c r st1 (fun b st2 => Op2 g c (binaryOp op) a b st2 Q X) X) X) : EV g c (.BinOp l op r pos) st Q X := fun σ s H =>
  wpAny_BinOp (seq h H fun u s1 a σ1 st1 h1 e1 H1 V1 => wp_ext (seq h1 H1 fun v s2 b σ2 st2 h2 e2 H2 V2 => wp_ext (h2 σ2 s2 u v H2 (V1.mono e2) V2) (fun _ _ y => y.ext (e1.trans e2)) fun _ _ y => y.ext (e1.trans e2)) (fun _ _ y => y) fun _ _ y => y.ext e1)
theorem ev_cmp {op : CmpOp} (h : EV g c l st (fun a st1 => EV g c r st1 (fun b st2 => Op2 g c (compareOp op) a b st2 Q X) X) X) (hm : behindInMarks op r = false := by with_unfolding_all rfl) :
    EV g c (.Compare l [op] [r] pos) st Q X := fun σ s H =>
  wpAny_Compare1 (seq h H fun u s1 a σ1 st1 h1 e1 H1 V1 => wp_ext (seq h1 H1 fun v s2 b σ2 st2 h2 e2 H2 V2 => wp_ext (h2 σ2 s2 u v H2 (V1.mono e2) V2) (fun _ _ y => y.ext (e1.trans e2)) fun _ _ y => y.ext (e1.trans e2)) (fun _ _ y => y) fun _ _ y => y.ext e1) hm
theorem ev_not (h : EV g c e st (fun a st1 => Tr1 g c a st1 (fun b st2 => Q (.bool (!b)) st2) X) X) : EV g c (.UnaryOp .Not e pos) st Q X := fun σ s H => by
  refine wpAny_UnaryOp (seq h H fun u s1 a σ1 st1 h1 e1 H1 V1 => not_value (wp_ext (h1 σ1 s1 u H1 V1) ?_ fun _ _ y => y.ext e1))
  rintro v s2 ⟨b, σ2, st2, q, e2, H2, rfl⟩
  exact ⟨_, σ2, st2, q, e1.trans e2, H2, rfl⟩
theorem ev_if {t x y : Expr} (h : TR g c t st (fun v st' => if v = true then EV g c x st' Q X else EV g c y st' Q X) X) : EV g c (.IfExp t x y pos) st Q X := fun σ s H => by
  refine wpAny_IfExp (seq h H fun v s' a σ' st' q e r' z => ?_)
  cases a with
  | true => cases z; exact wp_ext (q σ' s' r') (fun _ _ y => y.ext e) fun _ _ y => y.ext e
  | false => cases z; exact wp_ext (q σ' s' r') (fun _ _ y => y.ext e) fun _ _ y => y.ext e
theorem ev_sub (h : EV g c l st (fun a st1 => EV g c r st1 (fun b st2 => Op2 g c (subscriptTail l r) a b st2 Q X) X) X) : EV g c (.Subscript l r pos) st Q X := fun σ s H =>
  Subscript_ (seq h H fun u s1 a σ1 st1 h1 e1 H1 V1 => wp_ext (seq h1 H1 fun v s2 b σ2 st2 h2 e2 H2 V2 => wp_ext (h2 σ2 s2 u v H2 (V1.mono e2) V2) (fun _ _ y => y.ext (e1.trans e2)) fun _ _ y => y.ext (e1.trans e2)) (fun _ _ y => y) fun _ _ y => y.ext e1)

/-! tests -/
theorem tr_val {Q : Bool → AS → Prop} (h : EV g c e st (fun a st1 => Tr1 g c a st1 Q X) X) (he : isTrue e c.env (eval e c.env) = (do let v ← eval e c.env; standAt e.pos; holding [v] (truthy v)) := by rfl) : TR g c e st Q X := fun σ s H =>
  wpAny_isTrue_value (seq h H fun u s1 a σ1 st1 h1 e1 H1 V1 => wp_ext (h1 σ1 s1 u H1 V1) (fun _ _ y => y.ext e1) fun _ _ y => y.ext e1) he
theorem tr1_bool {Q : Bool → AS → Prop} {v : Bool} (q : Q v st) : Tr1 g c (.bool v) st Q X := fun σ s u H V => by
  cases V; exact wpAny_truthy_bool (here q H rfl)
theorem tr_cmp {Q : Bool → AS → Prop} {op : CmpOp} (h : EV g c l st (fun a st1 => EV g c r st1 (fun b st2 => Op2 g c (compareOp op) a b st2 (fun v st3 => Tr1 g c v st3 Q X) X) X) X) (hm : behindInMarks op r = false := by with_unfolding_all rfl) :
    TR g c (.Compare l [op] [r] pos) st Q X := fun σ s H =>
  wpAny_isTrue_Compare1 (seq h H fun u s1 a σ1 st1 h1 e1 H1 V1 => wp_ext (seq h1 H1 fun v s2 b σ2 st2 h2 e2 H2 V2 => wp_ext (h2 σ2 s2 u v H2 (V1.mono e2) V2) (fun w s3 ⟨d, σ3, st3, h3, e3, H3, V3⟩ =>
    wp_ext (h3 σ3 s3 w H3 V3) (fun _ _ y => y.ext ((e1.trans e2).trans e3)) fun _ _ y => y.ext ((e1.trans e2).trans e3)) fun _ _ y => y.ext (e1.trans e2)) (fun _ _ y => y) fun _ _ y => y.ext e1) hm
theorem tr_not {Q : Bool → AS → Prop} (h : TR g c e st (fun v st' => Q (!v) st') X) : TR g c (.UnaryOp .Not e pos) st Q X := fun σ s H =>
  wpAny_isTrue_Not (seq h H fun v s' a σ' st' q e r' z => by cases z; exact ⟨_, σ', st', q, e, r', rfl⟩)
abbrev TA (g : Gl) (c : Cx) (op : BoolOp) (es : List Expr) (st : AS) (Q : Bool → AS → Prop) (X : String → AS → Prop) : Prop := Ok g c BR (allTrue op es c.env) st Q X
theorem tr_bool {Q : Bool → AS → Prop} {op : BoolOp} {es : List Expr} (h : TA g c op es st Q X) : TR g c (.BoolOp op es pos) st Q X := fun σ s H => wpAny_isTrue_BoolOp (h σ s H)
theorem ta_and0 {Q : Bool → AS → Prop} (q : Q true st) : TA g c .And [] st Q X := fun σ s H => wpAny_allTrue_And_nil (here q H rfl)
theorem ta_or0 {Q : Bool → AS → Prop} (q : Q false st) : TA g c .Or [] st Q X := fun σ s H => wpAny_allTrue_Or_nil (here q H rfl)
theorem ta_and {Q : Bool → AS → Prop} {es : List Expr} (h : TR g c e st (fun v st' => if v = true then TA g c .And es st' Q X else Q false st') X) : TA g c .And (e :: es) st Q X := fun σ s H => by
  refine wpAny_allTrue_And_cons (seq h H fun v s' a σ' st' q e r' z => ?_)
  cases a with
  | true => cases z; exact wp_ext (q σ' s' r') (fun _ _ y => y.ext e) fun _ _ y => y.ext e
  | false => cases z; exact ⟨_, σ', st', q, e, r', rfl⟩
theorem ta_or {Q : Bool → AS → Prop} {es : List Expr} (h : TR g c e st (fun v st' => if v = true then Q true st' else TA g c .Or es st' Q X) X) : TA g c .Or (e :: es) st Q X := fun σ s H => by
  refine wpAny_allTrue_Or_cons (seq h H fun v s' a σ' st' q e r' z => ?_)
  cases a with
  | true => cases z; exact ⟨_, σ', st', q, e, r', rfl⟩
  | false => cases z; exact wp_ext (q σ' s' r') (fun _ _ y => y.ext e) fun _ _ y => y.ext e
/-- and, or as values -/
abbrev BO (g : Gl) (c : Cx) (pos : Pos) (op : BoolOp) (es : List Expr) (st : AS) (Q : AV → AS → Prop) (X : String → AS → Prop) : Prop := Ok g c VR (boolOp pos op (evalEach es c.env)) st Q X
theorem ev_boolop {op : BoolOp} {es : List Expr} (h : BO g c pos op es st Q X) : EV g c (.BoolOp op es pos) st Q X := h
theorem bo_one {op : BoolOp} (h : EV g c e st Q X) : BO g c pos op [e] st Q X := h
theorem bo_and {e' : Expr} {es : List Expr} (h : EV g c e st (fun a st1 => Tr1 g c a st1 (fun v st2 => if v = true then BO g c pos .And (e' :: es) st2 Q X else Q a st2) X) X) : BO g c pos .And (e :: e' :: es) st Q X := fun σ s H => by
  show wpAny _ _ (do let v ← eval e c.env; standAt pos; let t ← holding [v] (truthy v); match BoolOp.And, t with | .And, false | .Or, true => pure v | _, _ => boolOp pos .And (evalEach (e' :: es) c.env)) _ _ s
  refine wpAny_bind (seq h H fun u s1 a σ1 st1 h1 e1 H1 V1 => wpAny_bind (wpAny_standAt (wpAny_bind (wpAny_holding (wp_ext (h1 σ1 s1 u H1 V1) ?_ fun _ _ y => y.ext e1)))))
  rintro v s2 ⟨b, σ2, st2, q, e2, H2, rfl⟩
  cases v with
  | true => exact wp_ext (q σ2 s2 H2) (fun _ _ y => y.ext (e1.trans e2)) fun _ _ y => y.ext (e1.trans e2)
  | false => exact wpAny_pure ⟨_, σ2, st2, q, e1.trans e2, H2, V1.mono e2⟩
theorem bo_or {e' : Expr} {es : List Expr} (h : EV g c e st (fun a st1 => Tr1 g c a st1 (fun v st2 => if v = true then Q a st2 else BO g c pos .Or (e' :: es) st2 Q X) X) X) : BO g c pos .Or (e :: e' :: es) st Q X := fun σ s H => by
  show wpAny _ _ (do let v ← eval e c.env; standAt pos; let t ← holding [v] (truthy v); match BoolOp.Or, t with | .And, false | .Or, true => pure v | _, _ => boolOp pos .Or (evalEach (e' :: es) c.env)) _ _ s
  refine wpAny_bind (seq h H fun u s1 a σ1 st1 h1 e1 H1 V1 => wpAny_bind (wpAny_standAt (wpAny_bind (wpAny_holding (wp_ext (h1 σ1 s1 u H1 V1) ?_ fun _ _ y => y.ext e1)))))
  rintro v s2 ⟨b, σ2, st2, q, e2, H2, rfl⟩
  cases v with
  | true => exact wpAny_pure ⟨_, σ2, st2, q, e1.trans e2, H2, V1.mono e2⟩
  | false => exact wp_ext (q σ2 s2 H2) (fun _ _ y => y.ext (e1.trans e2)) fun _ _ y => y.ext (e1.trans e2)

/-! arguments, calls -/
theorem ar_nil {Q : List AV → AS → Prop} (q : Q [] st) : Args g c pos [] st Q X := fun σ s H => wpAny_items_nil (here q H rfl)
theorem ar_cons {Q : List AV → AS → Prop} {es : List Expr} (h : EV g c e st (fun a st1 => Args g c pos es st1 (fun as st2 => Q (a :: as) st2) X) X) (he : starEach (e :: es) c.env = (false, eval e c.env) :: starEach es c.env := by rfl) :
    Args g c pos (e :: es) st Q X := fun σ s H =>
  wpAny_items_cons (seq h H fun u s1 a σ1 st1 h1 e1 H1 V1 => wp_ext (h1 σ1 s1 H1) (fun vs s2 ⟨as, σ2, st2, q, e2, H2, V2⟩ => ⟨_, σ2, st2, q, e1.trans e2, H2, u, vs, rfl, V1.mono e2, V2⟩) fun _ _ y => y.ext e1) he

def Keep (g : Gl) (f : Value) : Prop := ∀ h, g.K.In h → ∃ k, (k = Keeper.frame ∨ k = Keeper.machine ∨ k = Keeper.boundFrame) ∧ Looks (model g.prog g.w) h (keeperOf f) k
theorem keep_K {f : Value} (h : keepIn g.K f = true) : Keep g f := fun h' X => keeps_K h h' X
theorem keep_builtin {id : String} : Keep g (.builtin id) := fun h' X => ⟨.machine, .inr (.inl rfl), .now⟩
theorem keep_type {id : String} : Keep g (.type id) := fun h' X => ⟨.machine, .inr (.inl rfl), .now⟩

theorem RepK {σ : Nat → Addr} {s : Shared} (G : g.Ok) (H : Rep g c σ st s) : g.K.In s.heap := by
  obtain ⟨⟨m, news, r⟩, _⟩ := H
  exact G.X.keeps r.fr.keep

theorem cw {f : Value} {first : List Value} {fa : List AV} {es : List Expr} {σ : Nat → Addr} {s : Shared} (G : g.Ok) (K : Keep g f) (H : Rep g c σ st s) (V : VRs σ st.nx fa first)
    (h : Args g c pos es st (fun as st1 => CallV g c f (fa ++ as) st1 Q X) X) (hp : (backTo pos (starEach es c.env)).any (·.1) = false := by rfl)
    (he : es = [] ∨ ∃ e r, es = e :: r ∧ starEach (e :: r) c.env = (false, eval e c.env) :: starEach r c.env := by first | exact .inl rfl | exact .inr ⟨_, _, rfl, rfl⟩) :
    wpAny (model g.prog g.w) c.A (callWith pos f first (backTo pos (starEach es c.env)) []) (PostOk g c VR σ st.nx Q) (PostX g c σ st.nx X) s := by
  refine callWith_of (P := g.K.In) (by rw [hp]; rfl) K ?_
  have key : wpAny (model g.prog g.w) c.A (spliced (backTo pos (starEach es c.env))) (fun vs s' => g.K.In s'.heap ∧ wpAny (model g.prog g.w) c.A (call f (first ++ vs) []) (PostOk g c VR σ st.nx Q) (PostX g c σ st.nx X) s') (PostX g c σ st.nx X) s :=
    seq h H fun vs s1 as σ1 st1 h1 e1 H1 V1 => ⟨RepK G H1, wp_ext (h1 σ1 s1 _ H1 ((V.mono e1).append V1)) (fun _ _ y => y.ext e1) fun _ _ y => y.ext e1⟩
  rcases he with rfl | ⟨e, r, rfl, he⟩
  · have : starEach [] c.env = [] := rfl
    rw [this] at key ⊢
    exact evalArgs_nil3 (by
      have := key
      have hk : wpAny (model g.prog g.w) c.A (pure ([] : List Value)) (fun vs s' => g.K.In s'.heap ∧ wpAny (model g.prog g.w) c.A (call f (first ++ vs) []) (PostOk g c VR σ st.nx Q) (PostX g c σ st.nx X) s') (PostX g c σ st.nx X) s := this
      exact ⟨RepK G H, fun Γ p hΓ => ((hk Γ p hΓ).2) Γ p hΓ⟩)
  · rw [he] at key ⊢
    exact evalArgs_plain key

theorem ev_call {es : List Expr} {v : Value} (G : g.Ok) (hv : EV g c e st (fun a st1 => a = .con v ∧ Args g c pos es st1 (fun as st2 => CallV g c v as st2 Q X) X) X) (K : Keep g v)
    (hp : (backTo pos (starEach es c.env)).any (·.1) = false := by rfl)
    (he : es = [] ∨ ∃ e r, es = e :: r ∧ starEach (e :: r) c.env = (false, eval e c.env) :: starEach r c.env := by first | exact .inl rfl | exact .inr ⟨_, _, rfl, rfl⟩)
    (hc : eval (.Call e es [] pos) c.env = (do callWith pos (← eval e c.env) [] (backTo pos (starEach es c.env)) (backToKw pos (keywordEach [] c.env))) := by rfl) : EV g c (.Call e es [] pos) st Q X := fun σ s H => by
  refine Call_ (seq hv H fun u s1 a σ1 st1 h1 e1 H1 V1 => ?_) hc
  obtain ⟨rfl, h1⟩ := h1
  cases V1
  exact wp_ext (cw G K H1 (fa := []) (first := []) rfl h1 hp he) (fun _ _ y => y.ext e1) fun _ _ y => y.ext e1

theorem ev_meth {es : List Expr} {o : Expr} {name : Str} {apos : Pos} {pl : Sem Bool} (G : g.Ok)
    (hv : EV g c o st (fun a st1 => ∃ f, Keep g f ∧ Args g c pos es st1 (fun as st2 => CallV g c f (a :: as) st2 Q X) X ∧
      ∀ σ s u (F : Value × List Value → Shared → Prop) (E : Value → Shared → Prop), Rep g c σ st1 s → VR σ st1.nx a u → (∀ s', Rep g c σ st1 s' → F (f, [u]) s') → wpAny (model g.prog g.w) c.A (getMethod u name pl) F E s) X)
    (hp : (backTo pos (starEach es c.env)).any (·.1) = false := by rfl)
    (he : es = [] ∨ ∃ e r, es = e :: r ∧ starEach (e :: r) c.env = (false, eval e c.env) :: starEach r c.env := by first | exact .inl rfl | exact .inr ⟨_, _, rfl, rfl⟩)
    (hc : eval (.Call (.Attribute o name apos) es [] pos) c.env = (do
      let ov ← eval o c.env
      standAt apos.atName
      let (f, first) ← holding [ov] (getMethod ov name pl)
      callWith pos f first (backTo pos (starEach es c.env)) []) := by rfl) : EV g c (.Call (.Attribute o name apos) es [] pos) st Q X := fun σ s H => by
  refine MethodCall_ (seq hv H fun u s1 a σ1 st1 h1 e1 H1 V1 => ?_) hc
  obtain ⟨f, K, h1, gm⟩ := h1
  refine gm σ1 s1 u _ _ H1 V1 fun s2 H2 => ?_
  exact wp_ext (cw G K H2 (fa := [a]) (first := [u]) ⟨u, [], rfl, V1, rfl⟩ h1 hp he) (fun _ _ y => y.ext e1) fun _ _ y => y.ext e1
end
end Sx

namespace Sx
section
variable {g : Gl} {c : Cx} {st : AS} {Q : AV → AS → Prop} {X : String → AS → Prop} {x : Str} {pos : Pos} {i j : Int}

theorem op_add (q : Q (.int (i + j)) st) : Op2 g c (binaryOp .Add) (.int i) (.int j) st Q X := fun σ s u v H ⟨t, e1⟩ ⟨t', e2⟩ => by subst e1 e2; exact add_int (here q H.toks ⟨_, rfl⟩)
theorem op_sub (q : Q (.int (i - j)) st) : Op2 g c (binaryOp .Sub) (.int i) (.int j) st Q X := fun σ s u v H ⟨t, e1⟩ ⟨t', e2⟩ => by subst e1 e2; exact sub_int (here q H.toks ⟨_, rfl⟩)
theorem op_mod (q : Q (.int (i.fmod j)) st) (h : j ≠ 0 := by decide) : Op2 g c (binaryOp .Mod) (.int i) (.int j) st Q X := fun σ s u v H ⟨t, e1⟩ ⟨t', e2⟩ => by subst e1 e2; exact mod_int' h (here q H.toks ⟨_, rfl⟩)
theorem op_fdiv (q : Q (.int (i.fdiv j)) st) (h : j ≠ 0 := by decide) (h' : j.natAbs < 1073741824 := by decide) : Op2 g c (binaryOp .FloorDiv) (.int i) (.int j) st Q X := fun σ s u v H ⟨t, e1⟩ ⟨t', e2⟩ => by
  subst e1 e2; exact floordiv_int h (here q H.toks ⟨_, rfl⟩) (.inl (PyProof.noPylong_small h'))
theorem op_iadd (q : Q (.int (i + j)) st) : Op2 g c (inplaceOp .Add) (.int i) (.int j) st Q X := fun σ s u v H ⟨t, e1⟩ ⟨t', e2⟩ => by subst e1 e2; exact iadd_int (here q H.toks ⟨_, rfl⟩)
theorem op_eq (q : Q (.bool (i == j)) st) : Op2 g c (compareOp .Eq) (.int i) (.int j) st Q X := fun σ s u v H ⟨t, e1⟩ ⟨t', e2⟩ => by subst e1 e2; exact eq_int (here q H rfl)
theorem op_ne (q : Q (.bool (i != j)) st) : Op2 g c (compareOp .NotEq) (.int i) (.int j) st Q X := fun σ s u v H ⟨t, e1⟩ ⟨t', e2⟩ => by subst e1 e2; exact ne_int (here q H rfl)
theorem op_lt (q : Q (.bool (decide (i < j))) st) : Op2 g c (compareOp .Lt) (.int i) (.int j) st Q X := fun σ s u v H ⟨t, e1⟩ ⟨t', e2⟩ => by subst e1 e2; exact lt_int (here q H rfl)
theorem op_gt (q : Q (.bool (decide (i > j))) st) : Op2 g c (compareOp .Gt) (.int i) (.int j) st Q X := fun σ s u v H ⟨t, e1⟩ ⟨t', e2⟩ => by subst e1 e2; exact gt_int (here q H rfl)
theorem op_ge (q : Q (.bool (decide (j ≤ i))) st) : Op2 g c (compareOp .GtE) (.int i) (.int j) st Q X := fun σ s u v H ⟨t, e1⟩ ⟨t', e2⟩ => by subst e1 e2; exact ge_int (here q H rfl)
theorem op_le (q : Q (.bool (decide (i ≤ j))) st) : Op2 g c (compareOp .LtE) (.int i) (.int j) st Q X := fun σ s u v H ⟨t, e1⟩ ⟨t', e2⟩ => by subst e1 e2; exact le_int (here q H rfl)
theorem str_beq {x y : Str} : (x == y) = decide (x = y) := by
  by_cases h : x = y
  · subst h; simp
  · rw [decide_eq_false h]; exact beq_eq_false_iff_ne.mpr h
theorem op_eqs {x y : Str} (q : Q (.bool (decide (x = y))) st) : Op2 g c (compareOp .Eq) (.str x) (.str y) st Q X := fun σ s u v H ⟨t, e1⟩ ⟨t', e2⟩ => by subst e1 e2; exact eq_str (by rw [str_beq]; exact here q H rfl)
theorem op_nes {x y : Str} (q : Q (.bool (!decide (x = y))) st) : Op2 g c (compareOp .NotEq) (.str x) (.str y) st Q X := fun σ s u v H ⟨t, e1⟩ ⟨t', e2⟩ => by
  subst e1 e2; exact ne_str (by show PostOk g c VR σ st.nx Q (.bool (!(x == y))) s; rw [str_beq]; exact here q H rfl)

def AV.isNone : AV → Bool
  | .none => true
  | _ => false
theorem VR.isNone {σ : Nat → Addr} {nx : Nat} {a : AV} {v : Value} (h : VR σ nx a v) (hc : ∀ u, a ≠ .con u) : (v == .none) = a.isNone := by
  cases a with
  | none => cases h; rfl
  | bool b => cases h; rfl
  | int i => obtain ⟨t, rfl⟩ := h; rfl
  | str i => obtain ⟨t, rfl⟩ := h; rfl
  | ref i => obtain ⟨t, rfl⟩ := h; rfl
  | con u => exact absurd rfl (hc u)
theorem op_isNone {a : AV} (hc : ∀ u, a ≠ .con u) (q : Q (.bool a.isNone) st) : Op2 g c (compareOp .Is) a .none st Q X := fun σ s u v H h1 h2 => by
  cases h2; exact PySem.is_none (by rw [h1.isNone hc]; exact here q H rfl)
theorem op_notNone {a : AV} (hc : ∀ u, a ≠ .con u) (q : Q (.bool (!a.isNone)) st) : Op2 g c (compareOp .IsNot) a .none st Q X := fun σ s u v H h1 h2 => by
  cases h2; exact PySem.isNot_none (by rw [h1.isNone hc]; exact here q H rfl)
theorem ntup {T : String} (h : T ≠ "tuple") : (Value.type T) ≠ .type "tuple" := fun e => h (Value.type.inj e)
/-- two objects -/
theorem op_isnt {a b : Nat} {oa ob : AO} (ha : st.hp a = some oa) (hb : st.hp b = some ob) (ht : ∀ l, oa ≠ .tup l) (htc : ∀ l, oa ≠ .cell l) (q : Q (.bool (!decide (a = b))) st) : Op2 g c (compareOp .IsNot) (.ref a) (.ref b) st Q X := by
  rintro σ s u v ⟨⟨m, news, r⟩, z⟩ ⟨la, rfl⟩ ⟨lb, rfl⟩
  by_cases e : a = b
  · subst e
    exact wpAny_isNot_ref_self (by rw [decide_eq_true rfl] at q; exact here q ⟨⟨m, news, r⟩, z⟩ rfl)
  · rw [decide_eq_false e] at q
    obtain ⟨oa', _, ea, ra⟩ := r.obj ha
    obtain ⟨ob', _, eb, rb⟩ := r.obj hb
    refine wpAny_isNot_ref_other (fun y => e (r.inj a b (by rw [ha]; simp) (by rw [hb]; simp) y)) ea eb ?_ (here q ⟨⟨m, news, r⟩, z⟩ rfl)
    cases oa with
    | list l => obtain ⟨us, n, rfl, _⟩ := ra; exact ntup (by decide)
    | tup l => exact absurd rfl (ht l)
    | inst C d => obtain ⟨_, sl, rfl⟩ := ra; intro h; cases h
    | sdict v => cases v with
      | none => obtain ⟨n, rfl⟩ := ra; exact ntup (by decide)
      | some v => obtain ⟨h, t, u, n, rfl, _⟩ := ra; exact ntup (by decide)
    | cell l => exact absurd rfl (htc l)
    | dict l => obtain ⟨us, n, rfl, _⟩ := ra; exact ntup (by decide)
    | range n => obtain ⟨_, _, _, rfl⟩ := ra; exact ntup (by decide)
    | riter k n => obtain rfl := ra; exact ntup (by decide)
    | iter T l k => obtain ⟨_, h, _⟩ := ra; rw [h]; cases T <;> exact ntup (by decide)
theorem op_is {a b : Nat} {oa ob : AO} (ha : st.hp a = some oa) (hb : st.hp b = some ob) (ht : ∀ l, oa ≠ .tup l) (htc : ∀ l, oa ≠ .cell l) (q : Q (.bool (decide (a = b))) st) : Op2 g c (compareOp .Is) (.ref a) (.ref b) st Q X := by
  rintro σ s u v ⟨⟨m, news, r⟩, z⟩ ⟨la, rfl⟩ ⟨lb, rfl⟩
  by_cases e : a = b
  · subst e
    exact wpAny_is_ref_self (by rw [decide_eq_true rfl] at q; exact here q ⟨⟨m, news, r⟩, z⟩ rfl)
  · rw [decide_eq_false e] at q
    obtain ⟨oa', _, ea, ra⟩ := r.obj ha
    obtain ⟨ob', _, eb, rb⟩ := r.obj hb
    refine wpAny_is_ref_other (fun y => e (r.inj a b (by rw [ha]; simp) (by rw [hb]; simp) y)) ea eb ?_ (here q ⟨⟨m, news, r⟩, z⟩ rfl)
    cases oa with
    | list l => obtain ⟨us, n, rfl, _⟩ := ra; exact ntup (by decide)
    | tup l => exact absurd rfl (ht l)
    | inst C d => obtain ⟨_, sl, rfl⟩ := ra; intro h; cases h
    | sdict v => cases v with
      | none => obtain ⟨n, rfl⟩ := ra; exact ntup (by decide)
      | some v => obtain ⟨h, t, u, n, rfl, _⟩ := ra; exact ntup (by decide)
    | cell l => exact absurd rfl (htc l)
    | dict l => obtain ⟨us, n, rfl, _⟩ := ra; exact ntup (by decide)
    | range n => obtain ⟨_, _, _, rfl⟩ := ra; exact ntup (by decide)
    | riter k n => obtain rfl := ra; exact ntup (by decide)
    | iter T l k => obtain ⟨_, h, _⟩ := ra; rw [h]; cases T <;> exact ntup (by decide)

/-! lists -/
theorem RepN.list {σ : Nat → Addr} {m : Str → Option Value} {news : List (Addr × Obj)} {h : Heap} (r : RepN g c σ st m news h) {l : Nat} {vs : List AV} (hl : st.hp l = some (.list vs)) :
    ∃ us n, (σ l, listOf (List.toArray us) n) ∈ news ∧ h.IsList (σ l) (List.toArray us) ∧ VRs σ st.nx vs us := by
  obtain ⟨ob, hm, ho, us, n, rfl, V⟩ := r.obj hl
  exact ⟨us, n, hm, ⟨_, ho, rfl, n, rfl⟩, V⟩
theorem RepN.tup {σ : Nat → Addr} {m : Str → Option Value} {news : List (Addr × Obj)} {h : Heap} (r : RepN g c σ st m news h) {l : Nat} {vs : List AV} (hl : st.hp l = some (.tup vs)) :
    ∃ us n, (σ l, ({ cls := .type "tuple", data := .seq (List.toArray us) n } : Obj)) ∈ news ∧ h.get? (σ l) = some { cls := .type "tuple", data := .seq (List.toArray us) n } ∧ VRs σ st.nx vs us := by
  obtain ⟨ob, hm, ho, us, n, rfl, V⟩ := r.obj hl
  exact ⟨us, n, hm, ho, V⟩
theorem op_item {l : Nat} {vs : List AV} {k : Int} {a : AV} {v s : Expr} (hl : st.hp l = some (.list vs)) (h0 : 0 ≤ k) (hx : vs[k.toNat]? = some a) (q : Q a st) (hb : k < 2 ^ 63 := by omega)
    (hs : ∀ x u, subscripted s false (.ref x) (.int k u) = operate [.ref x, .int k u] (getItem (.ref x) (.int k u)) := by intro _ _; with_unfolding_all rfl) : Op2 g c (subscriptTail v s) (.ref l) (.int k) st Q X := by
  rintro σ s u v ⟨⟨m, news, r⟩, z⟩ ⟨la, rfl⟩ ⟨t, rfl⟩
  obtain ⟨us, n, hm, L, V⟩ := r.list hl
  obtain ⟨w, hw, W⟩ := V.get hx
  exact tail_any L.typeIs slot_list_getitem.lookup (wpAny_getItem_list L h0 hb (by simpa using hw) (here q ⟨⟨m, news, r⟩, z⟩ W)) (hs _ _)

theorem len_l {l : Nat} {vs : List AV} (hl : st.hp l = some (.list vs)) (q : Q (.int vs.length) st) (hb : vs.length < 2 ^ 60) : CallV g c (.builtin "len") [.ref l] st Q X := by
  rintro σ s us ⟨⟨m, news, r⟩, z⟩ ⟨_, _, rfl, ⟨la, rfl⟩, rfl⟩
  obtain ⟨us, n, hm, L, V⟩ := r.list hl
  have e := V.length
  exact PyProof.Rows.len_list L (by rw [List.size_toArray, e]; omega) ⟨.int vs.length, σ, st, q, .refl, ⟨⟨m, news, r⟩, z⟩, _, by rw [List.size_toArray, e]⟩
theorem tr1_list {l : Nat} {vs : List AV} {Q : Bool → AS → Prop} (hl : st.hp l = some (.list vs)) (q : Q (!vs.isEmpty) st) (hb : vs.length < 2 ^ 60) : Tr1 g c (.ref l) st Q X := by
  rintro σ s u ⟨⟨m, news, r⟩, z⟩ ⟨la, rfl⟩
  obtain ⟨us, n, hm, L, V⟩ := r.list hl
  have e := V.length
  refine wpAny_truthy_list L (by rw [List.size_toArray, e]; omega) ⟨_, σ, st, q, .refl, ⟨⟨m, news, r⟩, z⟩, ?_⟩
  show (!(us.toArray).isEmpty) = (!vs.isEmpty)
  cases vs <;> cases us <;> first | rfl | simp at e

/-- a list made -/
theorem push_list {vs : List AV} {us : List Value} {σ : Nat → Addr} {s : Shared} {n : Nat} {h' : Heap} {D : Addr} {m : Str → Option Value} {news : List (Addr × Obj)} (r : RepN g c σ st m news s.heap) (z : Still g s) (V : VRs σ st.nx vs us)
    (Fr' : Fr g.base c.L h' m) (N : News g.base c.L h' ((D, listOf (List.toArray us) n) :: news)) (l : ∀ p ∈ news, p.1 < D) {tk : Nat} (q : Q (.ref st.nx) (st.new (.list vs))) : PostOk g c VR σ st.nx Q (.ref D) { s with heap := h', toks := tk } := by
  have ex : Ext st.nx σ (fun i => if i = st.nx then D else σ i) (st.nx + 1) := ⟨Nat.le_succ _, fun i hi => if_neg (Nat.ne_of_lt hi)⟩
  obtain ⟨r', e'⟩ := r.new (o := .list vs) Fr' N l ⟨us, n, rfl, V.mono ex⟩
  exact ⟨_, _, _, q, e', ⟨⟨_, _, r'⟩, z⟩, Nat.lt_succ_self _, by simp⟩
theorem ev_list {es : List Expr} (h : Args g c pos es st (fun as st' => as.length ≤ 1000 ∧ Q (.ref st'.nx) (st'.new (.list as))) X) : EV g c (.List es pos) st Q X := fun σ s H => by
  refine PySem.wpAny_List (seq h H fun us s1 as σ1 st1 ⟨hb, q⟩ e1 ⟨⟨m, news, r⟩, z⟩ V => ⟨by rw [V.length]; exact Nat.le_trans hb (by decide +kernel), ?_⟩)
  exact (push_list r z V (r.fr.push _) (r.nw.push r.fr _) (fun p hp => Heap.lt_size (r.nw p hp).1) q).ext e1
theorem ev_tuple {es : List Expr} {k : Nat} (h : Args g c pos es st (fun as st' => as.length ≤ 1000 ∧ Q (.ref st'.nx) (st'.new (.tup as))) X) : EV g c (.Tuple es k pos) st Q X := fun σ s H => by
  refine PySem.wpAny_Tuple (seq h H fun us s1 as σ1 st1 ⟨hb, q⟩ e1 ⟨⟨m, news, r⟩, z⟩ V => ⟨by rw [V.length]; exact Nat.le_trans hb (by decide +kernel), ?_⟩)
  have ex : Ext st1.nx σ1 (fun i => if i = st1.nx then s1.heap.objs.size else σ1 i) (st1.nx + 1) := ⟨Nat.le_succ _, fun i hi => if_neg (Nat.ne_of_lt hi)⟩
  obtain ⟨r', e'⟩ := r.new (o := .tup as) (r.fr.push _) (r.nw.push r.fr _) (fun p hp => Heap.lt_size (r.nw p hp).1) ⟨us, 0, rfl, V.mono ex⟩
  exact ⟨_, _, _, q, e1.trans e', ⟨⟨_, _, r'⟩, z⟩, Nat.lt_succ_self _, by simp⟩
/-- list(xs) -/
theorem copy_l {l : Nat} {vs : List AV} (hl : st.hp l = some (.list vs)) (q : Q (.ref st.nx) (st.new (.list vs))) (hb : vs.length ≤ 1000) : CallV g c (.type "list") [.ref l] st Q X := by
  rintro σ s us ⟨⟨m, news, r⟩, z⟩ ⟨_, _, rfl, ⟨la, rfl⟩, rfl⟩
  obtain ⟨us, n, hm, L, V⟩ := r.list hl
  exact list_copyK r.fr r.nw L (fun D k h' F N l => push_list r z V F N l (n := k) (tk := s.toks) q) (by rw [List.size_toArray, V.length]; exact Nat.le_trans hb (by decide +kernel))
end
end Sx

namespace Sx
section
variable {g : Gl} {c : Cx} {st : AS} {Q : AV → AS → Prop} {X : String → AS → Prop} {x : Str} {pos : Pos} {a : AV}

theorem ev_lmeth {es : List Expr} {o : Expr} {name : Str} {id : String} {apos : Pos} {pl : Sem Bool} (G : g.Ok) (slot : Slot "list" name id) (hty : typeOf (.builtin id) = pure (.type "method_descriptor"))
    (hv : EV g c o st (fun a st1 => ∃ l vs, a = .ref l ∧ st1.hp l = some (.list vs) ∧ Args g c pos es st1 (fun as st2 => CallV g c (.builtin id) (.ref l :: as) st2 Q X) X) X)
    (hp : (backTo pos (starEach es c.env)).any (·.1) = false := by rfl)
    (he : es = [] ∨ ∃ e r, es = e :: r ∧ starEach (e :: r) c.env = (false, eval e c.env) :: starEach r c.env := by first | exact .inl rfl | exact .inr ⟨_, _, rfl, rfl⟩)
    (hc : eval (.Call (.Attribute o name apos) es [] pos) c.env = (do
      let ov ← eval o c.env
      standAt apos.atName
      let (f, first) ← holding [ov] (getMethod ov name pl)
      callWith pos f first (backTo pos (starEach es c.env)) []) := by rfl) : EV g c (.Call (.Attribute o name apos) es [] pos) st Q X :=
  ev_meth G (hv.mono (fun a st1 ⟨l, vs, e, hl, h⟩ => by
    subst e
    refine ⟨.builtin id, keep_builtin, h, ?_⟩
    rintro σ s u F E ⟨⟨m, news, r⟩, z⟩ ⟨la, rfl⟩ k
    obtain ⟨us, n, hm, _, _⟩ := r.list hl
    exact listMethod_K r.nw hm slot hty (k s ⟨⟨m, news, r⟩, z⟩)) fun _ _ h => h) hp he hc

theorem append_l {l : Nat} {vs : List AV} (hl : st.hp l = some (.list vs)) (q : Q .none (st.put l (.list (vs ++ [a])))) (hb : vs.length ≤ 1000) : CallV g c (.builtin "list.append") [.ref l, a] st Q X := by
  rintro σ s us ⟨⟨m, news, r⟩, z⟩ ⟨_, _, rfl, ⟨la, rfl⟩, u, _, rfl, W, rfl⟩
  obtain ⟨ob, rest, N, ⟨us, n, rfl, V⟩, ne, _, _, _, back⟩ := r.take hl
  refine append_K r.fr N (Upd.head ne) (fun h' F' N' => ?_) (by rw [List.size_toArray, V.length]; exact Nat.le_trans hb (by decide +kernel))
  exact ⟨_, σ, _, q, .refl, ⟨⟨m, _, back h' _ _ F' N' ⟨us ++ [u], n + 1, by simp [PySem.W.listOf], V.append (VRs.one W)⟩ (fun h => Bool.noConfusion h)⟩, z⟩, rfl⟩

def insAt {α : Type} (l : List α) (k : Nat) (y : α) : List α := l.take k ++ y :: l.drop k
theorem insert_l {l : Nat} {vs : List AV} {k : Nat} (hl : st.hp l = some (.list vs)) (hk : k ≤ vs.length) (q : Q .none (st.put l (.list (insAt vs k a)))) (hb : vs.length ≤ 1000) : CallV g c (.builtin "list.insert") [.ref l, .int k, a] st Q X := by
  rintro σ s us ⟨⟨m, news, r⟩, z⟩ ⟨_, _, rfl, ⟨la, rfl⟩, _, _, rfl, ⟨t, rfl⟩, u, _, rfl, W, rfl⟩
  obtain ⟨ob, rest, N, ⟨us, n, rfl, V⟩, ne, _, _, _, back⟩ := r.take hl
  have el := V.length
  refine kl_insert r.fr N ?_ rfl (Upd.head ne) (by show us.length ≤ sizeLine; rw [el]; exact Nat.le_trans hb (by decide +kernel)) (fun h' F' N' => ?_)
  · show Builtin.List.listFitsIndex (k : Int) = true
    unfold Builtin.List.listFitsIndex
    simp
    omega
  · refine ⟨_, σ, _, q, .refl, ⟨⟨m, _, back h' _ _ F' N' ⟨_, n + 1, rfl, ?_⟩ (fun h => Bool.noConfusion h)⟩, z⟩, rfl⟩
    have e : kl_ins us (k : Int) u = us.take k ++ u :: us.drop k := by
      unfold kl_ins
      rw [if_neg (by omega), Int.toNat_natCast, Nat.min_eq_left (by omega)]
    show VRs σ st.nx (insAt vs k a) (kl_ins us.toArray.toList (k : Int) u)
    rw [List.toList_toArray, e]
    exact (V.take k).append ⟨u, _, rfl, W, V.drop k⟩

/-! instances of the one class -/
structure ClsOk (g : Gl) (C : Addr) : Prop where
  get : plainGet g.K C "" = true
  dict : hasDictIn g.K C = true
  none : findIn g.K (.ref C) "_items" = some none
  setter : findIn g.K (.ref C) "__setattr__" = some (some (.builtin "object.__setattr__"))
  over : plainOver g.K C = true
  taker : takerIn g.K C "_items" = some Option.none

theorem RepN.inst {σ : Nat → Addr} {m : Str → Option Value} {news : List (Addr × Obj)} {h : Heap} {i d C : Nat} {o : Option AV} (r : RepN g c σ st m news h) (hi : st.hp i = some (.inst C d)) (hd : st.hp d = some (.sdict o)) :
    ∃ sl od, (σ i, (⟨.ref C, some (σ d), .plain, sl⟩ : Obj)) ∈ news ∧ (σ d, od) ∈ news ∧ OR σ st.nx (.sdict o) od := by
  obtain ⟨ob, hm, _, ld, sl, rfl⟩ := r.obj hi
  obtain ⟨od, hm', _, ho⟩ := r.obj hd
  exact ⟨sl, od, hm, hm', ho⟩

theorem getL_items {h : Int} {t : Tok} {u : Value} : getL "_items" [⟨h, .str "_items" t, u⟩] = some (some u) := by
  simp [getL, Value.isStr]
theorem getL_other {σ : Nat → Addr} {nx : Nat} {o : Option AV} {od : Obj} {name : Str} (R : OR σ nx (.sdict o) od) (hn : ((Str.ofString "_items") == name) = false) : ∃ es n, od = dictOf es n ∧ getL name es = some none := by
  cases o with
  | none => obtain ⟨n, rfl⟩ := R; exact ⟨[], n, rfl, rfl⟩
  | some v =>
    obtain ⟨h, t, u, n, rfl, V⟩ := R
    refine ⟨_, n, rfl, ?_⟩
    have hn' : ((Value.str (Str.ofString "_items") t).isStr name) = false := hn
    unfold getL
    simp only [List.find?_cons, List.find?_nil, hn']
    rfl

theorem ev_items (G : g.Ok) {C : Addr} (K : ClsOk g C) {n : Str} {np : Pos} (hv : EV g c (.Name n np) st (fun a st1 => ∃ i d b, a = .ref i ∧ st1.hp i = some (.inst C d) ∧ st1.hp d = some (.sdict (some (.ref b))) ∧ Q (.ref b) st1) X) :
    EV g c (.Attribute (.Name n np) "_items" pos) st Q X := fun σ s H => by
  refine Attribute_name (seq hv H fun u s1 a σ1 st1 h1 e1 H1 V1 => ?_)
  obtain ⟨i, d, b, rfl, hi, hd, q⟩ := h1
  obtain ⟨li, rfl⟩ := V1
  obtain ⟨⟨m, news, r⟩, z⟩ := H1
  obtain ⟨sl, od, m1, m2, h, t, u, n, rfl, lb, rfl⟩ := r.inst hi hd
  exact get_own (C := C) (attr := none) r.fr G.X (InstAt.of_news r.nw m1 m2) (by exact K.get) K.dict K.none rfl getL_items rfl ⟨.ref b, σ1, st1, q, e1, ⟨⟨m, news, r⟩, z⟩, lb, rfl⟩

theorem st_setitems (G : g.Ok) {C : Addr} (K : ClsOk g C) {n : Str} {np px : Pos} {e : Expr} {Q : AF → AS → Prop}
    (hv : EV g c e st (fun b st1 => EV g c (.Name n np) st1 (fun a st2 => ∃ i d o, a = .ref i ∧ st2.hp i = some (.inst C d) ∧ st2.hp d = some (.sdict o) ∧ Q .next (st2.put d (.sdict (some b)))) X) X)
    (hs : swapsWith e (some (.Attribute (.Name n np) "_items" px)) pos.line c.env = pure false := by rfl) : ST g c (.Assign [.Attribute (.Name n np) "_items" px] e pos) st Q X := fun σ s H => by
  refine plainObj_wpAny_Assign_Attribute (seq hv H fun w s1 b σ1 st1 h1 e1 H1 V1 => wp_ext (seq h1 H1 fun u s2 a σ2 st2 h2 e2 H2 V2 => ?_) (fun _ _ y => y) fun _ _ y => y.ext e1) hs
  obtain ⟨i, d, o, rfl, hi, hd, q⟩ := h2
  obtain ⟨li, rfl⟩ := V2
  obtain ⟨⟨m, news, r⟩, z⟩ := H2
  have W := V1.mono e2
  obtain ⟨od, rest, N, R, ne, _, keep, _, back⟩ := r.take hd
  obtain ⟨oi, mi, _, _, sl, rfl⟩ := r.obj hi
  have nid : σ2 i ≠ σ2 d := fun y => by
    have := r.inj i d (by rw [hi]; simp) (by rw [hd]; simp) y
    subst this; rw [hi] at hd; cases hd
  have mi' := keep _ mi nid
  cases o with
  | none =>
    obtain ⟨n', rfl⟩ := R
    refine set_dict (C := C) (x := σ2 i) r.fr G.X N (InstAt.of_news N (.tail _ mi') (.head _)) rfl K.setter K.over K.taker K.dict rfl rfl (Upd.head ne) (by show 1 ≤ 1000; decide) fun h' F' N' => ?_
    exact ⟨.next, σ2, _, q, e1.trans e2, ⟨⟨m, _, back h' _ _ F' N' ⟨_, _, w, _, rfl, W⟩ (fun h => Bool.noConfusion h)⟩, z⟩, rfl⟩
  | some o =>
    obtain ⟨hh, t, u, n', rfl, _⟩ := R
    have e1' : putL "_items" (PyData.keyHash g.w.params "_items") (.str "_items" (s2.toks + 1)) w [⟨hh, .str "_items" t, u⟩] = [⟨hh, .str "_items" t, w⟩] := by simp [putL, Value.isStr]
    have e2' : putN "_items" [⟨hh, .str "_items" t, u⟩] n' = n' := by simp [putN, Value.isStr]
    refine set_dict (C := C) (x := σ2 i) r.fr G.X N (InstAt.of_news N (.tail _ mi') (.head _)) rfl K.setter K.over K.taker K.dict (by rw [getL_items]; rfl) (by rw [e1', e2']) (Upd.head ne) (by show 1 ≤ 1000; decide) fun h' F' N' => ?_
    exact ⟨.next, σ2, _, q, e1.trans e2, ⟨⟨m, _, back h' _ _ F' N' ⟨_, _, w, _, rfl, W⟩ (fun h => Bool.noConfusion h)⟩, z⟩, rfl⟩

/-- a method of the class, called on an instance -/
theorem ev_imeth {es : List Expr} {o : Expr} {name : Str} {f C : Addr} {apos : Pos} {pl : Sem Bool} (G : g.Ok) (K : ClsOk g C) (hf : findIn g.K (.ref C) name = some (some (.ref f))) (ht : isFn g.K (.ref f) = true) (hk : keepIn g.K (.ref f) = true)
    (hn : ((Str.ofString "_items") == name) = false)
    (hv : EV g c o st (fun a st1 => ∃ i d v, a = .ref i ∧ st1.hp i = some (.inst C d) ∧ st1.hp d = some (.sdict v) ∧ Args g c pos es st1 (fun as st2 => CallV g c (.ref f) (.ref i :: as) st2 Q X) X) X)
    (hp : (backTo pos (starEach es c.env)).any (·.1) = false := by rfl)
    (he : es = [] ∨ ∃ e r, es = e :: r ∧ starEach (e :: r) c.env = (false, eval e c.env) :: starEach r c.env := by first | exact .inl rfl | exact .inr ⟨_, _, rfl, rfl⟩)
    (hc : eval (.Call (.Attribute o name apos) es [] pos) c.env = (do
      let ov ← eval o c.env
      standAt apos.atName
      let (f, first) ← holding [ov] (getMethod ov name pl)
      callWith pos f first (backTo pos (starEach es c.env)) []) := by rfl) : EV g c (.Call (.Attribute o name apos) es [] pos) st Q X :=
  ev_meth G (hv.mono (fun a st1 ⟨i, d, v, e, hi, hd, h⟩ => by
    subst e
    refine ⟨.ref f, keep_K hk, h, ?_⟩
    rintro σ s u F E ⟨⟨m, news, r⟩, z⟩ ⟨la, rfl⟩ k
    obtain ⟨sl, od, m1, m2, R⟩ := r.inst hi hd
    obtain ⟨es', n, rfl, hg⟩ := getL_other R hn
    exact method_inst (C := C) r.fr G.X (InstAt.of_news r.nw m1 m2) (by exact K.get) hf ht hg (k s ⟨⟨m, news, r⟩, z⟩)) fun _ _ h => h) hp he hc
end
end Sx

namespace Sx

theorem nsObj_slots {o : Obj} {m : Str → Option Value} {sl : Array (Option Value)} (x : LCg.NsObj o m) : LCg.NsObj { o with slots := sl } m := x
theorem frames_list {base h h' : Heap} {L : Addr} {news : List (Addr × Obj)} (N : News base L h news) (hs : h.UpToSlots h') : ∀ {outs : List (Addr × (Str → Option Value))}, (∀ p ∈ outs, ∃ o, (p.1, o) ∈ news ∧ LCg.NsObj o p.2) →
    ∃ fr, News base L h' fr ∧ (∀ p ∈ outs, ∃ o, (p.1, o) ∈ fr ∧ LCg.NsObj o p.2) ∧ ∀ q ∈ fr, ∃ p ∈ outs, q.1 = p.1
  | [], _ => ⟨[], News.nil, (fun _ h => nomatch h), fun _ h => nomatch h⟩
  | p :: r, H => by
    obtain ⟨fr, F1, F2, F3⟩ := frames_list N hs (outs := r) fun q hq => H q (List.mem_cons_of_mem _ hq)
    obtain ⟨o, hm, hn⟩ := H p (.head _)
    obtain ⟨sl, e⟩ := hs p.1 o (N _ hm).1 (by obtain ⟨es, ep, hd, _⟩ := hn; intro vs q; rw [hd] at q; cases q)
    refine ⟨(p.1, { o with slots := sl }) :: fr, fun q hq => ?_, fun q hq => ?_, fun q hq => ?_⟩
    · rcases List.mem_cons.mp hq with rfl | hq
      · exact ⟨e, (N _ hm).2⟩
      · exact F1 q hq
    · rcases List.mem_cons.mp hq with rfl | hq
      · exact ⟨_, .head _, nsObj_slots hn⟩
      · obtain ⟨o', a, b⟩ := F2 q hq
        exact ⟨o', List.mem_cons_of_mem _ a, b⟩
    · rcases List.mem_cons.mp hq with rfl | hq
      · exact ⟨p, .head _, rfl⟩
      · obtain ⟨p', a, b⟩ := F3 q hq
        exact ⟨p', List.mem_cons_of_mem _ a, b⟩

section
variable {g : Gl} {c : Cx} {σ : Nat → Addr} {st : AS} {m : Str → Option Value} {news : List (Addr × Obj)} {h h' : Heap} {s : Shared}
def NoFrame (c : Cx) (q : Addr × Obj) : Prop := ∀ p ∈ c.outs, q.1 ≠ p.1
theorem RepN.slots (r : RepN g c σ st m news h) (hb : g.base.StaysIn h') (hk : ∀ q ∈ news, NoFrame c q → h'.get? q.1 = some q.2) (hs : h.UpToSlots h') :
    ∃ news', RepN g c σ st m news' h' ∧ ∀ q ∈ news', NoFrame c q → q ∈ news := by
  obtain ⟨fr, F1, F2, F3⟩ := frames_list r.nw hs r.outs
  have nf : ∀ q : Addr × Obj, (c.outs.all fun p => q.1 != p.1) = true ↔ NoFrame c q := fun q => by simp [NoFrame]
  refine ⟨news.filter (fun q => c.outs.all fun p => q.1 != p.1) ++ fr, { fr := r.fr.of_stays hb hs, nw := fun q hq => ?_, loc := r.loc, hp := fun i o hi => ?_, inj := r.inj, lo := r.lo, outs := fun p hp => ?_, sep := r.sep, cids := r.cids, pins := fun p hp => ⟨List.mem_append_left _ (List.mem_filter.mpr ⟨(r.pins p hp).1, (nf _).mpr (r.pins p hp).2.2⟩), (r.pins p hp).2⟩ }, fun q hq n => ?_⟩
  · rcases List.mem_append.mp hq with hq | hq
    · obtain ⟨h1, h2⟩ := List.mem_filter.mp hq
      exact ⟨hk q h1 ((nf q).mp h2), (r.nw q h1).2⟩
    · exact F1 q hq
  · obtain ⟨lt, ob, hm, ho⟩ := r.hp i o hi
    exact ⟨lt, ob, List.mem_append_left _ (List.mem_filter.mpr ⟨hm, (nf _).mpr (r.sep i (by rw [hi]; simp))⟩), ho⟩
  · obtain ⟨o, a, b⟩ := F2 p hp
    exact ⟨o, List.mem_append_right _ a, b⟩
  · rcases List.mem_append.mp hq with hq | hq
    · exact (List.mem_filter.mp hq).1
    · obtain ⟨p, a, b⟩ := F3 q hq
      exact absurd b (n p a)

structure Room (A : Around) (d : Nat) : Prop where
  depth : A.depth + d < recursionLimit
  units : A.units + 8 * d < cLine
  handled : A.handled = none
  guards : A.guards = some []
theorem Room.less {A : Around} {d d' : Nat} (r : Room A d) (h : d' ≤ d) : Room A d' := ⟨by have := r.depth; omega, by have := r.units; omega, r.handled, r.guards⟩
theorem Room.deeper {A : Around} {d : Nat} {env : Env} (r : Room A (d + 1)) : Room (A.deeper env) d :=
  ⟨by have := r.depth; show A.depth + 1 + d < _; omega, by have := r.units; show A.units + 3 + 8 * d < _; omega, r.handled, by show (A.deeper env).guards = _; rw [show (A.deeper env).guards = A.guards from rfl]; exact r.guards⟩

abbrev mkC (qual : Str) (scope : Scope) (f : Addr) (cdv : Value) (cells : List (Str × Addr)) (cid : Str → Option Nat) (A : Around) (L : Addr) (outer : List Env) (outs : List (Addr × (Str → Option Value))) (pins : List (Addr × Obj)) : Cx :=
  { A := A, env := envX qual scope L f cdv cells, fenv := envX qual scope L f cdv cells, L := L, outer := outer, outs := outs, cid := cid, cd := none, pins := pins }

abbrev HP := Nat → Option AO
/-- what a call of the text's def f does, from any caller -/
def Fn (g : Gl) (d : Nat) (f : Addr) (as : List AV) (hp : HP) (nx : Nat) (Q : AV → HP → Nat → Prop) (X : String → HP → Nat → Prop) : Prop :=
  ∀ c loc σ s us, Cx.Ok c → Room c.A d → Rep g c σ ⟨loc, hp, nx⟩ s → VRs σ nx as us → codeAny (model g.prog g.w) c.A (.call (.ref f) ⟨us, []⟩)
    (fun r s' => match r with | .ok (.ret v) => PostOk g c VR σ nx (fun a st' => st'.loc = loc ∧ Q a st'.hp st'.nx) v s' | .ok _ => False | .error e => PostX g c σ nx (fun cls st' => st'.loc = loc ∧ X cls st'.hp st'.nx) e s') s

def locOf (ps : List (Str × AV)) : Str → Option AV := fun x => ps.reverse.lookup x
theorem locOf_ok {σ : Nat → Addr} {nx : Nat} : ∀ {pn : List Str} {as : List AV} {us : List Value}, VRs σ nx as us → ∀ x a, ((pn.zip as).reverse.lookup x) = some a → ∃ v, (pn.zip us).reverse.lookup x = some v ∧ VR σ nx a v
  | [], _, _, _, x, a, e => by simp at e
  | p :: pn, [], us, V, x, a, e => by simp at e
  | p :: pn, a :: as, us, ⟨v, r, h, W, V⟩, x, b, e => by
    subst h
    simp only [List.zip_cons_cons, List.reverse_cons, List.lookup_append] at e ⊢
    cases q : (pn.zip as).reverse.lookup x with
    | some y =>
      rw [q] at e
      cases e
      obtain ⟨v', hv, W'⟩ := locOf_ok V x b q
      exact ⟨v', by rw [hv]; rfl, W'⟩
    | none =>
      rw [q] at e
      have q' : (pn.zip r).reverse.lookup x = none := by
        cases q2 : (pn.zip r).reverse.lookup x with
        | none => rfl
        | some w =>
          exfalso
          have l := V.length
          have : ∀ {as : List AV} {us : List Value}, us.length = as.length → ∀ pn : List Str, ((pn.zip as).map (·.1)) = ((pn.zip us).map (·.1)) := by
            intro as us hl pn
            induction pn generalizing as us with
            | nil => simp
            | cons p pn ih =>
              cases as with
              | nil => cases us with
                | nil => rfl
                | cons => simp at hl
              | cons a as => cases us with
                | nil => simp at hl
                | cons u us =>
                  simp only [List.zip_cons_cons, List.map_cons]
                  rw [ih (by simpa using hl)]
          have key : x ∈ ((pn.zip r).reverse.map (·.1)) := by
            have : ∀ {l : List (Str × Value)} {w}, l.lookup x = some w → x ∈ l.map (·.1) := by
              intro l w hl
              induction l with
              | nil => simp at hl
              | cons z l ih =>
                rw [List.lookup_cons] at hl
                by_cases hz : (x == z.1) = true
                · rw [List.map_cons]; exact List.mem_cons.mpr (.inl (beq_iff_eq.mp hz))
                · rw [List.map_cons]; exact List.mem_cons_of_mem _ (ih (by simpa [hz] using hl))
            exact this q2
          rw [List.map_reverse, ← this l pn, ← List.map_reverse] at key
          obtain ⟨z, hz, ez⟩ := List.mem_map.mp key
          have : ∀ {l : List (Str × AV)}, z ∈ l → l.lookup x ≠ none := by
            intro l hl
            induction l with
            | nil => cases hl
            | cons y l ih =>
              rw [List.lookup_cons]
              by_cases hy : (x == y.1) = true
              · simp [hy]
              · simp only [hy]
                rcases List.mem_cons.mp hl with rfl | hl
                · exact absurd (beq_iff_eq.mpr ez.symm) hy
                · exact ih hl
          exact this hz q
      rw [q']
      simp only [Option.none_or, List.lookup_cons, List.lookup_nil] at e ⊢
      split at e
      · rename_i hx; cases e; simp [hx]; exact W
      · cases e

/-- the frame that a call leaves behind is the caller's again -/
theorem RepN.back {c' : Cx} {st' : AS} {loc : Str → Option AV} {m m' : Str → Option Value} {σ' : Nat → Addr} {nx : Nat} {σ₀ : Nat → Addr} {hp₀ : HP} {news' : List (Addr × Obj)} (O : c.Ok) (r : RepN g c' σ' st' m' news' h) (ho : c'.outs = (c.L, m) :: c.outs) (hpn : c'.pins = c.pins)
    (hl : c.L ≠ c'.L) (ha : g.base.objs.size ≤ c.L) (hloc : Loc c σ₀ ⟨loc, hp₀, nx⟩ m) (hc : ∀ x i, c.cid x = some i → i < nx ∧ c.env.cells.lookup x = some (σ₀ i)) (e : Ext nx σ₀ σ' st'.nx) :
    ∃ news, RepN g c σ' ⟨loc, st'.hp, st'.nx⟩ m news h ∧ ∀ q ∈ news, q ∈ news' := by
  obtain ⟨oL, hmL, hnL⟩ := r.outs (c.L, m) (by rw [ho]; exact .head _)
  refine ⟨news'.filter (fun q => q.1 != c.L), { fr := ⟨hnL.ns (r.nw _ hmL).1, r.fr.keep, ha⟩, nw := fun q hq => ?_, loc := hloc.ext (st' := ⟨loc, st'.hp, st'.nx⟩) rfl e, hp := fun i o hi => ?_, inj := r.inj, lo := r.lo, outs := fun p hp => ?_, sep := fun i hi p hp => ?_, cids := fun x i q => ?_, pins := fun p hp => ?_ }, fun q hq => (List.mem_filter.mp hq).1⟩
  · obtain ⟨h1, h2⟩ := List.mem_filter.mp hq
    exact ⟨(r.nw q h1).1, by simpa using h2, (r.nw q h1).2.2⟩
  · obtain ⟨lt, ob, hm, hO⟩ := r.hp i o hi
    exact ⟨lt, ob, List.mem_filter.mpr ⟨hm, by simpa using r.sep i (by rw [hi]; simp) (c.L, m) (by rw [ho]; exact .head _)⟩, hO⟩
  · obtain ⟨o, hm, hn⟩ := r.outs p (by rw [ho]; exact List.mem_cons_of_mem _ hp)
    exact ⟨o, List.mem_filter.mpr ⟨hm, by simpa using O.apart p hp⟩, hn⟩
  · exact r.sep i hi p (by rw [ho]; exact List.mem_cons_of_mem _ hp)
  · obtain ⟨lt, q'⟩ := hc x i q
    exact ⟨Nat.lt_of_lt_of_le lt e.le, by rw [e.eq i lt]; exact q'⟩
  · obtain ⟨p1, p2, p3⟩ := r.pins p (by rw [hpn]; exact hp)
    exact ⟨List.mem_filter.mpr ⟨p1, by simpa using p3 (c.L, m) (by rw [ho]; exact .head _)⟩, p2, fun q hq => p3 q (by rw [ho]; exact List.mem_cons_of_mem _ hq)⟩

/-- an exception leaves a frame -/
theorem leaves {c' : Cx} {M : Model} {A : Around} {E : Value → Shared → Prop} {F : Unit → Shared → Prop} {cls : String} {a : Addr} {B : Heap} {a0 : Value} (O' : c'.Ok) (hA : A.frames = some (c'.fenv :: c'.outer))
    (P : Phase c' B a (.type cls) a0 s.heap) (k : ∀ h', Heap.FlyingW B c'.outer a (.type cls) a0 h' → s.heap.UpToSlots h' → F () { s with heap := h' }) : wpAny M A (leaving c'.fenv (.ref a)) F E s := by
  cases P with
  | new kb n f t =>
    obtain ⟨ob, vs, he, hc, hd, h1, h0⟩ := t
    refine wpAny_leaving_firstW hA f O'.frame he kb n hd h1 h0 fun h' hL => ?_
    obtain ⟨k1, ⟨_, _, k2⟩, k3, k4⟩ := hL
    exact k h' ⟨k1, n, k2, hc ▸ k3⟩ k4
  | fly x => exact wpAny_leaves_onW hA O'.frame x k
  | held x =>
    unfold leaving
    refine wpAny_bind (wpAny_noteFrame_againW O'.frame x.2.2.2 ?_)
    refine wpAny_landsW x fun h' hfl hs => ?_
    obtain ⟨k1, k2, ⟨_, _, k3⟩, k4⟩ := hfl
    exact k h' ⟨k1, k2, k3, k4⟩ hs
end
end Sx

namespace Sx
def retOf : AF → AV
  | .ret a => a
  | _ => .none
section
variable {g : Gl} {d : Nat} {hp : HP} {nx : Nat} {Q : AV → HP → Nat → Prop} {X : String → HP → Nat → Prop}

theorem callee_ok {c : Cx} {σ : Nat → Addr} {st : AS} {m : Str → Option Value} {news : List (Addr × Obj)} {h : Heap} (O : c.Ok) (r : RepN g c σ st m news h) {qual : Str} {scope : Scope} {f : Addr} {cdv : Value} {cells : List (Str × Addr)} {cid : Str → Option Nat} {L : Addr} (hL : h.objs.size ≤ L)
    (hk : scope.kind = .function) {A : Around} (hA : A.frames = some (c.fenv :: c.outer)) : (mkC qual scope f cdv cells cid (A.deeper (envX qual scope L f cdv cells)) L (c.fenv :: c.outer) ((c.L, m) :: c.outs) c.pins).Ok where
  frames := Around.frames_deeper hA
  frame := rfl
  fkind := hk
  kind := hk
  globals := rfl
  own := fun _ => ⟨rfl, rfl⟩
  comp := fun _ h => nomatch h
  outer := fun e he => by
    rcases List.mem_cons.mp he with rfl | he
    · exact ⟨by rw [O.fkind]; decide, _, .head _, O.frame⟩
    · obtain ⟨a, p, b, q⟩ := O.outer e he
      exact ⟨a, p, List.mem_cons_of_mem _ b, q⟩
  apart := fun p hp => by
    rcases List.mem_cons.mp hp with rfl | hp
    · exact Nat.ne_of_lt (Nat.lt_of_lt_of_le r.fr.ns.lt hL)
    · obtain ⟨o, hm, _⟩ := r.outs p hp
      exact Nat.ne_of_lt (Nat.lt_of_lt_of_le (Heap.lt_size (r.nw _ hm).1) hL)

/-- the callee's frame is laid -/
theorem callee_rep {c : Cx} {σ : Nat → Addr} {st : AS} {m m' : Str → Option Value} {news : List (Addr × Obj)} {h h₁ : Heap} (O : c.Ok) (r : RepN g c σ st m news h) {qual : Str} {scope : Scope} {f : Addr} {cdv : Value} {A : Around} {L : Addr} {loc : Str → Option AV}
    (hns : h₁.Ns L m') (hk : ∀ b o, h.get? b = some o → h₁.get? b = some o) (hL : h.objs.size ≤ L) (hloc : ∀ x a, loc x = some a → ∃ v, m' x = some v ∧ VR σ st.nx a v) :
    ∃ oL, RepN g (mkC qual scope f cdv [] (fun _ => none) A L (c.fenv :: c.outer) ((c.L, m) :: c.outs) c.pins) σ ⟨loc, st.hp, st.nx⟩ m' ((c.L, oL) :: news) h₁ := by
  obtain ⟨oL, hoL, hnL⟩ := LCg.ns_obj r.fr.ns
  have bs : ∀ a o, g.base.get? a = some o → a < L := fun a o e => Nat.lt_of_lt_of_le (Heap.lt_size (r.fr.keep a o e)) hL
  have nb : g.base.get? c.L = none := by
    cases q : g.base.get? c.L with
    | none => rfl
    | some o => exact absurd (Heap.lt_size q) (Nat.not_lt.mpr r.fr.above)
  have hsz : g.base.objs.size ≤ L := Nat.le_trans r.fr.above (Nat.le_trans (Nat.le_of_lt r.fr.ns.lt) hL)
  refine ⟨oL, { fr := ⟨hns, fun b o e => hk b o (r.fr.keep b o e), hsz⟩, nw := fun q hq => ?_, loc := hloc, hp := fun i o hi => ?_, inj := r.inj, lo := r.lo, outs := fun p hp => ?_, sep := fun i hi p hp => ?_, cids := fun _ _ e => (nomatch e), pins := fun p hp => ⟨List.mem_cons_of_mem _ (r.pins p hp).1, (r.pins p hp).2.1, fun q hq => ?_⟩ }⟩
  · rcases List.mem_cons.mp hq with rfl | hq
    · exact ⟨hk _ _ hoL, Nat.ne_of_lt (Nat.lt_of_lt_of_le (Heap.lt_size hoL) hL), nb⟩
    · exact ⟨hk _ _ (r.nw q hq).1, Nat.ne_of_lt (Nat.lt_of_lt_of_le (Heap.lt_size (r.nw q hq).1) hL), (r.nw q hq).2.2⟩
  · obtain ⟨lt, ob, hm, ho⟩ := r.hp i o hi
    exact ⟨lt, ob, List.mem_cons_of_mem _ hm, ho⟩
  · rcases List.mem_cons.mp hp with rfl | hp
    · exact ⟨oL, .head _, hnL⟩
    · obtain ⟨o, a, b⟩ := r.outs p hp
      exact ⟨o, List.mem_cons_of_mem _ a, b⟩
  · rcases List.mem_cons.mp hp with rfl | hp
    · obtain ⟨o, ho⟩ := Option.ne_none_iff_exists'.mp hi
      obtain ⟨lt, ob, hm, _⟩ := r.hp i o ho
      exact (r.nw _ hm).2.1
    · exact r.sep i hi p hp
  · rcases List.mem_cons.mp hq with rfl | hq
    · exact (r.nw _ (r.pins p hp).1).2.1
    · exact (r.pins p hp).2.2 q hq

theorem fn_of {f : Addr} {name qual : Str} {params : Arguments} {body : List Stmt} {scope : Scope} {dV kV doc pm cdv ct oc : Value} {an od : Option Addr} {osl : Array (Option Value)} {as : List AV} (G : g.Ok)
    (hK : g.K.lookup f = some ⟨oc, od, .func (fnOf name qual params body scope dV kV doc pm an cdv ct), osl⟩) (hcd : codeIn g.K cdv qual = true) (pn : List Str)
    (hbind : ∀ s us, us.length = as.length → BindsTo s (fnOf name qual params body scope dV kV doc pm an cdv ct) ⟨us, []⟩ (pn.zip us))
    (hloc : pn.all (fun y => scope.names.lookup y == some .local) = true) (hcell : ∀ x ∈ scope.names, x.2 ≠ .cell) (hco : scope.isCoroutine = false) (hgen : scope.isGenerator = false) (hk : scope.kind = .function)
    (hbody : ∀ A L outer outs pins, (mkC qual scope f cdv [] (fun _ => none) A L outer outs pins).Ok → Room A d → (∀ j, nx ≤ j → hp j = none) →
      SS g (mkC qual scope f cdv [] (fun _ => none) A L outer outs pins) body ⟨fun x => (pn.zip as).reverse.lookup x, hp, nx⟩ (fun fl st' => Q (retOf fl) st'.hp st'.nx) (fun cls st' => X cls st'.hp st'.nx)) :
    Fn g (d + 1) f as hp nx Q X := by
  rintro c loc σ s us O Rm ⟨⟨m, news, r⟩, z⟩ V
  have X' := G.X.keeps r.fr.keep
  have hl' : ∀ y ∈ pn.zip us, scope.names.lookup y.1 = some .local := fun y hy => by
    have := List.all_eq_true.mp hloc y.1 (List.of_mem_zip hy).1
    exact beq_iff_eq.mp this
  refine codeAny_call_def (fd := fnOf name qual params body scope dV kV doc pm an cdv ct) (body := body) (binds := pn.zip us) (by have := Rm.depth; omega) (X' _ _ hK) rfl (G.T.nolimit.keeps r.fr.keep) (codeRec_of X' hcd) rfl (hbind s us V.length) hcell hl' (fun h₁ hns hk₁ => ?_) hco hgen hk
  have O' := callee_ok (qual := qual) (scope := scope) (f := f) (cdv := cdv) (cells := []) (cid := fun _ => none) (L := s.heap.objs.size) O r (Nat.le_refl _) hk O.frames
  obtain ⟨oL, r₁⟩ := callee_rep (qual := qual) (scope := scope) (f := f) (cdv := cdv) (A := c.A.deeper (envX qual scope s.heap.objs.size f cdv [])) (loc := fun x => (pn.zip as).reverse.lookup x) O r hns hk₁ (Nat.le_refl _) (locOf_ok V)
  have B := hbody _ _ _ _ _ O' Rm.deeper (fun j hj => by cases q : hp j with | none => rfl | some o => exact absurd (r.hp j o q).1 (Nat.not_lt.mpr hj)) σ { s with heap := h₁, toks := s.toks + (pn.zip us).length } ⟨⟨_, _, r₁⟩, z⟩
  refine wpAny_mono B (fun fl s' hq => ?_) fun e s' hq => ?_
  · obtain ⟨a, σ', st', q, e, ⟨⟨m', news', r'⟩, z'⟩, x⟩ := hq
    obtain ⟨nw2, r2, _⟩ := RepN.back O r' rfl rfl (Nat.ne_of_lt r.fr.ns.lt) r.fr.above r.loc r.cids e
    refine ⟨retOf a, σ', ⟨loc, st'.hp, st'.nx⟩, ⟨rfl, q⟩, e, ⟨⟨m, nw2, r2⟩, z'⟩, ?_⟩
    cases a with
    | next => cases x; rfl
    | brk => cases x; rfl
    | cont => cases x; rfl
    | ret a => obtain ⟨v, rfl, W⟩ := x; exact W
  · obtain ⟨cls, σ', st', q, ex, ⟨m', news', r', a, B', a0, rfl, hB, hk', P⟩, z'⟩ := hq
    refine leaves O' O'.frames P fun h' fl hs => ?_
    obtain ⟨nw3, r3, sub3⟩ := r'.slots (h' := h') (fun b o e => fl.1 b o (hB b o e)) (fun q hq n => fl.1 _ _ (hk' q hq n)) hs
    obtain ⟨nw2, r2, sub2⟩ := RepN.back O r3 rfl rfl (Nat.ne_of_lt r.fr.ns.lt) r.fr.above r.loc r.cids ex
    refine ⟨cls, σ', ⟨loc, st'.hp, st'.nx⟩, ⟨rfl, q⟩, ex, ⟨m, nw2, r2, a, B', a0, rfl, hB, fun p hp n => ?_, .fly fl⟩, z'⟩
    have nf : NoFrame (mkC qual scope f cdv [] (fun _ => none) (c.A.deeper (envX qual scope s.heap.objs.size f cdv [])) s.heap.objs.size (c.fenv :: c.outer) ((c.L, m) :: c.outs) c.pins) p := fun y hy => by
      rcases List.mem_cons.mp hy with rfl | hy
      · exact (r2.nw p hp).2.1
      · exact n y hy
    exact hk' p (sub3 p (sub2 p hp) nf) nf

/-- the call of a def, by its contract -/
theorem call_f {c : Cx} {st : AS} {f : Addr} {as : List AV} {Q : AV → AS → Prop} {X : String → AS → Prop} (O : c.Ok) (R : Room c.A d)
    (h : Fn g d f as st.hp st.nx (fun a hp' nx' => Q a ⟨st.loc, hp', nx'⟩) fun cls hp' nx' => X cls ⟨st.loc, hp', nx'⟩) : CallV g c (.ref f) as st Q X := fun σ s us H V => by
  refine wpAny_call (codeAny_mono (h c st.loc σ s us O R H V) fun r s' hr => ?_)
  cases r with
  | ok fl =>
    cases fl with
    | ret v =>
      obtain ⟨a, σ', st', ⟨e1, q⟩, e, r', W⟩ := hr
      exact ⟨a, σ', st', by rw [← e1] at q; exact q, e, r', W⟩
    | _ => exact hr.elim
  | error e =>
    obtain ⟨cls, σ', st', ⟨e1, q⟩, e, r'⟩ := hr
    exact ⟨cls, σ', st', by rw [← e1] at q; exact q, e, r'⟩
theorem Fn.less {f : Addr} {as : List AV} {d' : Nat} (h : Fn g d f as hp nx Q X) (hd : d ≤ d') : Fn g d' f as hp nx Q X := fun c loc σ s us O R => h c loc σ s us O (R.less hd)
theorem Fn.mono {f : Addr} {as : List AV} {Q' : AV → HP → Nat → Prop} {X' : String → HP → Nat → Prop} (h : Fn g d f as hp nx Q X) (hQ : ∀ a hp' nx', Q a hp' nx' → Q' a hp' nx') (hX : ∀ a hp' nx', X a hp' nx' → X' a hp' nx') : Fn g d f as hp nx Q' X' := fun c loc σ s us O R H V =>
  codeAny_mono (h c loc σ s us O R H V) fun r s' hr => by
    cases r with
    | ok fl =>
      cases fl with
      | ret v => obtain ⟨a, σ', st', ⟨e1, q⟩, w⟩ := hr; exact ⟨a, σ', st', ⟨e1, hQ _ _ _ q⟩, w⟩
      | _ => exact hr.elim
    | error e => obtain ⟨a, σ', st', ⟨e1, q⟩, w⟩ := hr; exact ⟨a, σ', st', ⟨e1, hX _ _ _ q⟩, w⟩
end
end Sx

namespace Sx
section
variable {g : Gl} {c : Cx} {σ : Nat → Addr} {st : AS} {s : Shared} {cls : String} {e : Value}

def RepE (g : Gl) (c : Cx) (σ : Nat → Addr) (st : AS) (ph : Heap → Addr → Value → Heap → Prop) (e : Value) (s : Shared) : Prop :=
  (∃ m news, RepN g c σ st m news s.heap ∧ ∃ a B a0, e = .ref a ∧ g.base.StaysIn B ∧ (∀ q ∈ news, (∀ p ∈ c.outs, q.1 ≠ p.1) → B.get? q.1 = some q.2) ∧ ph B a a0 s.heap) ∧ Still g s
abbrev Held (c : Cx) (cls : String) : Heap → Addr → Value → Heap → Prop := fun B a a0 h => Heap.HeldW B (c.fenv :: c.outer) a (.type cls) a0 c.L h
abbrev Flies (c : Cx) (cls : String) : Heap → Addr → Value → Heap → Prop := fun B a a0 h => Heap.FlyingW B (c.fenv :: c.outer) a (.type cls) a0 h

theorem RepN.moved {m : Str → Option Value} {news : List (Addr × Obj)} {h h' B : Heap} {a : Addr} {a0 : Value} {ph : Heap → Addr → Value → Heap → Prop} (r : RepN g c σ st m news h) (z : Still g s) (hB : g.base.StaysIn B) (hk : ∀ q ∈ news, (∀ p ∈ c.outs, q.1 ≠ p.1) → B.get? q.1 = some q.2)
    (k : B.StaysIn h') (u : h.UpToSlots h') (P : ph B a a0 h') : RepE g c σ st ph (.ref a) { s with heap := h' } := by
  obtain ⟨n2, r2, sub⟩ := r.slots (h' := h') (fun b o q => k b o (hB b o q)) (fun q hq n => k _ _ (hk q hq n)) u
  exact ⟨⟨m, n2, r2, a, B, a0, rfl, hB, fun q hq n => hk q (sub q hq n) n, P⟩, z⟩

theorem noteX {A : Around} {F : Unit → Shared → Prop} {E : Value → Shared → Prop} (O : c.Ok) (hA : A.frames = some (c.fenv :: c.outer)) (x : RepX g c σ st cls e s)
    (k : ∀ h', RepE g c σ st (Held c cls) e { s with heap := h' } → F () { s with heap := h' }) : wpAny (model g.prog g.w) A (noteFrame e c.fenv) F E s := by
  obtain ⟨⟨m, news, r, a, B, a0, rfl, hB, hk, P⟩, z⟩ := x
  cases P with
  | new kb n f t =>
    obtain ⟨ob, vs, he, hc, hd, h1, h0⟩ := t
    unfold noteFrame
    simp only [O.frame]
    refine wpAny_bind (wpAny_field he hd h1 ?_)
    rw [if_neg (by decide)]
    refine wpAny_entryW hA f O.frame he kb n hd (Array.getElem?_eq_some_iff.mp h1).1 h0 fun h' hN => ?_
    obtain ⟨k1, k2, k3, k4⟩ := hN
    exact k h' (r.moved z hB hk k1 k4 ⟨k1, n, k2, hc ▸ k3⟩)
  | fly x => exact wpAny_looks_onW hA O.frame x fun h' x1 x2 => k h' (r.moved z hB hk x1.1 x2 x1)
  | held x =>
    refine wpAny_noteFrame_againW O.frame x.2.2.2 ?_
    exact k s.heap ⟨⟨m, news, r, a, B, a0, rfl, hB, hk, x⟩, z⟩

theorem RepE.up (x : RepE g c σ st (Held c cls) e s) : RepX g c σ st cls e s := by
  obtain ⟨⟨m, news, r, a, B, a0, rfl, hB, hk, P⟩, z⟩ := x
  exact ⟨⟨m, news, r, a, B, a0, rfl, hB, hk, .held P⟩, z⟩
theorem RepE.upF (x : RepE g c σ st (Flies c cls) e s) : RepX g c σ st cls e s := by
  obtain ⟨⟨m, news, r, a, B, a0, rfl, hB, hk, P⟩, z⟩ := x
  exact ⟨⟨m, news, r, a, B, a0, rfl, hB, hk, .fly P⟩, z⟩

theorem setFlight_some {M : Model} {A : Around} {E : Value → Shared → Prop} {base : Heap} {l : List Env} {a L : Addr} {cl a0 fl : Value} {Q : Unit → Shared → Prop}
    (hkb : base.StaysIn s.heap) (hl : s.heap.FunFrames base l) (ht : s.heap.TracedAtW base a cl a0 fl)
    (h : ∀ h', base.StaysIn h' → h'.FunFrames base l → h'.TracedAtW base a cl a0 (rawInt L) → s.heap.UpToSlots h' → Q () { s with heap := h' }) :
    wpAny M A (setFlight (.ref a) (some L)) Q E s := by
  obtain ⟨oe, vs, T, oT, ts, he, hcls, hd, h1, hnT, hTe, hT, hdT, h3⟩ := ht
  have hsz3 : 3 < ts.size := (Array.getElem?_eq_some_iff.mp h3).1
  have other : ∀ b, b ≠ T → (s.heap.update T (Obj.mapFields (·.setIfInBounds 3 (rawInt L)))).get? b = s.heap.get? b := fun b hb => Heap.get?_update_other _ _ (Ne.symm hb)
  have noRec : ∀ b o, s.heap.get? b = some o → (∀ vs, o.data ≠ .fields vs) → b ≠ T := fun b o hb hnf q => by
    rw [q, hT] at hb; injection hb with hb; subst hb; exact hnf ts hdT
  unfold setFlight
  refine wpAny_bind (wpAny_field he hd h1 ?_)
  rw [if_pos (show (Value.ref T != Value.none) = true from by simp)]
  refine wpAny_setField hT hdT hsz3 (h _ (fun b o hbo => (other b fun q => by rw [q, hnT] at hbo; cases hbo).trans (hkb b o hbo)) (hl.of_keeps fun b o hb hnf => ⟨o, (other b (noRec b o hb hnf)).trans hb, rfl⟩) ?_ fun b o hb hnf => ⟨o.slots, (other b (noRec b o hb hnf)).trans hb⟩)
  exact ⟨oe, vs, T, _, _, (other a (Ne.symm hTe)).trans he, hcls, hd, h1, hnT, hTe, Heap.get?_update_self _ hT (Obj.isFreed_of_fields (Obj.data_mapFields hdT _)), Obj.data_mapFields hdT _, by simp [hsz3]⟩

/-- behind a loop: the exception is this frame's again -/
theorem cameX {A : Around} {E : Value → Shared → Prop} (O : c.Ok) (x : RepE g c σ st (Held c cls) e s) (k : ∀ h', RepE g c σ st (Held c cls) e { s with heap := h' } → E e { s with heap := h' }) : cameBackBy (model g.prog g.w) A c.fenv E e s := by
  obtain ⟨⟨m, news, r, a, B, a0, rfl, hB, hk, P⟩, z⟩ := x
  unfold cameBackBy
  obtain ⟨p1, p2, p3, oe, vs, T, oT, ts, he, hcls, hd, h1, hnT, hTe, hT, hdT, h3⟩ := P
  refine wpAny_bind (wpAny_field he hd h1 ?_)
  rw [if_neg (show ¬ ((Value.ref T == Value.none) = true) from by simp)]
  rw [O.frame]
  exact setFlight_some (L := c.L) p1 p3 ⟨oe, vs, T, oT, ts, he, hcls, hd, h1, hnT, hTe, hT, hdT, h3⟩ fun h' k1 k2 k3 k4 => k h' (r.moved z hB hk k1 k4 ⟨k1, p2, k2, k3⟩)

/-- a loop's turn raised: through the loop's block to the statement's end -/
theorem loopX {nx : Nat} {σ₀ : Nat → Addr} {X : String → AS → Prop} (O : c.Ok) (h0 : c.cd = none) (x : PostX g c σ₀ nx X e s) :
    notedBy (model g.prog g.w) c.A c.env (fun e s' => cameBackBy (model g.prog g.w) c.A c.env (PostX g c σ₀ nx X) e s') e s := by
  obtain ⟨cl, σ', st', q, ex, rx⟩ := x
  rw [(O.own h0).1]
  exact noteX O O.frames rx fun h' y => cameX O y fun h'' y' => ⟨cl, σ', st', q, ex, y'.up⟩

theorem landX {A : Around} {F : Unit → Shared → Prop} {E : Value → Shared → Prop} (x : RepE g c σ st (Held c cls) e s) (k : ∀ h', RepE g c σ st (Flies c cls) e { s with heap := h' } → F () { s with heap := h' }) : wpAny (model g.prog g.w) A (setFlight e none) F E s := by
  obtain ⟨⟨m, news, r, a, B, a0, rfl, hB, hk, P⟩, z⟩ := x
  exact wpAny_landsW P fun h' y u => k h' (r.moved z hB hk y.1 u y)
theorem landX2 {A : Around} {F : Unit → Shared → Prop} {E : Value → Shared → Prop} (x : RepE g c σ st (Flies c cls) e s) (k : ∀ h', RepE g c σ st (Flies c cls) e { s with heap := h' } → F () { s with heap := h' }) : wpAny (model g.prog g.w) A (setFlight e none) F E s := by
  obtain ⟨⟨m, news, r, a, B, a0, rfl, hB, hk, P⟩, z⟩ := x
  exact lands_againW P fun h' y u => k h' (r.moved z hB hk y.1 u y)
theorem RepE.rep {ph : Heap → Addr → Value → Heap → Prop} (x : RepE g c σ st ph e s) : Rep g c σ st s := by
  obtain ⟨⟨m, news, r, _⟩, z⟩ := x
  exact ⟨⟨m, news, r⟩, z⟩

/-- the context of a handler's suite -/
abbrev Cx.mark (c : Cx) (e : Value) : Cx := { c with A := c.A.mark (some e) }
theorem Cx.Ok.mark (O : c.Ok) (e : Value) : (c.mark e).Ok := { O with }
theorem rep_mark {e : Value} (r : Rep g c σ st s) : Rep g (c.mark e) σ st s := by
  obtain ⟨⟨m, news, r⟩, z⟩ := r
  exact ⟨⟨m, news, { r with }⟩, z⟩
theorem rep_unmark {e : Value} (r : Rep g (c.mark e) σ st s) : Rep g c σ st s := by
  obtain ⟨⟨m, news, r⟩, z⟩ := r
  exact ⟨⟨m, news, { r with }⟩, z⟩

structure Caught (X T : String) : Prop where
  exc : isSubtype (.type T) (.type "BaseException") = pure true
  nt : isSubtype (.type ((Manifest.find? T).elim "type" fun x => x.metatype)) (.type "tuple") = pure false
  sub : isSubtype (.type X) (.type T) = pure true

theorem st_try {body suite : List Stmt} {b₀ : Stmt} {x : Str} {np pos hpos : Pos} {T : String} {Q : AF → AS → Prop} {X : String → AS → Prop} (G : g.Ok) (O : c.Ok) (h0 : c.cd = none)
    (hn : nsIn g.K mainGlobals x = some none) (hv : bootBuiltins x = some (.type T))
    (h : SS g c body st Q fun cls st' => Caught cls T ∧ ∀ e, SS g (c.mark e) (b₀ :: suite) st' Q fun _ _ => False)
    (hb : c.env.builtins = builtinsNs := by rfl) (hx : x ≠ "__name__" := by decide) (hl : c.env.kindOf x = some .globalImplicit := by rfl) (hd : (x == ("__debug__" : Str)) = false := by decide) :
    ST g c (.Try body [.ExceptHandler (some (.Name x np)) none (b₀ :: suite) hpos] [] [] pos) st Q X := fun σ s H => by
  refine wpAny_Try_except (wpAny_mono (h σ s H) (fun f s1 hq => ?_) fun e s1 hq => ?_)
  · obtain ⟨a, σ', st', q, ex, r', y⟩ := hq
    cases a with
    | next => cases y; exact wpAny_execs_nil ⟨.next, σ', st', q, ex, r', rfl⟩
    | brk => cases y; exact ⟨.brk, σ', st', q, ex, r', rfl⟩
    | cont => cases y; exact ⟨.cont, σ', st', q, ex, r', rfl⟩
    | ret a => obtain ⟨v, rfl, V⟩ := y; exact ⟨.ret a, σ', st', q, ex, r', v, rfl, V⟩
  · obtain ⟨cls, σ', st', ⟨K, hs⟩, ex, rx⟩ := hq
    have ea : ∃ a, e = .ref a := by obtain ⟨⟨_, _, _, a, _, _, rfl, _⟩, _⟩ := rx; exact ⟨a, rfl⟩
    obtain ⟨a, rfl⟩ := ea
    rw [(O.own h0).1]
    refine noteX O O.frames rx fun h1 y1 => landX y1 fun h2 y2 => ?_
    rw [← (O.own h0).1]
    have R2 := y2.rep
    refine wpAny_handleBy_builtin (X := cls) (T := T) (b := true) K.exc K.nt K.sub ?_
    obtain ⟨⟨m, news, r, a', B, a0, ea, hB, hk, P⟩, z⟩ := id y2
    cases ea
    obtain ⟨ob, hob, hobc⟩ := P.there
    refine Name_function_global O.kind hl (loadGlobal_builtin (by rw [O.globals]; exact G.T.g.keeps r.fr.keep) (mg_none_of G.X G.T.g hn) (by rw [hb]; exact G.T.b.keeps r.fr.keep) ((G.T.builtins x hx).trans hv) ⟨rfl, ⟨ob, hob, hobc⟩, ?_⟩) hd
    show wpAny _ _ (setFlight (.ref a) none) _ _ _
    refine landX2 y2 fun h3 y3 => ?_
    refine wpAny_mono (hs (.ref a) σ' _ (rep_mark y3.rep)) (fun f s4 hq => ?_) fun _ _ ⟨_, _, _, hf, _⟩ => hf.elim
    obtain ⟨b, σ4, st4, q, ex4, r4, V⟩ := hq
    exact ⟨b, σ4, st4, q, ex.trans ex4, rep_unmark r4, V⟩
end
end Sx

namespace Sx
section
variable {g : Gl} {c : Cx} {st : AS} {X : String → AS → Prop} {pos : Pos}

/-- how a turn of a loop ends -/
def TurnQ (J : AS → Prop) (Q : AF → AS → Prop) : AF → AS → Prop
  | .next, st => J st
  | .cont, st => J st
  | .brk, st => Q .next st
  | .ret a, st => Q (.ret a) st

theorem st_while {test : Expr} {body : List Stmt} {Q : AF → AS → Prop} (O : c.Ok) (h0 : c.cd = none) (J : AS → Prop) (μ : AS → Nat) (start : J st)
    (turn : ∀ st1, J st1 → TR g c test st1 (fun b st2 => if b = true then SS g c body st2 (TurnQ (fun st3 => J st3 ∧ μ st3 < μ st1) Q) X else Q .next st2) X) : ST g c (.While test body [] pos) st Q X := fun σ s H => by
  refine wpAny_While ?_
  refine codeAny_whileLoop (fun n s' => ∃ σ' st', J st' ∧ μ st' = n ∧ Ext st.nx σ σ' st'.nx ∧ Rep g c σ' st' s') ?_ (μ st) ⟨σ, st, start, rfl, .refl, H⟩
  rintro n s1 ⟨σ1, st1, j1, rfl, e1, H1⟩
  refine wpAny_mono (turn st1 j1 σ1 s1 H1) (fun b s2 hb => ?_) fun _ _ x => loopX O h0 (x.ext e1)
  obtain ⟨b', σ2, st2, q, e2, H2, rfl⟩ := hb
  cases b with
  | true =>
    refine wpAny_mono (q σ2 s2 H2) (fun f s3 hf => ?_) fun _ _ x => loopX O h0 (x.ext (e1.trans e2))
    obtain ⟨a, σ3, st3, q3, e3, H3, y⟩ := hf
    cases a with
    | next => cases y; exact ⟨_, q3.2, σ3, st3, q3.1, rfl, (e1.trans e2).trans e3, H3⟩
    | cont => cases y; exact ⟨_, q3.2, σ3, st3, q3.1, rfl, (e1.trans e2).trans e3, H3⟩
    | brk => cases y; exact ⟨.next, σ3, st3, q3, (e1.trans e2).trans e3, H3, rfl⟩
    | ret a => obtain ⟨v, rfl, V⟩ := y; exact ⟨.ret a, σ3, st3, q3, (e1.trans e2).trans e3, H3, v, rfl, V⟩
  | false => exact wpAny_execs_nil ⟨.next, σ2, st2, q, e1.trans e2, H2, rfl⟩

/-! iterators -/
abbrev Cx.pin (c : Cx) (p : Addr × Obj) : Cx := { c with pins := p :: c.pins }
theorem Cx.Ok.pin (O : c.Ok) (p : Addr × Obj) : (c.pin p).Ok := { O with }
theorem RepN.unpin {p : Addr × Obj} {σ : Nat → Addr} {m : Str → Option Value} {news : List (Addr × Obj)} {h : Heap} (r : RepN g (c.pin p) σ st m news h) : RepN g c σ st m news h := { r with pins := fun q hq => r.pins q (List.mem_cons_of_mem _ hq) }
theorem Rep.unpin {p : Addr × Obj} {σ : Nat → Addr} {s : Shared} (r : Rep g (c.pin p) σ st s) : Rep g c σ st s := by
  obtain ⟨⟨m, news, r⟩, z⟩ := r
  exact ⟨⟨m, news, r.unpin⟩, z⟩
theorem RepX.unpin {p : Addr × Obj} {σ : Nat → Addr} {s : Shared} {cls : String} {e : Value} (r : RepX g (c.pin p) σ st cls e s) : RepX g c σ st cls e s := by
  obtain ⟨⟨m, news, r, a, B, a0, ea, hB, hk, P⟩, z⟩ := r
  refine ⟨⟨m, news, r.unpin, a, B, a0, ea, hB, hk, ?_⟩, z⟩
  cases P with
  | new a b c d => exact .new a b c d
  | fly x => exact .fly x
  | held x => exact .held x
theorem PostX.unpin {p : Addr × Obj} {σ : Nat → Addr} {s : Shared} {nx : Nat} {e : Value} (x : PostX g (c.pin p) σ nx X e s) : PostX g c σ nx X e s := by
  obtain ⟨cls, σ', st', q, ex, r⟩ := x
  exact ⟨cls, σ', st', q, ex, r.unpin⟩

def AS.del (st : AS) (i : Nat) : AS := { st with hp := fun j => if j = i then none else st.hp j }
/-- an object of the state is laid aside -/
theorem RepN.lay {σ : Nat → Addr} {m : Str → Option Value} {news : List (Addr × Obj)} {h : Heap} (r : RepN g c σ st m news h) {i : Nat} {o : AO} (q : st.hp i = some o) :
    ∃ ob, h.get? (σ i) = some ob ∧ OR σ st.nx o ob ∧ RepN g (c.pin (σ i, ob)) σ (st.del i) m news h := by
  obtain ⟨lt, ob, hm, ho⟩ := r.hp i o q
  have key : ∀ k, (st.del i).hp k ≠ none → st.hp k ≠ none ∧ k ≠ i := fun k hk => by
    by_cases z : k = i
    · subst z; simp [AS.del] at hk
    · exact ⟨by simpa [AS.del, z] using hk, z⟩
  refine ⟨ob, (r.nw _ hm).1, ho, { r with hp := fun j o' hj => ?_, lo := fun j o' hj hd => r.lo j o' (by have h1 := key j (by rw [hj]; simp); simpa [AS.del, h1.2] using hj) hd, inj := fun j k hj hk => r.inj j k (key j hj).1 (key k hk).1, sep := fun j hj => r.sep j (key j hj).1, pins := fun p hp => ?_ }⟩
  · have h1 := key j (by rw [hj]; simp)
    have : st.hp j = some o' := by simpa [AS.del, h1.2] using hj
    exact r.hp j o' this
  · rcases List.mem_cons.mp hp with rfl | hp
    · exact ⟨hm, fun j hj y => (key j hj).2 (r.inj j i (key j hj).1 (by rw [q]; simp) y), fun p hp => r.sep i (by rw [q]; simp) p hp⟩
    · exact ⟨(r.pins p hp).1, fun j hj => (r.pins p hp).2.1 j (key j hj).1, (r.pins p hp).2.2⟩

theorem SameBut_fr {base h h' : Heap} {L I : Addr} {m : Str → Option Value} (F : Fr base L h m) (hs : Heap.SameBut I h h') (hL : I ≠ L) (hb : base.get? I = none) : Fr base L h' m := F.change hs hL hb

/-- a pinned object turned -/
theorem RepN.turn {σ : Nat → Addr} {m : Str → Option Value} {news : List (Addr × Obj)} {h h' : Heap} {I : Addr} {o o' : Obj} (r : RepN g (c.pin (I, o)) σ st m news h) (hp : ∀ p ∈ c.pins, p.1 ≠ I) (hs : Heap.ExtBut I h h') (ho' : h'.get? I = some o') :
    ∃ news', RepN g (c.pin (I, o')) σ st m news' h' := by
  obtain ⟨hm, hsep, hout⟩ := r.pins (I, o) (.head _)
  have hI := (r.nw _ hm).2
  have hs' := hs
  refine ⟨(I, o') :: news.filter (fun p => decide (p.1 ≠ I)), { fr := ?_, nw := fun p hq => ?_, loc := ?_, hp := fun i ob hi => ?_, inj := r.inj, lo := r.lo, outs := fun p hq => ?_, sep := r.sep, cids := r.cids, pins := fun p hq => ?_ }⟩
  · obtain ⟨oL, a1, a2, hoL, a3⟩ := r.fr.ns
    exact ⟨⟨oL, a1, a2, hs' _ _ (fun e => hI.1 e.symm) hoL, a3⟩, fun b x e => hs' b x (fun z => by rw [z, hI.2] at e; cases e) (r.fr.keep b x e), r.fr.above⟩
  · rcases List.mem_cons.mp hq with rfl | hq
    · exact ⟨ho', hI⟩
    · obtain ⟨h1, h2⟩ := List.mem_filter.mp hq
      have h2' : p.1 ≠ I := by simpa using h2
      exact ⟨hs' _ _ h2' (r.nw p h1).1, (r.nw p h1).2⟩
  · exact r.loc
  · obtain ⟨lt, ob', hm', hO⟩ := r.hp i ob hi
    exact ⟨lt, ob', List.mem_cons_of_mem _ (List.mem_filter.mpr ⟨hm', by simpa using hsep i (by rw [hi]; simp)⟩), hO⟩
  · obtain ⟨o2, hm', hn⟩ := r.outs p hq
    exact ⟨o2, List.mem_cons_of_mem _ (List.mem_filter.mpr ⟨hm', by simpa using (hout p hq).symm⟩), hn⟩
  · rcases List.mem_cons.mp hq with rfl | hq
    · exact ⟨.head _, hsep, hout⟩
    · obtain ⟨x1, x2, x3⟩ := r.pins p (List.mem_cons_of_mem _ hq)
      exact ⟨List.mem_cons_of_mem _ (List.mem_filter.mpr ⟨x1, by simpa using hp p hq⟩), x2, x3⟩

/-- what a tuple or a list holds -/
def Seq (st : AS) (T : Bool) (l : Nat) (vs : List AV) : Prop := st.hp l = some (if T then .tup vs else .list vs)
theorem RepN.seq {σ : Nat → Addr} {m : Str → Option Value} {news : List (Addr × Obj)} {h : Heap} (r : RepN g c σ st m news h) {T : Bool} {l : Nat} {vs : List AV} (hl : Seq st T l vs) :
    ∃ us, VRs σ st.nx vs us ∧ (if T then h.IsTuple (σ l) (List.toArray us) else h.IsList (σ l) (List.toArray us)) ∧ l < st.nx := by
  cases T with
  | true => obtain ⟨us, n, hm, ho, V⟩ := r.tup hl; exact ⟨us, V, ⟨_, ho, rfl, n, rfl⟩, (r.hp l _ hl).1⟩
  | false => obtain ⟨us, n, hm, ho, V⟩ := r.list hl; exact ⟨us, V, ho, (r.hp l _ hl).1⟩

abbrev PI (g : Gl) (c : Cx) (a : AV) (st : AS) (Q : AV → AS → Prop) (X : String → AS → Prop) : Prop := Op1 g c pyIter a st Q X

theorem pi_seq {T : Bool} {l : Nat} {vs : List AV} {Q : AV → AS → Prop} (hl : Seq st T l vs) (q : Q (.ref st.nx) (st.new (.iter T l 0))) : PI g c (.ref l) st Q X := by
  rintro σ s u ⟨⟨m, news, r⟩, z⟩ ⟨la, rfl⟩
  obtain ⟨us, V, L, lt⟩ := r.seq hl
  have fin : ∀ {cl : String}, cl = (if T then "tuple_iterator" else "list_iterator") → PostOk g c VR σ st.nx Q (.ref s.heap.objs.size) { s with heap := s.heap.push { cls := .type cl, data := .fields #[.ref (σ l), .int 0 0] } } := fun {cl} hcl => by
    have ex : Ext st.nx σ (fun i => if i = st.nx then s.heap.objs.size else σ i) (st.nx + 1) := ⟨Nat.le_succ _, fun i hi => if_neg (Nat.ne_of_lt hi)⟩
    obtain ⟨r', e'⟩ := r.new (o := .iter T l 0) (r.fr.push { cls := .type cl, data := .fields #[.ref (σ l), .int 0 0] }) (r.nw.push r.fr _) (fun p hp => Heap.lt_size (r.nw p hp).1) (OR.mono ex (a := .iter T l 0) ⟨lt, by rw [hcl], rfl⟩)
    exact ⟨_, _, _, q, e', ⟨⟨_, _, r'⟩, z⟩, Nat.lt_succ_self _, by simp⟩
  cases T with
  | true => exact wpAny_pyIter_tuple L (fin rfl)
  | false => exact wpAny_pyIter_list L (fin rfl)
end
end Sx

namespace Sx
section
variable {g : Gl} {c : Cx} {st : AS} {X : String → AS → Prop} {pos : Pos}

theorem RepN.drop {σ : Nat → Addr} {m : Str → Option Value} {news : List (Addr × Obj)} {h h' : Heap} {I : Addr} {o : Obj} (r : RepN g (c.pin (I, o)) σ st m news h) (hp : ∀ p ∈ c.pins, p.1 ≠ I) (hs : Heap.ExtBut I h h') :
    ∃ news', RepN g c σ st m news' h' := by
  obtain ⟨hm, hsep, hout⟩ := r.pins (I, o) (.head _)
  have hI := (r.nw _ hm).2
  refine ⟨news.filter (fun p => decide (p.1 ≠ I)), { fr := ?_, nw := fun p hq => ?_, loc := r.loc, hp := fun i ob hi => ?_, inj := r.inj, lo := r.lo, outs := fun p hq => ?_, sep := r.sep, cids := r.cids, pins := fun p hq => ?_ }⟩
  · obtain ⟨oL, a1, a2, hoL, a3⟩ := r.fr.ns
    exact ⟨⟨oL, a1, a2, hs _ _ (fun e => hI.1 e.symm) hoL, a3⟩, fun b x e => hs b x (fun z => by rw [z, hI.2] at e; cases e) (r.fr.keep b x e), r.fr.above⟩
  · obtain ⟨h1, h2⟩ := List.mem_filter.mp hq
    have h2' : p.1 ≠ I := by simpa using h2
    exact ⟨hs _ _ h2' (r.nw p h1).1, (r.nw p h1).2⟩
  · obtain ⟨lt, ob', hm', hO⟩ := r.hp i ob hi
    exact ⟨lt, ob', List.mem_filter.mpr ⟨hm', by simpa using hsep i (by rw [hi]; simp)⟩, hO⟩
  · obtain ⟨o2, hm', hn⟩ := r.outs p hq
    exact ⟨o2, List.mem_filter.mpr ⟨hm', by simpa using (hout p hq).symm⟩, hn⟩
  · obtain ⟨x1, x2, x3⟩ := r.pins p (List.mem_cons_of_mem _ hq)
    exact ⟨List.mem_filter.mpr ⟨x1, by simpa using hp p hq⟩, x2, x3⟩

def IterObj (T : Bool) (a : Addr) (k : Nat) (o : Obj) : Prop := o.cls = .type (if T then "tuple_iterator" else "list_iterator") ∧ o.data = .fields #[.ref a, .int k 0]

theorem next_item {σ : Nat → Addr} {s : Shared} {T : Bool} {l k : Nat} {vs : List AV} {v : AV} {I : Addr} {o : Obj} {F : Option Value → Shared → Prop} {E : Value → Shared → Prop} (H : Rep g (c.pin (I, o)) σ st s) (hl : Seq st T l vs) (it : IterObj T (σ l) k o)
    (hk : vs[k]? = some v) (hp : ∀ p ∈ c.pins, p.1 ≠ I) (h : ∀ u h' o', VR σ st.nx v u → IterObj T (σ l) (k + 1) o' → Rep g (c.pin (I, o')) σ st { s with heap := h' } → F (some u) { s with heap := h' }) :
    wpAny (model g.prog g.w) c.A (pyNext (.ref I)) F E s := by
  obtain ⟨⟨m, news, r⟩, z⟩ := H
  obtain ⟨us, V, L, lt⟩ := r.seq hl
  obtain ⟨u, hu, W⟩ := V.get hk
  have go := (r.nw _ (r.pins (I, o) (.head _)).1).1
  have fin : ∀ h' o', h'.get? I = some o' → IterObj T (σ l) (k + 1) o' → Heap.SameBut I s.heap h' → F (some u) { s with heap := h' } := fun h' o' ho' hi hs => by
    obtain ⟨n', r'⟩ := r.turn hp hs.extBut ho'
    exact h u h' o' W hi ⟨⟨m, n', r'⟩, z⟩
  cases T with
  | true => exact wpAny_pyNext_tuple_item (i := k) ⟨o, go, it⟩ L (by simpa using hu) fun h' ⟨o', ho', hi⟩ hs => fin h' o' ho' hi hs
  | false => exact wpAny_pyNext_list_item (i := k) ⟨o, go, it⟩ L (by simpa using hu) fun h' ⟨o', ho', hi⟩ hs => fin h' o' ho' hi hs
theorem next_end {σ : Nat → Addr} {s : Shared} {T : Bool} {l k : Nat} {vs : List AV} {I : Addr} {o : Obj} {F : Option Value → Shared → Prop} {E : Value → Shared → Prop} (H : Rep g (c.pin (I, o)) σ st s) (hl : Seq st T l vs) (it : IterObj T (σ l) k o)
    (hk : vs[k]? = none) (hp : ∀ p ∈ c.pins, p.1 ≠ I) (hh : c.A.handled = none) (h : ∀ h', Rep g c σ st { s with heap := h' } → F none { s with heap := h' }) :
    wpAny (model g.prog g.w) c.A (pyNext (.ref I)) F E s := by
  obtain ⟨⟨m, news, r⟩, z⟩ := H
  obtain ⟨us, V, L, lt⟩ := r.seq hl
  have hu : us[k]? = none := by
    rw [List.getElem?_eq_none_iff] at hk ⊢
    rw [V.length]; exact hk
  have go := (r.nw _ (r.pins (I, o) (.head _)).1).1
  have fin : ∀ h', Heap.ExtBut I s.heap h' → F none { s with heap := h' } := fun h' hs => by
    obtain ⟨n', r'⟩ := r.drop hp hs
    exact h h' ⟨⟨m, n', r'⟩, z⟩
  cases T with
  | true => exact wpAny_pyNext_tuple_end (i := k) hh ⟨o, go, it⟩ L (by simpa using hu) fin
  | false => exact wpAny_pyNext_list_end (i := k) hh ⟨o, go, it⟩ L (by simpa using hu) fin

/-- for over a list or a tuple, by what holds ahead of each turn -/
theorem st_for {x : Str} {px : Pos} {iter : Expr} {body : List Stmt} {Q : AF → AS → Prop} (O : c.Ok) (h0 : c.cd = none) (hh : c.A.handled = none)
    (h : EV g c iter st (fun a st1 => PI g c a st1 (fun b st2 => ∃ (i : Nat) (T : Bool) (l : Nat) (vs : List AV) (J : Nat → AS → Prop), b = .ref i ∧ st2.hp i = some (.iter T l 0) ∧ J 0 (st2.del i) ∧ (∀ k st3, J k st3 → Seq st3 T l vs) ∧
      (∀ k v st3 p, vs[k]? = some v → J k st3 → SN g (c.pin p) x v st3 (fun st4 => SS g (c.pin p) body st4 (TurnQ (J (k + 1)) Q) X) X) ∧ ∀ st3, J vs.length st3 → Q .next st3) X) X)
    (hs : ∀ v, foldedSetIterable iter c.env v = pure v := by intro _; rfl) : ST g c (.For (.Name x px) iter body [] pos) st Q X := fun σ s H => by
  refine wpAny_For (seq h H fun u s1 a σ1 st1 h1 e1 H1 V1 => ?_) hs
  refine wpAny_mono (h1 σ1 s1 u H1 V1) (fun w s2 hw => ?_) fun _ _ y => y.ext e1
  obtain ⟨b, σ2, st2, ⟨i, T, l, vs, J, rfl, hi, start, keeps, turn, done⟩, e2, ⟨⟨m, news, r⟩, z⟩, li, rfl⟩ := hw
  have e12 := e1.trans e2
  obtain ⟨o, ho, hO, r'⟩ := r.lay hi
  have hpn : ∀ p ∈ c.pins, p.1 ≠ σ2 i := fun p hp => ((r.pins p hp).2.1 i (by rw [hi]; simp)).symm
  have hl : l < st2.nx := hO.1
  refine codeAny_forLoop (fun n s' => ∃ k σ' st' o, J k st' ∧ k ≤ vs.length ∧ n = vs.length - k ∧ Ext st2.nx σ2 σ' st'.nx ∧ IterObj T (σ' l) k o ∧ Rep g (c.pin (σ2 i, o)) σ' st' s') ?_ (vs.length) ⟨0, σ2, st2.del i, o, start, Nat.zero_le _, rfl, .refl, hO.2, ⟨m, news, r'⟩, z⟩
  rintro n s3 ⟨k, σ3, st3, o3, j, kl, rfl, e3, it, H3⟩
  have e123 := e12.trans e3
  by_cases hk : k < vs.length
  · refine next_item H3 (keeps k st3 j) it (List.getElem?_eq_getElem hk) hpn fun u h' o' W it' H4 => ?_
    refine wpAny_assign_Name (wpAny_mono (turn k _ st3 (σ2 i, o') (List.getElem?_eq_getElem hk) j σ3 _ u H4 W) (fun _ s5 hq => ?_) fun _ _ y => loopX O h0 (y.unpin.ext e123))
    obtain ⟨_, σ5, st5, q5, e5, H5, _⟩ := hq
    refine wpAny_mono (q5 σ5 s5 H5) (fun f s6 hf => ?_) fun _ _ y => loopX O h0 (y.unpin.ext (e123.trans e5))
    obtain ⟨a, σ6, st6, q6, e6, H6, y⟩ := hf
    have eall := (e123.trans e5).trans e6
    have itl : IterObj T (σ6 l) (k + 1) o' := by
      have : σ6 l = σ3 l := ((e3.trans e5).trans e6).eq l hl ▸ (e3.eq l hl).symm ▸ rfl
      rw [this]; exact it'
    cases a with
    | next => cases y; exact ⟨_, by omega, k + 1, σ6, st6, o', q6, hk, rfl, (e3.trans e5).trans e6, itl, H6⟩
    | cont => cases y; exact ⟨_, by omega, k + 1, σ6, st6, o', q6, hk, rfl, (e3.trans e5).trans e6, itl, H6⟩
    | brk => cases y; exact ⟨.next, σ6, st6, q6, eall, H6.unpin, rfl⟩
    | ret a => obtain ⟨v, rfl, V⟩ := y; exact ⟨.ret a, σ6, st6, q6, eall, H6.unpin, v, rfl, V⟩
  · obtain rfl : k = vs.length := Nat.le_antisymm kl (Nat.not_lt.mp hk)
    refine next_end H3 (keeps _ st3 j) it (List.getElem?_eq_none (Nat.le_refl _)) hpn hh fun h' H4 => ?_
    exact wpAny_execs_nil ⟨.next, σ3, st3, done st3 j, e123, H4, rfl⟩
end
end Sx

namespace Sx
section
variable {g : Gl} {d : Nat} {hp : HP} {nx : Nat} {Q : AV → HP → Nat → Prop} {X : String → HP → Nat → Prop}

theorem VRs.consts {σ : Nat → Addr} {nx : Nat} : ∀ (ds : List Value), VRs σ nx (ds.map AV.con) ds
  | [] => rfl
  | v :: ds => ⟨v, ds, rfl, rfl, VRs.consts ds⟩

/-- a def's call where the frame is laid with some values more (the defaults) -/
theorem fn_gen {f : Addr} {name qual : Str} {params : Arguments} {body : List Stmt} {scope : Scope} {dV kV doc pm cdv ct oc : Value} {an od : Option Addr} {osl : Array (Option Value)} {as as' : List AV} (G : g.Ok)
    (hK : g.K.lookup f = some ⟨oc, od, .func (fnOf name qual params body scope dV kV doc pm an cdv ct), osl⟩) (hcd : codeIn g.K cdv qual = true) (pn : List Str) {hp' : HP} {nx' : Nat}
    (hbind : ∀ (c : Cx) (A : Around) σ loc s us (F : List (Str × Value) → Shared → Prop) (E : Value → Shared → Prop), Rep g c σ ⟨loc, hp, nx⟩ s → VRs σ nx as us →
      (∀ σ' s' us', Ext nx σ σ' nx' → VRs σ' nx' as' us' → Rep g c σ' ⟨loc, hp', nx'⟩ s' → F (pn.zip us') s') → wpAny (model g.prog g.w) A (bindArgs (fnOf name qual params body scope dV kV doc pm an cdv ct) ⟨us, []⟩) F E s)
    (hloc : pn.all (fun y => scope.names.lookup y == some .local) = true) (hcell : ∀ x ∈ scope.names, x.2 ≠ .cell) (hco : scope.isCoroutine = false) (hgen : scope.isGenerator = false) (hk : scope.kind = .function)
    (hbody : ∀ A L outer outs pins, (mkC qual scope f cdv [] (fun _ => none) A L outer outs pins).Ok → Room A d → (∀ j, nx ≤ j → hp j = none) →
      SS g (mkC qual scope f cdv [] (fun _ => none) A L outer outs pins) body ⟨fun x => (pn.zip as').reverse.lookup x, hp', nx'⟩ (fun fl st' => Q (retOf fl) st'.hp st'.nx) (fun cls st' => X cls st'.hp st'.nx)) :
    Fn g (d + 1) f as hp nx Q X := by
  intro c loc σ s us O Rm H V
  have hbd : ∀ j, nx ≤ j → hp j = none := by
    obtain ⟨⟨m, news, r⟩, _⟩ := H
    intro j hj
    cases q : hp j with
    | none => rfl
    | some o => exact absurd (r.hp j o q).1 (Nat.not_lt.mpr hj)
  have X' := RepK G H
  have hkp : ∀ b o, g.base.get? b = some o → s.heap.get? b = some o := by obtain ⟨⟨m, news, r⟩, _⟩ := H; exact r.fr.keep
  refine codeAny_call_function (fd := fnOf name qual params body scope dV kV doc pm an cdv ct) (body := body) (by have := Rm.depth; omega) (X' _ _ hK) rfl hco hgen rfl (codeRec_of X' hcd) ?_
  refine hbind c _ σ loc s us _ _ H V fun σ₀ s₀ us' e₀ V' H' => ?_
  obtain ⟨⟨m, news, r⟩, z⟩ := H'
  have hl' : ∀ y ∈ pn.zip us', scope.names.lookup y.1 = some .local := fun y hy => by
    have := List.all_eq_true.mp hloc y.1 (List.of_mem_zip hy).1
    exact beq_iff_eq.mp this
  refine wpAny_newFunctionEnv hcell hl' (fun h₁ hns hsb₀ => ⟨(G.T.nolimit.keeps r.fr.keep).fresh _ hsb₀, codeAny_func ?_⟩) hk
  have hk₁ : ∀ b o, s₀.heap.get? b = some o → h₁.get? b = some o := fun b o e => hsb₀.extBut b o (Nat.ne_of_lt (Heap.lt_size e)) (Heap.get?_push_of_some _ e)
  have O' := callee_ok (qual := qual) (scope := scope) (f := f) (cdv := cdv) (cells := []) (cid := fun _ => none) (L := s₀.heap.objs.size) O r (Nat.le_refl _) hk O.frames
  obtain ⟨oL, r₁⟩ := callee_rep (qual := qual) (scope := scope) (f := f) (cdv := cdv) (A := c.A.deeper (envX qual scope s₀.heap.objs.size f cdv [])) (loc := fun x => (pn.zip as').reverse.lookup x) O r hns hk₁ (Nat.le_refl _) (locOf_ok V')
  have B := hbody _ _ _ _ _ O' Rm.deeper hbd σ₀ { s₀ with heap := h₁, toks := s₀.toks + (pn.zip us').length } ⟨⟨_, _, r₁⟩, z⟩
  refine wpAny_mono B (fun fl s' hq => ?_) fun e s' hq => ?_
  · obtain ⟨a, σ', st', q, e, ⟨⟨m', news', r'⟩, z'⟩, x⟩ := hq
    obtain ⟨nw2, r2, _⟩ := RepN.back O r' rfl rfl (Nat.ne_of_lt r.fr.ns.lt) r.fr.above r.loc r.cids e
    refine ⟨retOf a, σ', ⟨loc, st'.hp, st'.nx⟩, ⟨rfl, q⟩, e₀.trans e, ⟨⟨m, nw2, r2⟩, z'⟩, ?_⟩
    cases a with
    | next => cases x; rfl
    | brk => cases x; rfl
    | cont => cases x; rfl
    | ret a => obtain ⟨v, rfl, W⟩ := x; exact W
  · obtain ⟨cls, σ', st', q, ex, ⟨m', news', r', a, B', a0, rfl, hB, hk', P⟩, z'⟩ := hq
    refine leaves O' O'.frames P fun h' fl hs => ?_
    obtain ⟨nw3, r3, sub3⟩ := r'.slots (h' := h') (fun b o e => fl.1 b o (hB b o e)) (fun q hq n => fl.1 _ _ (hk' q hq n)) hs
    obtain ⟨nw2, r2, sub2⟩ := RepN.back O r3 rfl rfl (Nat.ne_of_lt r.fr.ns.lt) r.fr.above r.loc r.cids ex
    refine ⟨cls, σ', ⟨loc, st'.hp, st'.nx⟩, ⟨rfl, q⟩, e₀.trans ex, ⟨m, nw2, r2, a, B', a0, rfl, hB, fun p hp => ?_, .fly fl⟩, z'⟩
    intro n
    have nf : NoFrame (mkC qual scope f cdv [] (fun _ => none) (c.A.deeper (envX qual scope s₀.heap.objs.size f cdv [])) s₀.heap.objs.size (c.fenv :: c.outer) ((c.L, m) :: c.outs) c.pins) p := fun y hy => by
      rcases List.mem_cons.mp hy with rfl | hy
      · exact (r2.nw p hp).2.1
      · exact n y hy
    exact hk' p (sub3 p (sub2 p hp) nf) nf

/-- a default: the tuple of the defaults stands at the top -/
theorem fn_dflt {f : Addr} {name qual : Str} {params : Arguments} {body : List Stmt} {scope : Scope} {dV kV doc pm cdv ct oc : Value} {an od : Option Addr} {osl : Array (Option Value)} {as : List AV} (G : g.Ok)
    (hK : g.K.lookup f = some ⟨oc, od, .func (fnOf name qual params body scope dV kV doc pm an cdv ct), osl⟩) (hcd : codeIn g.K cdv qual = true) (pn : List Str) (ds : List Value)
    (hbind : ∀ s us, g.K.In s.heap → us.length = as.length → BindsTo s (fnOf name qual params body scope dV kV doc pm an cdv ct) ⟨us, []⟩ (pn.zip (us ++ ds)))
    (hloc : pn.all (fun y => scope.names.lookup y == some .local) = true) (hcell : ∀ x ∈ scope.names, x.2 ≠ .cell) (hco : scope.isCoroutine = false) (hgen : scope.isGenerator = false) (hk : scope.kind = .function)
    (hbody : ∀ A L outer outs pins, (mkC qual scope f cdv [] (fun _ => none) A L outer outs pins).Ok → Room A d → (∀ j, nx ≤ j → hp j = none) →
      SS g (mkC qual scope f cdv [] (fun _ => none) A L outer outs pins) body ⟨fun x => (pn.zip (as ++ ds.map AV.con)).reverse.lookup x, hp, nx⟩ (fun fl st' => Q (retOf fl) st'.hp st'.nx) (fun cls st' => X cls st'.hp st'.nx)) :
    Fn g (d + 1) f as hp nx Q X :=
  fn_gen G hK hcd pn (hp' := hp) (nx' := nx) (as' := as ++ ds.map AV.con) (fun c A σ loc s us F E H V k => hbind s us (RepK G H) V.length _ _ _ _ (k σ s _ .refl (V.append (VRs.consts ds)) H)) hloc hcell hco hgen hk hbody

/-- *args: the rest as a new tuple -/
theorem fn_star {f : Addr} {name qual : Str} {params : Arguments} {body : List Stmt} {scope : Scope} {dV kV doc pm cdv ct oc : Value} {an od : Option Addr} {osl : Array (Option Value)} {as rest : List AV} (G : g.Ok)
    (hK : g.K.lookup f = some ⟨oc, od, .func (fnOf name qual params body scope dV kV doc pm an cdv ct), osl⟩) (hcd : codeIn g.K cdv qual = true) (pn : List Str)
    (hbind : ∀ us vs : List Value, us.length = as.length → vs.length = rest.length → ∃ k, bindArgs (fnOf name qual params body scope dV kV doc pm an cdv ct) ⟨us ++ vs, []⟩ = (newTuple vs >>= k) ∧ ∀ t, k t = pure (pn.zip (us ++ [t])))
    (hr : rest.length ≤ 1000)
    (hloc : pn.all (fun y => scope.names.lookup y == some .local) = true) (hcell : ∀ x ∈ scope.names, x.2 ≠ .cell) (hco : scope.isCoroutine = false) (hgen : scope.isGenerator = false) (hk : scope.kind = .function)
    (hbody : ∀ A L outer outs pins, (mkC qual scope f cdv [] (fun _ => none) A L outer outs pins).Ok → Room A d → (∀ j, nx ≤ j → hp j = none) →
      SS g (mkC qual scope f cdv [] (fun _ => none) A L outer outs pins) body ⟨fun x => (pn.zip (as ++ [AV.ref nx])).reverse.lookup x, fun j => if j = nx then some (.tup rest) else hp j, nx + 1⟩ (fun fl st' => Q (retOf fl) st'.hp st'.nx) (fun cls st' => X cls st'.hp st'.nx)) :
    Fn g (d + 1) f (as ++ rest) hp nx Q X := by
  refine fn_gen G hK hcd pn (hp' := fun j => if j = nx then some (.tup rest) else hp j) (nx' := nx + 1) (as' := as ++ [AV.ref nx]) ?_ hloc hcell hco hgen hk hbody
  intro c A σ loc s us F E H V k
  obtain ⟨u1, u2, rfl, V1, V2⟩ : ∃ u1 u2, us = u1 ++ u2 ∧ VRs σ nx as u1 ∧ VRs σ nx rest u2 := by
    have e := V.length
    refine ⟨us.take as.length, us.drop as.length, (List.take_append_drop _ _).symm, ?_, ?_⟩
    · have := V.take as.length; rwa [List.take_left'] at this; rfl
    · have := V.drop as.length; rwa [List.drop_left'] at this; rfl
  obtain ⟨k', e1, e2⟩ := hbind u1 u2 V1.length V2.length
  rw [e1]
  obtain ⟨⟨m, news, r⟩, z⟩ := H
  refine wpAny_bind (newTuple_N r.fr r.nw (fun h' F' N' => ?_) (by rw [V2.length]; exact Nat.le_trans hr (by decide +kernel)))
  rw [e2]
  have ex : Ext nx σ (fun i => if i = nx then s.heap.objs.size else σ i) (nx + 1) := ⟨Nat.le_succ _, fun i hi => if_neg (Nat.ne_of_lt hi)⟩
  obtain ⟨r', e'⟩ := r.new (o := .tup rest) F' N' (fun p hp => Heap.lt_size (r.nw p hp).1) ⟨u2, 0, rfl, V2.mono ex⟩
  exact wpAny_pure (k _ _ _ e' ((V1.mono ex).append (VRs.one ⟨Nat.lt_succ_self _, by simp⟩)) ⟨⟨_, _, r'⟩, z⟩)

/-- the class called -/
theorem call_new {c : Cx} {st : AS} {C fI : Addr} {as : List AV} {Q : AV → AS → Prop} {X : String → AS → Prop} (G : g.Ok) (O : c.Ok) (R : Room c.A (d + 1)) (hm : makesIn g.K C = true) (hi : findIn g.K (.ref C) "__init__" = some (some (.ref fI))) (hf : isFn g.K (.ref fI) = true)
    (h : Fn g d fI (.ref (st.nx + 1) :: as) ((st.new (.sdict none)).new (.inst C st.nx)).hp (st.nx + 2) (fun a hp' nx' => a = .none ∧ Q (.ref (st.nx + 1)) ⟨st.loc, hp', nx'⟩) fun cls hp' nx' => X cls ⟨st.loc, hp', nx'⟩) : CallV g c (.ref C) as st Q X := by
  rintro σ s us ⟨⟨m, news, r⟩, z⟩ V
  refine call_cls r.fr G.X r.nw hm hi hf fun x dx h' F' N' l1 l2 => ?_
  have N1 : News g.base c.L h' ((dx, dictOf [] 0) :: news) := fun p hp => N' p (List.mem_cons_of_mem _ hp)
  obtain ⟨r1, e1⟩ := RepN.new r (o := .sdict none) F' N1 l1 ⟨0, rfl⟩
  have lx : ∀ p ∈ ((dx, dictOf [] 0) :: news), p.1 < x := fun p hp => by
    rcases List.mem_cons.mp hp with rfl | hp
    · exact l2
    · exact Nat.lt_trans (l1 p hp) l2
  obtain ⟨r2, e2⟩ := RepN.new r1 (o := .inst C st.nx) F' N' lx ⟨by show st.nx < st.nx + 1 + 1; omega, #[], by
    show (instObj C dx) = ⟨.ref C, some (if st.nx = st.nx + 1 then x else if st.nx = st.nx then dx else σ st.nx), .plain, #[]⟩
    rw [if_neg (by omega), if_pos rfl]⟩
  have e12 := e1.trans e2
  let c' : Cx := { c with A := c.A.under (.builtin "type.__call__" ⟨.ref C :: us, []⟩) }
  have O' : c'.Ok := { O with frames := O.frames }
  have R' : Room c'.A d := ⟨by have := R.depth; show c.A.depth + 1 + d < _; omega, by have := R.units; show c.A.units + 1 + 8 * d < _; omega, R.handled, R.guards⟩
  refine codeAny_mono (h c' st.loc _ { s with heap := h' } (.ref x :: us) O' R' ⟨⟨m, _, { r2 with }⟩, z⟩ ⟨_, _, rfl, ⟨by show st.nx + 1 < st.nx + 2; omega, by show Value.ref x = .ref (if st.nx + 1 = st.nx + 1 then x else _); rw [if_pos rfl]⟩, V.mono e12⟩) fun rr s' hr => ?_
  have back : ∀ {σ' st'}, Rep g c' σ' st' s' → Rep g c σ' st' s' := fun {σ' st'} ⟨⟨m, news, r⟩, z⟩ => ⟨⟨m, news, { r with }⟩, z⟩
  cases rr with
  | ok fl =>
    cases fl with
    | ret v =>
      obtain ⟨a, σ', st', ⟨el, rfl, q⟩, e, r', W⟩ := hr
      refine ⟨W, .ref (st.nx + 1), σ', st', by rw [← el] at q; exact q, e12.trans e, back r', ?_⟩
      refine ⟨Nat.lt_of_lt_of_le (by show st.nx + 1 < st.nx + 2; omega) e.le, ?_⟩
      rw [e.eq (st.nx + 1) (by show st.nx + 1 < st.nx + 2; omega)]
      show Value.ref x = .ref (if st.nx + 1 = st.nx + 1 then x else _)
      rw [if_pos rfl]
    | _ => exact hr.elim
  | error e =>
    obtain ⟨cls, σ', st', ⟨el, q⟩, e, ⟨m', n', r', a, B, a0, ea, hB, hk, P⟩, z'⟩ := hr
    refine ⟨cls, σ', st', by rw [← el] at q; exact q, e12.trans e, ⟨m', n', { r' with }, a, B, a0, ea, hB, hk, ?_⟩, z'⟩
    cases P with
    | new a b c d => exact .new a b c d
    | fly x => exact .fly x
    | held x => exact .held x
end
end Sx

namespace Sx
section
variable {g : Gl} {c : Cx} {st : AS} {X : String → AS → Prop} {pos : Pos}

theorem raisedX {σ : Nat → Addr} {s : Shared} {h' : Heap} {tk : Nat} {e : Addr} {cls : String} (O : c.Ok) (H : Rep g c σ st s) (x : Heap.NewExcOf s.heap h' e cls) (q : X cls st) : PostX g c σ st.nx X (.ref e) { s with heap := h', toks := tk } := by
  obtain ⟨⟨m, news, r⟩, z⟩ := H
  obtain ⟨ob, vs, he, hc, hd, h1⟩ := x.there
  have h0 : vs[0]? = some vs[0]! := by
    have := (Array.getElem?_eq_some_iff.mp h1).1
    have lt : 0 < vs.size := by omega
    rw [getElem!_pos vs 0 lt, Array.getElem?_eq_getElem lt]
  have bn : g.base.get? c.L = none := by
    cases q : g.base.get? c.L with
    | none => rfl
    | some o => exact absurd (Heap.lt_size q) (Nat.not_lt.mpr r.fr.above)
  have fsn : ∀ b ∈ c.L :: c.outs.map (·.1), g.base.get? b = none := fun b hb => by
    rcases List.mem_cons.mp hb with rfl | hb
    · exact bn
    · obtain ⟨p, hp, rfl⟩ := List.mem_map.mp hb
      obtain ⟨o, hm, _⟩ := r.outs p hp
      exact (r.nw _ hm).2.2
  refine ⟨cls, σ, st, q, .refl, ⟨m, news, r.grown x.keeps, e, hideAll s.heap (c.L :: c.outs.map (·.1)), vs[0]!, rfl, fun b o hb => ?_, fun p hp n => ?_, .new (fun b o hb => x.keeps b o (of_hideAll _ hb)) ?_ ?_ ⟨ob, _, he, hc, hd, h1, h0⟩⟩, z⟩
  · exact hideAll_get _ (r.fr.keep b o hb) fun hm => by have := fsn b hm; rw [hb] at this; cases this
  · refine hideAll_get _ (r.nw p hp).1 fun hm => ?_
    rcases List.mem_cons.mp hm with hm | hm
    · exact (r.nw p hp).2.1 hm
    · obtain ⟨y, hy, ey⟩ := List.mem_map.mp hm
      exact n y hy ey.symm
  · cases q : (hideAll s.heap (c.L :: c.outs.map (·.1))).get? e with
    | none => rfl
    | some o => have := of_hideAll _ q; rw [x.new] at this; cases this
  · have one : ∀ l : List Env, (∀ e ∈ l, e.scope.kind ≠ .module ∧ ∃ p ∈ c.outs, e.frame = some p.1) → h'.FunFrames (hideAll s.heap (c.L :: c.outs.map (·.1))) l := by
      intro l
      induction l with
      | nil => intro _; trivial
      | cons en l ih =>
        intro hl
        obtain ⟨a, p, hp, ef⟩ := hl en (.head _)
        obtain ⟨o, hm, es, ep, hd, _⟩ := r.outs p hp
        exact ⟨a, ⟨p.1, o, ef, hideAll_none _ (List.mem_cons_of_mem _ (List.mem_map_of_mem hp)), x.keeps _ _ (r.nw _ hm).1, fun vs q => by rw [hd] at q; cases q⟩, ih fun e he => hl e (List.mem_cons_of_mem _ he)⟩
    obtain ⟨oL, es, ep, hoL, hd, _⟩ := r.fr.ns
    exact ⟨by rw [O.fkind]; decide, ⟨c.L, oL, O.frame, hideAll_none _ (.head _), x.keeps _ _ hoL, fun vs q => by rw [hd] at q; cases q⟩, one c.outer O.outer⟩

/-! ints in lists -/
theorem VRs.ints {σ : Nat → Addr} {nx : Nat} : ∀ {ns : List Int} {us : List Value}, VRs σ nx (ns.map .int) us → IntsAre us ns
  | [], _, h => by cases h; exact .nil
  | n :: ns, _, ⟨v, r, h, ⟨t, e⟩, V⟩ => by subst h e; exact .cons n t (VRs.ints V)
theorem any_eq_mem {ns : List Int} {k : Int} : ns.any (· == k) = decide (k ∈ ns) := by
  induction ns with
  | nil => simp
  | cons n ns ih =>
    rw [List.any_cons, ih]
    by_cases h : n = k
    · subst h; simp
    · have h' : ¬ k = n := fun e => h e.symm
      simp [h, h']
theorem op_in_ints {l : Nat} {ns : List Int} {k : Int} {Q : AV → AS → Prop} (hl : st.hp l = some (.list (ns.map .int))) (q : Q (.bool (decide (k ∈ ns))) st) : Op2 g c (compareOp .In) (.int k) (.ref l) st Q X := by
  rintro σ s u v ⟨⟨m, news, r⟩, z⟩ ⟨t, rfl⟩ ⟨la, rfl⟩
  obtain ⟨us, n, hm, L, V⟩ := r.list hl
  exact in_list_ints L V.ints (by rw [any_eq_mem]; exact here q ⟨⟨m, news, r⟩, z⟩ rfl)
theorem op_notin_ints {l : Nat} {ns : List Int} {k : Int} {Q : AV → AS → Prop} (hl : st.hp l = some (.list (ns.map .int))) (q : Q (.bool (!decide (k ∈ ns))) st) : Op2 g c (compareOp .NotIn) (.int k) (.ref l) st Q X := by
  rintro σ s u v ⟨⟨m, news, r⟩, z⟩ ⟨t, rfl⟩ ⟨la, rfl⟩
  obtain ⟨us, n, hm, L, V⟩ := r.list hl
  exact notin_list_ints L V.ints (by rw [any_eq_mem]; exact here q ⟨⟨m, news, r⟩, z⟩ rfl)
theorem op_eq_ints {a b : Nat} {ns ms : List Int} {Q : AV → AS → Prop} (R : Room c.A 8) (ha : st.hp a = some (.list (ns.map .int))) (hb : st.hp b = some (.list (ms.map .int))) (q : Q (.bool (decide (ns = ms))) st) : Op2 g c (compareOp .Eq) (.ref a) (.ref b) st Q X := by
  rintro σ s u v ⟨⟨m, news, r⟩, z⟩ ⟨la, rfl⟩ ⟨lb, rfl⟩
  obtain ⟨us, n, hm, L, V⟩ := r.list ha
  obtain ⟨us', n', hm', L', V'⟩ := r.list hb
  exact eq_intsK L V.ints L' V'.ints (by have := R.units; omega) (here q ⟨⟨m, news, r⟩, z⟩ rfl)
theorem op_ne_ints {a b : Nat} {ns ms : List Int} {Q : AV → AS → Prop} (R : Room c.A 8) (ha : st.hp a = some (.list (ns.map .int))) (hb : st.hp b = some (.list (ms.map .int))) (q : Q (.bool (!decide (ns = ms))) st) : Op2 g c (compareOp .NotEq) (.ref a) (.ref b) st Q X := by
  rintro σ s u v ⟨⟨m, news, r⟩, z⟩ ⟨la, rfl⟩ ⟨lb, rfl⟩
  obtain ⟨us, n, hm, L, V⟩ := r.list ha
  obtain ⟨us', n', hm', L', V'⟩ := r.list hb
  exact ne_intsK L V.ints L' V'.ints (by have := R.units; omega) (here q ⟨⟨m, news, r⟩, z⟩ rfl)

/-! the class's own protocols -/
theorem RepN.instAt {σ : Nat → Addr} {m : Str → Option Value} {news : List (Addr × Obj)} {h : Heap} {i d : Nat} {C : Addr} {o : Option AV} (r : RepN g c σ st m news h) (hi : st.hp i = some (.inst C d)) (hd : st.hp d = some (.sdict o)) :
    ∃ sl od, InstAt h (σ i) ⟨.ref C, some (σ d), .plain, sl⟩ C (some od) ∧ OR σ st.nx (.sdict o) od := by
  obtain ⟨sl, od, m1, m2, R⟩ := r.inst hi hd
  exact ⟨sl, od, InstAt.of_news r.nw m1 m2, R⟩

theorem op_in_inst {i d : Nat} {C f : Addr} {o : Option AV} {a : AV} {Q : AV → AS → Prop} (G : g.Ok) (hi : st.hp i = some (.inst C d)) (hd : st.hp d = some (.sdict o)) (hs : findIn g.K (.ref C) "__contains__" = some (some (.ref f))) (hf : isFn g.K (.ref f) = true)
    (h : CallV g c (.ref f) [.ref i, a] st (fun b st' => ∃ v, b = .bool v ∧ Q (.bool v) st') X) : Op2 g c (compareOp .In) a (.ref i) st Q X := by
  rintro σ s u v ⟨⟨m, news, r⟩, z⟩ V ⟨la, rfl⟩
  obtain ⟨sl, od, I, R⟩ := r.instAt hi hd
  refine in_K r.fr G.X I hs hf (wpAny_mono (h σ s [.ref (σ i), u] ⟨⟨m, news, r⟩, z⟩ ⟨_, _, rfl, ⟨la, rfl⟩, _, _, rfl, V, rfl⟩) (fun w s' hw => ?_) fun _ _ x => x)
  obtain ⟨b, σ', st', ⟨v, rfl, q⟩, e, r', W⟩ := hw
  cases W
  exact wpAny_truthy_bool ⟨_, σ', st', q, e, r', rfl⟩
theorem op_notin_inst {i d : Nat} {C f : Addr} {o : Option AV} {a : AV} {Q : AV → AS → Prop} (G : g.Ok) (hi : st.hp i = some (.inst C d)) (hd : st.hp d = some (.sdict o)) (hs : findIn g.K (.ref C) "__contains__" = some (some (.ref f))) (hf : isFn g.K (.ref f) = true)
    (h : CallV g c (.ref f) [.ref i, a] st (fun b st' => ∃ v, b = .bool v ∧ Q (.bool (!v)) st') X) : Op2 g c (compareOp .NotIn) a (.ref i) st Q X := by
  rintro σ s u v ⟨⟨m, news, r⟩, z⟩ V ⟨la, rfl⟩
  obtain ⟨sl, od, I, R⟩ := r.instAt hi hd
  refine notIn_K r.fr G.X I hs hf (wpAny_mono (h σ s [.ref (σ i), u] ⟨⟨m, news, r⟩, z⟩ ⟨_, _, rfl, ⟨la, rfl⟩, _, _, rfl, V, rfl⟩) (fun w s' hw => ?_) fun _ _ x => x)
  obtain ⟨b, σ', st', ⟨v, rfl, q⟩, e, r', W⟩ := hw
  cases W
  exact wpAny_truthy_bool ⟨_, σ', st', q, e, r', rfl⟩

abbrev Cx.one (c : Cx) : Cx := { c with A := c.A.in1 }
theorem Cx.Ok.one (O : c.Ok) : c.one.Ok := { O with }
theorem rep_one {σ : Nat → Addr} {s : Shared} (r : Rep g c σ st s) : Rep g c.one σ st s := by
  obtain ⟨⟨m, news, r⟩, z⟩ := r
  exact ⟨⟨m, news, { r with }⟩, z⟩
theorem rep_unone {σ : Nat → Addr} {s : Shared} (r : Rep g c.one σ st s) : Rep g c σ st s := by
  obtain ⟨⟨m, news, r⟩, z⟩ := r
  exact ⟨⟨m, news, { r with }⟩, z⟩
theorem postX_unone {σ : Nat → Addr} {s : Shared} {nx : Nat} {e : Value} (x : PostX g c.one σ nx X e s) : PostX g c σ nx X e s := by
  obtain ⟨cls, σ', st', q, ex, ⟨m, news, r, a, B, a0, ea, hB, hk, P⟩, z⟩ := x
  refine ⟨cls, σ', st', q, ex, ⟨m, news, { r with }, a, B, a0, ea, hB, hk, ?_⟩, z⟩
  cases P with
  | new a b c d => exact .new a b c d
  | fly x => exact .fly x
  | held x => exact .held x
theorem Room.one {A : Around} {d : Nat} (r : Room A (d + 1)) : Room A.in1 d := ⟨by have := r.depth; show A.depth + d < _; omega, by have := r.units; show A.units + 1 + 8 * d < _; omega, r.handled, r.guards⟩

theorem len_inst {i d : Nat} {C f : Addr} {o : Option AV} {Q : AV → AS → Prop} (G : g.Ok) (hi : st.hp i = some (.inst C d)) (hd : st.hp d = some (.sdict o)) (hs : findIn g.K (.ref C) "__len__" = some (some (.ref f))) (hf : isFn g.K (.ref f) = true)
    (h : CallV g c.one (.ref f) [.ref i] st (fun b st' => ∃ n : Int, b = .int n ∧ (0 ≤ n ∧ n < 2 ^ 63) ∧ Q (.int n) st') X) : CallV g c (.builtin "len") [.ref i] st Q X := by
  rintro σ s us ⟨⟨m, news, r⟩, z⟩ ⟨_, _, rfl, ⟨la, rfl⟩, rfl⟩
  obtain ⟨sl, od, I, R⟩ := r.instAt hi hd
  refine len_K r.fr G.X I hs hf (wpAny_mono (h σ s [.ref (σ i)] (rep_one ⟨⟨m, news, r⟩, z⟩) ⟨_, _, rfl, ⟨la, rfl⟩, rfl⟩) (fun w s' hw => ?_) fun _ _ x => postX_unone x)
  obtain ⟨b, σ', st', ⟨n, rfl, hn, q⟩, e, r', t, rfl⟩ := hw
  exact ⟨hn, _, σ', st', q, e, rep_unone r', ⟨_, rfl⟩⟩

theorem len_body {M' : Program} {w : World} {A : Around} {E : Value → Shared → Prop} {F : Value → Shared → Prop} {K : Frag} {s : Shared} {x C f : Addr} {ox : Obj} {od : Option Obj} (X : K.In s.heap) (I : InstAt s.heap x ox C od) (hs : findIn K (.ref C) "__len__" = some (some (.ref f))) (hf : isFn K (.ref f) = true)
    (h : wpAny (model M' w) A (call (.ref f) [.ref x]) (fun v s' => ∃ n t, v = .int n t ∧ (0 ≤ n ∧ n < 2 ^ 63) ∧ ∀ t', F (.int n t') { s' with toks := s'.toks + 1 }) E s) : wpAny (model M' w) A (Builtin.«len» ⟨[.ref x], []⟩) (fun fin s' => ∃ v, fin = .done (.ret v) ∧ F v s') E s := by
  delta Builtin.«len»
  refine wpAny_bind (m := oneArg "len" _) (wpAny_pure (wpAny_bind (m := callSpecial? (.ref x) (Str.ofString "__len__")) ?_))
  refine special_fn X I hs (beq_iff_eq.mp hf) (wpAny_mono h ?_ fun _ _ y => y)
  rintro v s' ⟨n, t, rfl, ⟨h0, h1⟩, hq⟩
  have e0 : ¬ n < 0 := by omega
  have e1 : ¬ n ≥ 2 ^ 63 := by omega
  refine wpAny_bind (wpAny_holding (wpAny_pure (wpAny_bind (wpAny_letGo ?_))))
  show wpAny _ _ (if n < 0 then _ else if n ≥ 2 ^ 63 then _ else _) _ _ _
  rw [if_neg e0, if_neg e1]
  exact wpAny_bind (wpAny_mkInt (wpAny_pure ⟨_, rfl, hq _⟩))

theorem tr1_inst {i d : Nat} {C f : Addr} {o : Option AV} {Q : Bool → AS → Prop} (G : g.Ok) (hi : st.hp i = some (.inst C d)) (hd : st.hp d = some (.sdict o)) (hb : findIn g.K (.ref C) "__bool__" = some none) (hs : findIn g.K (.ref C) "__len__" = some (some (.ref f))) (hf : isFn g.K (.ref f) = true)
    (h : CallV g c.one (.ref f) [.ref i] st (fun b st' => ∃ n : Int, b = .int n ∧ (0 ≤ n ∧ n < 2 ^ 63) ∧ Q (n != 0) st') X) : Tr1 g c (.ref i) st Q X := by
  rintro σ s u ⟨⟨m, news, r⟩, z⟩ ⟨la, rfl⟩
  obtain ⟨sl, od, I, R⟩ := r.instAt hi hd
  have K := G.X.keeps r.fr.keep
  unfold truthy
  refine wpAny_bind (m := callSpecial? (.ref (σ i)) (Str.ofString "__bool__")) (wpAny_bind (wpAny_bind (I.type.here ((looks_findIn K hb).here (wpAny_pure ?_)))))
  refine wpAny_bind (wpAny_bind (I.type.here ((looks_findIn K hs).here ?_)))
  rw [if_neg (by simp)]
  have key : wpAny (model g.prog g.w) c.A (runValue (.builtin "len" ⟨[.ref (σ i)], []⟩)) (PostOk g c VR σ st.nx (fun b st' => ∃ n : Int, b = .int n ∧ Q (n != 0) st')) (PostX g c σ st.nx X) s := by
    refine wpAny_runValue (codeAny_builtin entry_len ?_)
    rw [Around.under_plainId plain_len _]
    refine wpAny_mono (len_body (F := PostOk g c VR σ st.nx (fun b st' => ∃ n : Int, b = .int n ∧ Q (n != 0) st')) K I hs hf (wpAny_mono (h σ s [.ref (σ i)] (rep_one ⟨⟨m, news, r⟩, z⟩) ⟨_, _, rfl, ⟨la, rfl⟩, rfl⟩) (fun w s' hw => ?_) fun _ _ x => postX_unone x))
      (fun fin s' h' => by obtain ⟨r, rfl, hq⟩ := h'; exact hq) fun _ _ e => e
    obtain ⟨b, σ', st', ⟨n, rfl, hn, q⟩, e, r', t, rfl⟩ := hw
    exact ⟨n, t, rfl, hn, fun t' => ⟨_, σ', st', ⟨n, rfl, q⟩, e, rep_unone r', ⟨_, rfl⟩⟩⟩
  refine wpAny_bind (wpAny_mono key (fun w s' hw => ?_) fun _ _ x => x)
  obtain ⟨b, σ', st', ⟨n, rfl, q⟩, e, r', t, rfl⟩ := hw
  exact wpAny_pure ⟨_, σ', st', q, e, r', rfl⟩
end
end Sx

namespace Sx
section
variable {g : Gl} {c : Cx} {st : AS} {X : String → AS → Prop} {pos : Pos} {Q : AV → AS → Prop}

theorem next_of {T : Bool} : ∃ v, typeLookup (.type (if T then "tuple_iterator" else "list_iterator")) "__next__" = pure (some v) := by
  cases T with
  | true => exact ⟨_, F.slot_tuple_iterator_next.lookup⟩
  | false => exact ⟨_, slot_listiter_next.lookup⟩
theorem pi_inst {i d : Nat} {C f : Addr} {o : Option AV} (G : g.Ok) (hi : st.hp i = some (.inst C d)) (hd : st.hp d = some (.sdict o)) (hs : findIn g.K (.ref C) "__iter__" = some (some (.ref f))) (hf : isFn g.K (.ref f) = true)
    (h : CallV g c (.ref f) [.ref i] st (fun b st' => ∃ j T l k, b = .ref j ∧ st'.hp j = some (.iter T l k) ∧ Q b st') X) : PI g c (.ref i) st Q X := by
  rintro σ s u ⟨⟨m, news, r⟩, z⟩ ⟨la, rfl⟩
  obtain ⟨sl, od, I, R⟩ := r.instAt hi hd
  refine owit_iter r.fr G.X I hs hf (wpAny_mono (h σ s [.ref (σ i)] ⟨⟨m, news, r⟩, z⟩ ⟨_, _, rfl, ⟨la, rfl⟩, rfl⟩) (fun w s' hw => ?_) fun _ _ x => x)
  obtain ⟨b, σ', st', ⟨j, T, l, k, rfl, hj, q⟩, e, ⟨⟨m', n', r'⟩, z'⟩, lj, rfl⟩ := hw
  obtain ⟨ob, _, ho, hO⟩ := r'.obj hj
  obtain ⟨v, hv⟩ := next_of (T := T)
  exact wpAny_specialOf (T := if T then "tuple_iterator" else "list_iterator") ⟨ob, ho, hO.2.1⟩ hv ⟨_, σ', st', q, e, ⟨⟨m', n', r'⟩, z'⟩, lj, rfl⟩

theorem my_entry_iter : entryFor table "iter" = some Builtin.«iter» := entryFor_of_fast (by kernel_rfl)
theorem call_iter {a : AV} (h : PI g c.one a st Q X) : CallV g c (.builtin "iter") [a] st Q X := by
  rintro σ s us H ⟨u, _, rfl, V, rfl⟩
  refine call_function_entry (by decide +kernel) (by decide +kernel) my_entry_iter (by unfold argsOk; kernel_rfl) ?_
  delta Builtin.«iter»
  refine wpAny_bind (m := someArgs "iter" 1 2 _) (wpAny_of_eq (a := [u]) (by first | rfl | kernel_rfl!) ?_)
  show wpAny _ _ (pyIter u >>= _) _ _ _
  refine wpAny_bind (wpAny_mono (h σ s u (rep_one H) V) (fun w s' hw => ?_) fun _ _ x => postX_unone x)
  obtain ⟨b, σ', st', q, e, r', W⟩ := hw
  exact wpAny_pure ⟨w, rfl, b, σ', st', q, e, rep_unone r', W⟩

theorem op_inplace {op : Operator} {i d : Nat} {C f : Addr} {o : Option AV} {a : AV} (G : g.Ok) (hi : st.hp i = some (.inst C d)) (hd : st.hp d = some (.sdict o)) (hc : selfFirst g.K C = true) (hs : findIn g.K (.ref C) (dunderI op.info.2) = some (some (.ref f))) (hf : isFn g.K (.ref f) = true)
    (h : CallV g c (.ref f) [.ref i, a] st (fun b st' => (∃ j, b = .ref j) ∧ Q b st') X) : Op2 g c (inplaceOp op) (.ref i) a st Q X := by
  rintro σ s u v ⟨⟨m, news, r⟩, z⟩ ⟨la, rfl⟩ V
  obtain ⟨sl, od, I, R⟩ := r.instAt hi hd
  refine ksp_inplace r.fr G.X I hc hs hf (wpAny_mono (h σ s [.ref (σ i), v] ⟨⟨m, news, r⟩, z⟩ ⟨_, _, rfl, ⟨la, rfl⟩, _, _, rfl, V, rfl⟩) (fun w s' hw => ?_) fun _ _ x => x)
  obtain ⟨b, σ', st', ⟨⟨j, rfl⟩, q⟩, e, r', lj, rfl⟩ := hw
  exact ⟨_, σ', st', q, e, r', lj, rfl⟩

theorem st_aug {x : Str} {px : Pos} {e : Expr} {op : Operator} {Q : AF → AS → Prop} (O : c.Ok) {a : AV} (h0 : c.cd = none) (hx : st.loc x = some a)
    (h : EV g c e st (fun b st1 => Op2 g c (inplaceOp op) a b st1 (fun r st2 => SN g c x r st2 (fun st3 => Q .next st3) X) X) X) (hl : c.env.kindOf x = some .local := by rfl) : ST g c (.AugAssign (.Name x px) op e pos) st Q X := by
  rintro σ s H
  obtain ⟨⟨m, news, r⟩, z⟩ := id H
  have L := r.loc
  unfold Loc at L
  rw [h0] at L
  obtain ⟨v, hv, V⟩ := L x a hx
  refine wpAny_AugAssign_Name (wpAny_loadName_local O.kind hl (by rw [(O.own h0).2]; exact r.fr.ns) hv ?_)
  refine seq h H fun u s1 b σ1 st1 h1 e1 H1 V1 => ?_
  refine wpAny_mono (h1 σ1 s1 v u H1 (V.mono e1) V1) (fun w s2 hw => ?_) fun _ _ y => y.ext e1
  obtain ⟨r2, σ2, st2, q2, e2, H2, V2⟩ := hw
  refine wpAny_mono (q2 σ2 s2 w H2 V2) (fun _ s3 hq => ?_) fun _ _ y => y.ext (e1.trans e2)
  obtain ⟨_, σ3, st3, q3, e3, H3, _⟩ := hq
  exact ⟨.next, σ3, st3, q3, (e1.trans e2).trans e3, H3, rfl⟩

/-! refusals -/
theorem int_no_iter : typeLookup (.type "int") "__iter__" = pure none := by rw [typeLookup_type, builtinLookup_eq_fast]; kernel_rfl
theorem int_no_getitem : typeLookup (.type "int") "__getitem__" = pure none := by rw [typeLookup_type, builtinLookup_eq_fast]; kernel_rfl
theorem int_no_contains : typeLookup (.type "int") "__contains__" = pure none := by rw [typeLookup_type, builtinLookup_eq_fast]; kernel_rfl
theorem pi_int {k : Int} (O : c.Ok) (hh : c.A.handled = none) (q : X "TypeError" st) : PI g c (.int k) st Q X := by
  rintro σ s u H ⟨t, rfl⟩
  unfold pyIter
  refine wpAny_bind (wpAny_specialOf (typeIs_int s k t) int_no_iter ?_)
  refine wpAny_bind (wpAny_specialOf (typeIs_int s k t) int_no_getitem ?_)
  refine wpAny_bind (wpAny_rule ?_)
  refine wpAny_bind (wpAny_typeNameOf_int ?_)
  exact wpAny_raiseErrorMade plainExc_TypeError hh (fun h' tk e x => raisedX O H x.of q) (by decide +kernel)
theorem contains_int {k : Int} {a : AV} {R : (Nat → Addr) → Nat → Bool → Bool → Prop} {Q : Bool → AS → Prop} (O : c.Ok) (hh : c.A.handled = none) (q : X "TypeError" st) {σ : Nat → Addr} {s : Shared} {t : Tok} {u : Value} (H : Rep g c σ st s) :
    wpAny (model g.prog g.w) c.A (contains (.int k t) u) (PostOk g c R σ st.nx Q) (PostX g c σ st.nx X) s := by
  have T : ∀ s : Shared, s.TypeIs (.int k t) "int" := fun s => typeIs_int s k t
  unfold contains
  refine wpAny_holding ?_
  show wpAny _ _ (do if (← specialOf (.int k t) "__contains__") == some .none then _ else _) _ _ _
  refine wpAny_bind (wpAny_specialOf (T s) int_no_contains ?_)
  rw [if_neg (by decide)]
  unfold callSpecialUnlessNone?
  refine wpAny_bind (wpAny_bind (wpAny_specialOf (T s) int_no_contains (wpAny_pure ?_)))
  refine wpAny_bind (wpAny_rule ?_)
  refine wpAny_bind (wpAny_tryCatch ?_)
  unfold pyIter
  refine wpAny_bind (wpAny_specialOf (T s) int_no_iter ?_)
  refine wpAny_bind (wpAny_specialOf (T s) int_no_getitem ?_)
  refine wpAny_bind (wpAny_rule ?_)
  refine wpAny_bind (wpAny_typeNameOf_int ?_)
  refine wpAny_raiseErrorMade plainExc_TypeError hh (fun h' tk e x => ?_) (by decide +kernel)
  obtain ⟨ob, t', he, hc, _⟩ := x.there
  refine wpAny_bind (wpAny_isInstance (T := "TypeError") (b := true) ⟨ob, he, hc⟩ (by rw [isSubtype_type]; kernel_rfl) ?_)
  rw [if_pos rfl]
  refine wpAny_bind (wpAny_typeNameOf_int ?_)
  have H' : Rep g c σ st { s with heap := h', toks := tk } := by
    obtain ⟨⟨m, news, r⟩, z⟩ := H
    exact ⟨⟨m, news, r.grown x.keeps⟩, z⟩
  exact wpAny_raiseErrorMade plainExc_TypeError hh (fun h'' tk' e' x' => raisedX O H' x'.of q) (by decide +kernel)
theorem op_in_int {k : Int} {a : AV} (O : c.Ok) (hh : c.A.handled = none) (q : X "TypeError" st) : Op2 g c (compareOp .In) a (.int k) st Q X := by
  rintro σ s u v H V ⟨t, rfl⟩
  show wpAny _ _ (do return Value.bool (← contains (.int k t) u)) _ _ _
  exact wpAny_bind (wpAny_mono (contains_int (R := fun _ _ _ _ => False) (Q := fun _ _ => False) (a := a) O hh q H) (fun _ _ ⟨_, _, _, hf, _⟩ => hf.elim) fun _ _ x => x)
theorem op_notin_int {k : Int} {a : AV} (O : c.Ok) (hh : c.A.handled = none) (q : X "TypeError" st) : Op2 g c (compareOp .NotIn) a (.int k) st Q X := by
  rintro σ s u v H V ⟨t, rfl⟩
  show wpAny _ _ (do return Value.bool (!(← contains (.int k t) u))) _ _ _
  exact wpAny_bind (wpAny_mono (contains_int (R := fun _ _ _ _ => False) (Q := fun _ _ => False) (a := a) O hh q H) (fun _ _ ⟨_, _, _, hf, _⟩ => hf.elim) fun _ _ x => x)

/-- a method that a list lacks -/
theorem ev_nometh {es : List Expr} {o : Expr} {name : Str} {apos : Pos} {pl : Sem Bool} (O : c.Ok) (hh : c.A.handled = none) (hmiss : typeLookup (.type "list") name = pure none) (hname : (["__module__", "__name__", "__qualname__", "__doc__", "__annotations__"] : List Str).contains name = false) (hsz : name.length + 100 ≤ sizeLine)
    (hv : EV g c o st (fun a st1 => ∃ l vs, a = .ref l ∧ st1.hp l = some (.list vs) ∧ X "AttributeError" st1) X)
    (hc : eval (.Call (.Attribute o name apos) es [] pos) c.env = (do
      let ov ← eval o c.env
      standAt apos.atName
      let (f, first) ← holding [ov] (getMethod ov name pl)
      callWith pos f first (backTo pos (starEach es c.env)) []) := by rfl) : EV g c (.Call (.Attribute o name apos) es [] pos) st Q X := fun σ s H => by
  refine MethodCall_ (seq hv H fun u s1 a σ1 st1 h1 e1 H1 V1 => ?_) hc
  obtain ⟨l, vs, rfl, hl, q⟩ := h1
  obtain ⟨la, rfl⟩ := V1
  obtain ⟨⟨m, news, r⟩, z⟩ := id H1
  obtain ⟨us, n, hm, L, V⟩ := r.list hl
  have go := (r.nw _ hm).1
  have fin : ∀ h' tk e, Heap.NewExcOf s1.heap h' e "AttributeError" → PostX g c σ st.nx X (.ref e) { s1 with heap := h', toks := tk } := fun h' tk e x => (raisedX O H1 x q).ext e1
  generalize PostX g c σ st.nx X = E at fin
  obtain ⟨ga, hg, hcan⟩ := PySem.F.plainAttrs_list.ga
  have hT1 : s1.TypeIs (.ref (σ1 l)) "list" := ⟨_, go, rfl⟩
  unfold getMethod
  refine wpAny_bind (wpAny_specialOf hT1 hg ?_)
  show wpAny _ _ (if (Manifest.canonical ga != "object.__getattribute__") = true then _ else _) _ _ _
  rw [hcan, if_neg Bool.false_ne_true]
  refine wpAny_bind (wpAny_specialOf hT1 PySem.F.plainAttrs_list.noGetattr ?_)
  refine wpAny_bind (wpAny_specialOf hT1 hmiss ?_)
  refine wpAny_bind ?_
  obtain ⟨hp, gg, d, tk, os⟩ := s1
  have hT : ∀ tk', (⟨hp, gg, d, tk', os⟩ : Shared).TypeIs (.ref (σ1 l)) "list" := fun _ => ⟨_, go, rfl⟩
  have f1 := sub_AttributeError
  have f3 := F.slot_list_getattribute.lookup
  have f4 := F.slot_list_getattribute.bind (.ref (σ1 l))
  have f5 := am_list_getattr_none
  unfold getAttr getAttrBy
  repeat (any_goals (first | assumption | exact hT _ | ((with_reducible show wpAny _ _ (call (Value.builtin "list.__getattribute__") _ _) _ _ _); refine call_meets F.slot_list_getattribute (hT _) am_entry_list_getattribute (F.args_list_getattribute_2 _ _) (meets_getattribute_miss_list (σ1 l) us.toArray n #[] name _ hmiss hname hsz) ⟨go, hh, fun h' tk' e hx' => ?_⟩) | wp_step))
  obtain ⟨t', u', he⟩ := hx'.there
  show wpAny _ _ (getattributeRaised _ _ _ _ _ _ _) _ _ _
  unfold getattributeRaised
  repeat (any_goals (first | assumption | wp_step))
  exact fin h' tk' e hx'.of
end
end Sx

namespace Sx
section
variable {g : Gl} {c : Cx} {st : AS} {X : String → AS → Prop} {pos : Pos}

theorem st_expr {e : Expr} {Q : AF → AS → Prop} (h : EV g c e st (fun _ st' => Q .next st') X) (hi : interactive c.env = false := by rfl) (hs : swapsWith e none pos.line c.env = pure false := by rfl) : ST g c (.Expr e pos) st Q X := fun σ s H =>
  wpAny_Expr_any (seq h H fun u s1 a σ1 st1 h1 e1 H1 V1 => ⟨.next, σ1, st1, h1, e1, H1, rfl⟩) hi hs

/-- for over an empty tuple of the text -/
theorem st_for0 {x : Str} {px : Pos} {iter : Expr} {body : List Stmt} {Q : AF → AS → Prop} {T : Addr} {ob : Obj} (G : g.Ok) (O : c.Ok) (h0 : c.cd = none) (hh : c.A.handled = none)
    (hT : g.K.lookup T = some ob) (hc : ob.cls = .type "tuple") (hd : ob.data = .seq #[] 0)
    (h : EV g c iter st (fun a st1 => a = .con (.ref T) ∧ Q .next st1) X)
    (hs : ∀ v, foldedSetIterable iter c.env v = pure v := by intro _; rfl) : ST g c (.For (.Name x px) iter body [] pos) st Q X := fun σ s H => by
  refine wpAny_For (seq h H fun u s1 a σ1 st1 h1 e1 H1 V1 => ?_) hs
  obtain ⟨rfl, q⟩ := h1
  obtain rfl : u = .ref T := V1
  have XK := RepK G H1
  obtain ⟨⟨m, news, r⟩, z⟩ := H1
  have go := XK _ _ hT
  refine wpAny_pyIter_tuple ⟨_, go, hc, 0, hd⟩ ?_
  have F := r.fr.push { cls := .type "tuple_iterator", data := .fields #[.ref T, .int 0 0] }
  have N := r.nw.push r.fr { cls := .type "tuple_iterator", data := .fields #[.ref T, .int 0 0] }
  have lt : ∀ p ∈ news, p.1 < s1.heap.objs.size := fun p hp => Heap.lt_size (r.nw p hp).1
  have r1 : RepN g (c.pin (s1.heap.objs.size, { cls := .type "tuple_iterator", data := .fields #[.ref T, .int 0 0] })) σ1 st1 m ((s1.heap.objs.size, { cls := .type "tuple_iterator", data := .fields #[.ref T, .int 0 0] }) :: news) (s1.heap.push { cls := .type "tuple_iterator", data := .fields #[.ref T, .int 0 0] }) := {
    fr := F
    nw := N
    loc := r.loc
    hp := fun i o hi => let ⟨a, ob, b, d⟩ := r.hp i o hi; ⟨a, ob, List.mem_cons_of_mem _ b, d⟩
    inj := r.inj
    lo := r.lo
    outs := fun p hp => let ⟨o, a, b⟩ := r.outs p hp; ⟨o, List.mem_cons_of_mem _ a, b⟩
    sep := r.sep
    cids := r.cids
    pins := fun p hp => by
      rcases List.mem_cons.mp hp with rfl | hp
      · refine ⟨.head _, fun i hi => ?_, fun q hq => ?_⟩
        · obtain ⟨o, ho⟩ := Option.ne_none_iff_exists'.mp hi
          obtain ⟨_, ob, hm, _⟩ := r.hp i o ho
          exact Nat.ne_of_lt (lt _ hm)
        · obtain ⟨o, hm, _⟩ := r.outs q hq
          exact (Nat.ne_of_lt (lt _ hm)).symm
      · obtain ⟨p1, p2, p3⟩ := r.pins p hp
        exact ⟨List.mem_cons_of_mem _ p1, p2, p3⟩ }
  have hpn : ∀ p ∈ c.pins, p.1 ≠ s1.heap.objs.size := fun p hp => Nat.ne_of_lt (lt _ (r.pins p hp).1)
  refine codeAny_forLoop (fun n s' => s' = { s1 with heap := s1.heap.push { cls := .type "tuple_iterator", data := .fields #[.ref T, .int 0 0] } }) ?_ 0 rfl
  rintro n s3 rfl
  refine wpAny_pyNext_tuple_end (i := 0) (t := T) (items := #[]) hh ⟨_, Heap.get?_push_size _ rfl, rfl, rfl⟩ ⟨_, Heap.get?_push_of_some _ go, hc, 0, hd⟩ (by rfl) fun h' hs => ?_
  obtain ⟨n', r'⟩ := r1.drop hpn hs
  exact wpAny_execs_nil ⟨.next, σ1, st1, q, e1, ⟨⟨m, n', r'⟩, z⟩, rfl⟩
end
end Sx

namespace Sx
section
variable {g : Gl} {c : Cx} {st : AS} {X : String → AS → Prop} {pos : Pos}

theorem call_range {n : Nat} {Q : AV → AS → Prop} (q : Q (.ref st.nx) (st.new (.range n))) : CallV g c (.type "range") [.int n] st Q X := by
  rintro σ s us ⟨⟨m, news, r⟩, z⟩ ⟨_, _, rfl, ⟨t, rfl⟩, rfl⟩
  refine call_range_1 ?_
  obtain ⟨r', e'⟩ := r.new (o := .range n) (r.fr.push { cls := .type "range", data := .fields #[.int 0 s.toks, .int n t, .int 1 (s.toks + 1)] }) (r.nw.push r.fr _) (fun p hp => Heap.lt_size (r.nw p hp).1) ⟨_, _, _, rfl⟩
  exact ⟨_, _, _, q, e', ⟨⟨_, _, r'⟩, z⟩, Nat.lt_succ_self _, by simp⟩

theorem rsize (n : Nat) : Builtin.Range.rangeSize 0 (n : Int) 1 = (n : Int) := by
  unfold Builtin.Range.rangeSize
  simp
  omega
theorem rsmall {n : Nat} (h : n ≤ 1000) : Builtin.Range.small 0 (n : Int) 1 = true := by
  unfold Builtin.Range.small Builtin.Range.rangeFitsLong
  rw [rsize]
  simp
  omega
theorem pi_range {i n : Nat} {Q : AV → AS → Prop} (hl : st.hp i = some (.range n)) (hn : n ≤ 1000) (q : Q (.ref st.nx) (st.new (.riter 0 n))) : PI g c (.ref i) st Q X := by
  rintro σ s u ⟨⟨m, news, r⟩, z⟩ ⟨la, rfl⟩
  obtain ⟨ob, hm, ho, t, u, v, rfl⟩ := r.obj hl
  refine wpAny_pyIter_range (a := 0) (b := n) (c := 1) ho (rsmall hn) ?_
  rw [rsize]
  obtain ⟨r', e'⟩ := r.new (o := .riter 0 n) (r.fr.push { cls := .type "range_iterator", data := .fields #[rawInt 0, rawInt n, rawInt 1] }) (r.nw.push r.fr _) (fun p hp => Heap.lt_size (r.nw p hp).1) (by show _ = _; simp)
  exact ⟨_, _, _, q, e', ⟨⟨_, _, r'⟩, z⟩, Nat.lt_succ_self _, by simp⟩

/-- what is gone through -/
inductive Src where
  | seq (T : Bool) (l : Nat) (vs : List AV)
  | rng (n : Nat)
def Src.len : Src → Nat
  | .seq _ _ vs => vs.length
  | .rng n => n
def Src.item : Src → Nat → Option AV
  | .seq _ _ vs, k => vs[k]?
  | .rng n, k => if k < n then some (.int k) else none
def Src.iter : Src → AO
  | .seq T l _ => .iter T l 0
  | .rng n => .riter 0 n
def Src.Keeps (st : AS) : Src → Prop
  | .seq T l vs => Seq st T l vs
  | .rng _ => True
def Src.At (σ : Nat → Addr) (k : Nat) (o : Obj) : Src → Prop
  | .seq T l _ => IterObj T (σ l) k o
  | .rng n => o = { cls := .type "range_iterator", dict := none, data := .fields #[rawInt k, rawInt ((n : Int) - (k : Nat)), rawInt 1], slots := #[] }
def Src.Low (nx : Nat) : Src → Prop
  | .seq _ l _ => l < nx
  | .rng _ => True
theorem Src.at_ext {S : Src} {σ σ' : Nat → Addr} {n n' k : Nat} {o : Obj} (h : S.At σ k o) (l : S.Low n) (e : Ext n σ σ' n') : S.At σ' k o := by
  cases S with
  | seq T i vs => show IterObj T (σ' i) k o; rw [e.eq i l]; exact h
  | rng => exact h
theorem Src.start {S : Src} {σ : Nat → Addr} {n : Nat} {o : Obj} (h : OR σ n S.iter o) : S.At σ 0 o ∧ S.Low n := by
  cases S with
  | seq T i vs => exact ⟨h.2, h.1⟩
  | rng => exact ⟨h, trivial⟩
theorem Src.next {S : Src} {σ : Nat → Addr} {s : Shared} {k : Nat} {v : AV} {I : Addr} {o : Obj} {F : Option Value → Shared → Prop} {E : Value → Shared → Prop} (H : Rep g (c.pin (I, o)) σ st s) (hl : S.Keeps st) (it : S.At σ k o)
    (hk : S.item k = some v) (hp : ∀ p ∈ c.pins, p.1 ≠ I) (h : ∀ u s' o', VR σ st.nx v u → S.At σ (k + 1) o' → Rep g (c.pin (I, o')) σ st s' → F (some u) s') :
    wpAny (model g.prog g.w) c.A (pyNext (.ref I)) F E s := by
  cases S with
  | seq T i vs => exact next_item H hl it hk hp fun u h' o' a b d => h u _ o' a b d
  | rng n =>
    obtain ⟨⟨m, news, r⟩, z⟩ := H
    obtain rfl : o = _ := it
    have lt : k < n := by
      by_cases e : k < n
      · exact e
      · have hk : (if k < n then some (AV.int k) else none) = some v := hk
        rw [if_neg e] at hk; cases hk
    have hv : v = .int k := by
      have hk : (if k < n then some (AV.int k) else none) = some v := hk
      rw [if_pos lt] at hk; exact (Option.some.inj hk).symm
    subst hv
    have go := (r.nw _ (r.pins (I, _) (.head _)).1).1
    refine wpAny_pyNext_range_item go (by omega) fun h' hi hs => ?_
    obtain ⟨n', r'⟩ := r.turn hp hs.extBut hi
    refine h _ { s with heap := h', toks := s.toks + 1 } _ ⟨_, rfl⟩ ?_ ⟨⟨m, n', r'⟩, z⟩
    show ({ cls := _, dict := none, data := .fields #[rawInt _, rawInt _, rawInt 1], slots := #[] } : Obj) = { cls := _, dict := none, data := .fields #[rawInt _, rawInt _, rawInt 1], slots := #[] }
    rw [show ((n : Int) - (k : Nat) - 1) = (n : Int) - ((k + 1 : Nat) : Int) by omega, show ((k : Int) + 1) = ((k + 1 : Nat) : Int) by omega]
theorem Src.end {S : Src} {σ : Nat → Addr} {s : Shared} {I : Addr} {o : Obj} {F : Option Value → Shared → Prop} {E : Value → Shared → Prop} (H : Rep g (c.pin (I, o)) σ st s) (hl : S.Keeps st) (it : S.At σ S.len o)
    (hp : ∀ p ∈ c.pins, p.1 ≠ I) (hh : c.A.handled = none) (h : ∀ s', Rep g c σ st s' → F none s') : wpAny (model g.prog g.w) c.A (pyNext (.ref I)) F E s := by
  cases S with
  | seq T i vs => exact next_end H hl it (List.getElem?_eq_none (Nat.le_refl _)) hp hh fun h' a => h _ a
  | rng n =>
    obtain ⟨⟨m, news, r⟩, z⟩ := H
    obtain rfl : o = _ := it
    have go := (r.nw _ (r.pins (I, _) (.head _)).1).1
    refine wpAny_pyNext_range_end hh go (by show (n : Int) - (n : Nat) ≤ 0; omega) fun h' hs => ?_
    obtain ⟨n', r'⟩ := r.drop hp hs
    exact h _ ⟨⟨m, n', r'⟩, z⟩
theorem Src.get {S : Src} {k : Nat} (h : k < S.len) : ∃ v, S.item k = some v := by
  cases S with
  | seq T i vs => exact ⟨_, List.getElem?_eq_getElem h⟩
  | rng n => exact ⟨_, if_pos h⟩

/-- for, by what holds ahead of each turn -/
theorem st_forS {x : Str} {px : Pos} {iter : Expr} {body : List Stmt} {Q : AF → AS → Prop} (O : c.Ok) (h0 : c.cd = none) (hh : c.A.handled = none)
    (h : EV g c iter st (fun a st1 => PI g c a st1 (fun b st2 => ∃ (i : Nat) (S : Src) (J : Nat → AS → Prop), b = .ref i ∧ st2.hp i = some S.iter ∧ J 0 (st2.del i) ∧ (∀ k st3, J k st3 → S.Keeps st3) ∧
      (∀ k v st3 p, S.item k = some v → J k st3 → SN g (c.pin p) x v st3 (fun st4 => SS g (c.pin p) body st4 (TurnQ (J (k + 1)) Q) X) X) ∧ ∀ st3, J S.len st3 → Q .next st3) X) X)
    (hs : ∀ v, foldedSetIterable iter c.env v = pure v := by intro _; rfl) : ST g c (.For (.Name x px) iter body [] pos) st Q X := fun σ s H => by
  refine wpAny_For (seq h H fun u s1 a σ1 st1 h1 e1 H1 V1 => ?_) hs
  refine wpAny_mono (h1 σ1 s1 u H1 V1) (fun w s2 hw => ?_) fun _ _ y => y.ext e1
  obtain ⟨b, σ2, st2, ⟨i, S, J, rfl, hi, start, keeps, turn, done⟩, e2, ⟨⟨m, news, r⟩, z⟩, li, rfl⟩ := hw
  have e12 := e1.trans e2
  obtain ⟨o, ho, hO, r'⟩ := r.lay hi
  have hpn : ∀ p ∈ c.pins, p.1 ≠ σ2 i := fun p hp => ((r.pins p hp).2.1 i (by rw [hi]; simp)).symm
  obtain ⟨hA, hl⟩ := Src.start hO
  refine codeAny_forLoop (fun n s' => ∃ k σ' st' o, J k st' ∧ k ≤ S.len ∧ n = S.len - k ∧ Ext st2.nx σ2 σ' st'.nx ∧ S.At σ' k o ∧ Rep g (c.pin (σ2 i, o)) σ' st' s') ?_ S.len ⟨0, σ2, st2.del i, o, start, Nat.zero_le _, rfl, .refl, hA, ⟨m, news, r'⟩, z⟩
  rintro n s3 ⟨k, σ3, st3, o3, j, kl, rfl, e3, it, H3⟩
  have e123 := e12.trans e3
  by_cases hk : k < S.len
  · obtain ⟨v, hv⟩ := Src.get hk
    refine Src.next H3 (keeps k st3 j) it hv hpn fun u s4 o' W it' H4 => ?_
    refine wpAny_assign_Name (wpAny_mono (turn k v st3 (σ2 i, o') hv j σ3 _ u H4 W) (fun _ s5 hq => ?_) fun _ _ y => loopX O h0 (y.unpin.ext e123))
    obtain ⟨_, σ5, st5, q5, e5, H5, _⟩ := hq
    refine wpAny_mono (q5 σ5 s5 H5) (fun f s6 hf => ?_) fun _ _ y => loopX O h0 (y.unpin.ext (e123.trans e5))
    obtain ⟨a, σ6, st6, q6, e6, H6, y⟩ := hf
    have eall := (e123.trans e5).trans e6
    have lo : S.Low st3.nx := by
      cases S with
      | seq T l vs => exact Nat.lt_of_lt_of_le hl e3.le
      | rng => trivial
    have itl : S.At σ6 (k + 1) o' := Src.at_ext it' lo (e5.trans e6)
    cases a with
    | next => cases y; exact ⟨_, by omega, k + 1, σ6, st6, o', q6, hk, rfl, (e3.trans e5).trans e6, itl, H6⟩
    | cont => cases y; exact ⟨_, by omega, k + 1, σ6, st6, o', q6, hk, rfl, (e3.trans e5).trans e6, itl, H6⟩
    | brk => cases y; exact ⟨.next, σ6, st6, q6, eall, H6.unpin, rfl⟩
    | ret a => obtain ⟨v, rfl, V⟩ := y; exact ⟨.ret a, σ6, st6, q6, eall, H6.unpin, v, rfl, V⟩
  · obtain rfl : k = S.len := Nat.le_antisymm kl (Nat.not_lt.mp hk)
    refine Src.end H3 (keeps _ st3 j) it hpn hh fun s' H4 => ?_
    exact wpAny_execs_nil ⟨.next, σ3, st3, done st3 j, e123, H4, rfl⟩
end
end Sx

namespace Sx
abbrev compCx (c : Cx) (scope : Scope) (cl : List (Str × Addr)) (cid' : Str → Option Nat) (C : Addr) (lm m₀ : Str → Option Value) (pins : List (Addr × Obj)) : Cx :=
  { A := c.A, env := compEnvC scope cl C c.env, fenv := c.fenv, L := c.L, outer := c.outer, outs := (C, lm) :: c.outs, cid := cid', cd := some (lm, m₀), pins := pins }
section
variable {g : Gl} {c : Cx} {σ : Nat → Addr} {st : AS} {m lm lm' : Str → Option Value} {news : List (Addr × Obj)} {h h' : Heap} {scope : Scope} {cl : List (Str × Addr)} {cid' : Str → Option Nat} {C D : Addr} {pins : List (Addr × Obj)}

theorem comp_ok (O : c.Ok) (hk : scope.kind = .function) (hC : C ≠ c.L) : (compCx c scope cl cid' C lm m pins).Ok where
  frames := O.frames
  frame := O.frame
  fkind := O.fkind
  kind := hk
  globals := O.globals
  own := fun h => nomatch h
  comp := fun x h => by cases h; exact .head _
  outer := fun e he => let ⟨a, p, b, q⟩ := O.outer e he; ⟨a, p, List.mem_cons_of_mem _ b, q⟩
  apart := fun p hp => by
    rcases List.mem_cons.mp hp with rfl | hp
    · exact hC
    · exact O.apart p hp

theorem RepN.compIn {I : Addr} {o oC oD : Obj} (r : RepN g (c.pin (I, o)) σ st m news h) (hcid : ∀ y i, cid' y = some i → c.cid y = some i ∧ cl.lookup y = c.env.cells.lookup y) (hk : ∀ b o, h.get? b = some o → h'.get? b = some o)
    (hC : h.objs.size ≤ C) (hD : h.objs.size ≤ D) (hCD : C ≠ D) (eC : h'.get? C = some oC) (nC : LCg.NsObj oC lm) (eD : h'.get? D = some oD) :
    RepN g (compCx c scope cl cid' C lm m ((D, oD) :: (I, o) :: c.pins)) σ ⟨fun _ => none, st.hp, st.nx⟩ m ((C, oC) :: (D, oD) :: news) h' := by
  have nb : ∀ a, h.objs.size ≤ a → g.base.get? a = none := fun a ha => by
    cases q : g.base.get? a with
    | none => rfl
    | some x => exact absurd (Heap.lt_size (r.fr.keep a x q)) (Nat.not_lt.mpr ha)
  have lt : ∀ p ∈ news, p.1 < h.objs.size := fun p hp => Heap.lt_size (r.nw p hp).1
  have lL : c.L < h.objs.size := r.fr.ns.lt
  have sg : ∀ i, st.hp i ≠ none → σ i < h.objs.size := fun i hi => by
    obtain ⟨x, hx⟩ := Option.ne_none_iff_exists'.mp hi
    obtain ⟨_, ob, hm, _⟩ := r.hp i x hx
    exact lt _ hm
  have ot : ∀ q ∈ c.outs, q.1 < h.objs.size := fun q hq => by
    obtain ⟨x, hm, _⟩ := r.outs q hq
    exact lt _ hm
  refine { fr := r.fr.keeps hk, nw := fun p hp => ?_, loc := ⟨rfl, fun x a e => (nomatch e)⟩, hp := fun i x hi => ?_, inj := r.inj, lo := r.lo, outs := fun p hp => ?_, sep := fun i hi p hp => ?_, cids := fun y i e => ?_, pins := fun p hp => ?_ }
  · rcases List.mem_cons.mp hp with rfl | hp
    · exact ⟨eC, (Nat.ne_of_lt (Nat.lt_of_lt_of_le lL hC)).symm, nb _ hC⟩
    · rcases List.mem_cons.mp hp with rfl | hp
      · exact ⟨eD, (Nat.ne_of_lt (Nat.lt_of_lt_of_le lL hD)).symm, nb _ hD⟩
      · exact ⟨hk _ _ (r.nw p hp).1, (r.nw p hp).2⟩
  · obtain ⟨a, ob, b, d⟩ := r.hp i x hi
    exact ⟨a, ob, .tail _ (.tail _ b), d⟩
  · rcases List.mem_cons.mp hp with rfl | hp
    · exact ⟨oC, .head _, nC⟩
    · obtain ⟨x, a, b⟩ := r.outs p hp
      exact ⟨x, .tail _ (.tail _ a), b⟩
  · rcases List.mem_cons.mp hp with rfl | hp
    · exact Nat.ne_of_lt (Nat.lt_of_lt_of_le (sg i hi) hC)
    · exact r.sep i hi p hp
  · obtain ⟨a, b⟩ := hcid y i e
    obtain ⟨x, z⟩ := r.cids y i a
    exact ⟨x, b.trans z⟩
  · rcases List.mem_cons.mp hp with rfl | hp
    · refine ⟨.tail _ (.head _), fun i hi => Nat.ne_of_lt (Nat.lt_of_lt_of_le (sg i hi) hD), fun q hq => ?_⟩
      rcases List.mem_cons.mp hq with rfl | hq
      · exact hCD.symm
      · exact (Nat.ne_of_lt (Nat.lt_of_lt_of_le (ot q hq) hD)).symm
    · obtain ⟨x1, x2, x3⟩ := r.pins p hp
      refine ⟨.tail _ (.tail _ x1), x2, fun q hq => ?_⟩
      rcases List.mem_cons.mp hq with rfl | hq
      · exact Nat.ne_of_lt (Nat.lt_of_lt_of_le (lt _ x1) hC)
      · exact x3 q hq

theorem RepN.comp_store {loc loc' : Str → Option AV} {hp : Nat → Option AO} {nx : Nat} (O : c.Ok) (r : RepN g (compCx c scope cl cid' C lm m pins) σ ⟨loc, hp, nx⟩ m news h) (hC : C ≠ c.L) (hCo : ∀ p ∈ c.outs, p.1 ≠ C) (hn : h'.Ns C lm') (hs : Heap.SameBut C h h')
    (hl : ∀ x a, loc' x = some a → ∃ v, lm' x = some v ∧ VR σ nx a v) : ∃ news', RepN g (compCx c scope cl cid' C lm' m pins) σ ⟨loc', hp, nx⟩ m news' h' := by
  obtain ⟨oC, hmC, hnC⟩ := r.outs (C, lm) (.head _)
  obtain ⟨oC', e', n'⟩ := LCg.ns_obj hn
  have hb := (r.nw _ hmC).2.2
  have sub : ∀ p ∈ news, p.1 ≠ C → p ∈ (C, oC') :: news.filter (fun p => decide (p.1 ≠ C)) := fun p hp n => .tail _ (List.mem_filter.mpr ⟨hp, by simpa using n⟩)
  refine ⟨(C, oC') :: news.filter (fun p => decide (p.1 ≠ C)), { fr := r.fr.change hs hC hb, nw := fun p hp => ?_, loc := ⟨rfl, hl⟩, hp := fun i x hi => ?_, inj := r.inj, lo := r.lo, outs := fun p hp => ?_, sep := fun i hi p hp => ?_, cids := r.cids, pins := fun p hp => ?_ }⟩
  · rcases List.mem_cons.mp hp with rfl | hp
    · exact ⟨e', hC, hb⟩
    · obtain ⟨h1, h2⟩ := List.mem_filter.mp hp
      exact ⟨hs.extBut _ _ (by simpa using h2) (r.nw p h1).1, (r.nw p h1).2⟩
  · obtain ⟨a, ob, b, d⟩ := r.hp i x hi
    exact ⟨a, ob, sub _ b (r.sep i (by rw [hi]; simp) (C, lm) (.head _)), d⟩
  · rcases List.mem_cons.mp hp with rfl | hp
    · exact ⟨oC', .head _, n'⟩
    · obtain ⟨x, a, b⟩ := r.outs p (.tail _ hp)
      exact ⟨x, sub _ a (hCo p hp), b⟩
  · rcases List.mem_cons.mp hp with rfl | hp
    · exact r.sep i hi (C, lm) (.head _)
    · exact r.sep i hi p (.tail _ hp)
  · obtain ⟨x1, x2, x3⟩ := r.pins p hp
    refine ⟨sub _ x1 (x3 (C, lm) (.head _)), x2, fun q hq => ?_⟩
    rcases List.mem_cons.mp hq with rfl | hq
    · exact x3 (C, lm) (.head _)
    · exact x3 q (.tail _ hq)

theorem RepN.comp_out {loc loc' : Str → Option AV} {hp : Nat → Option AO} {nx : Nat} {oD : Obj} {o : AO} (O : c.Ok) (r : RepN g (compCx c scope cl cid' C lm m ((D, oD) :: c.pins)) σ ⟨loc', hp, nx⟩ m news h) (hC : C ≠ c.L) (hCo : ∀ p ∈ c.outs, p.1 ≠ C) (hs : Heap.SameBut C h h')
    (hl : Loc c σ ⟨loc, hp, nx⟩ m) (hc : ∀ x i, c.cid x = some i → i < nx ∧ c.env.cells.lookup x = some (σ i)) (hD : ∀ p ∈ c.pins, p.1 ≠ D) (e : OR σ nx o oD) (hlo : o.isDict = true → 1 < D := by exact fun h => Bool.noConfusion h) :
    ∃ news', RepN g c (fun i => if i = nx then D else σ i) ((⟨loc, hp, nx⟩ : AS).new o) m news' h' ∧ Ext nx σ (fun i => if i = nx then D else σ i) (nx + 1) := by
  obtain ⟨oC, hmC, hnC⟩ := r.outs (C, lm) (.head _)
  have hb := (r.nw _ hmC).2.2
  have ex : Ext nx σ (fun i => if i = nx then D else σ i) (nx + 1) := ⟨Nat.le_succ _, fun i hi => if_neg (Nat.ne_of_lt hi)⟩
  obtain ⟨d1, d2, d3⟩ := r.pins (D, oD) (.head _)
  have sub : ∀ p ∈ news, p.1 ≠ C → p ∈ news.filter (fun p => decide (p.1 ≠ C)) := fun p hp n => List.mem_filter.mpr ⟨hp, by simpa using n⟩
  have old : ∀ i, hp i ≠ none → (if i = nx then D else σ i) = σ i ∧ i ≠ nx := fun i hi => by
    obtain ⟨o', ho'⟩ := Option.ne_none_iff_exists'.mp hi
    obtain ⟨lt, _⟩ := r.hp i o' ho'
    exact ⟨if_neg (Nat.ne_of_lt lt), Nat.ne_of_lt lt⟩
  have key : ∀ k, ((⟨loc, hp, nx⟩ : AS).new o).hp k ≠ none → k = nx ∨ hp k ≠ none := fun k hk => by
    by_cases z : k = nx
    · exact .inl z
    · exact .inr (by simpa [AS.new, z] using hk)
  refine ⟨news.filter (fun p => decide (p.1 ≠ C)), { fr := r.fr.change hs hC hb, nw := fun p hp => ?_, lo := lo_new r.lo (fun i o q => (r.hp i o q).1) hlo, loc := hl.ext rfl ex, hp := fun i x hi => ?_, inj := fun i j hi hj q => ?_, outs := fun p hp => ?_, sep := fun i hi p hp => ?_, cids := fun y i q => ?_, pins := fun p hp => ?_ }, ex⟩
  · obtain ⟨h1, h2⟩ := List.mem_filter.mp hp
    exact ⟨hs.extBut _ _ (by simpa using h2) (r.nw p h1).1, (r.nw p h1).2⟩
  · by_cases z : i = nx
    · subst z
      have : x = o := by simp [AS.new] at hi; exact hi.symm
      subst this
      exact ⟨Nat.lt_succ_self _, oD, by rw [if_pos rfl]; exact sub _ d1 (d3 (C, lm) (.head _)), e.mono ex⟩
    · have hi' : hp i = some x := by simpa [AS.new, z] using hi
      obtain ⟨a, ob, b, d⟩ := r.hp i x hi'
      exact ⟨Nat.lt_succ_of_lt a, ob, by rw [if_neg z]; exact sub _ b (r.sep i (by show hp i ≠ none; rw [hi']; simp) (C, lm) (.head _)), d.mono ex⟩
  · rcases key i hi with rfl | hi' <;> rcases key j hj with rfl | hj'
    · rfl
    · try dsimp only at q
      rw [if_pos rfl, (old j hj').1] at q
      exact absurd q.symm (d2 j hj')
    · try dsimp only at q
      rw [if_pos rfl, (old i hi').1] at q
      exact absurd q (d2 i hi')
    · try dsimp only at q
      rw [(old i hi').1, (old j hj').1] at q
      exact r.inj i j hi' hj' q
  · obtain ⟨x, a, b⟩ := r.outs p (.tail _ hp)
    exact ⟨x, sub _ a (hCo p hp), b⟩
  · rcases key i hi with rfl | hi'
    · (try dsimp only); rw [if_pos rfl]; exact d3 p (.tail _ hp)
    · (try dsimp only); rw [(old i hi').1]; exact r.sep i hi' p (.tail _ hp)
  · obtain ⟨a, b⟩ := hc y i q
    exact ⟨Nat.lt_succ_of_lt a, by (try dsimp only); rw [if_neg (Nat.ne_of_lt a)]; exact b⟩
  · obtain ⟨x1, x2, x3⟩ := r.pins p (.tail _ hp)
    refine ⟨sub _ x1 (x3 (C, lm) (.head _)), fun i hi => ?_, fun q hq => x3 q (.tail _ hq)⟩
    rcases key i hi with rfl | hi'
    · (try dsimp only); rw [if_pos rfl]; exact (hD p hp).symm
    · (try dsimp only); rw [(old i hi').1]; exact x2 i hi'
end
end Sx

namespace Sx
section
variable {g : Gl} {c : Cx} {st : AS} {Q : AV → AS → Prop} {X : String → AS → Prop} {pos : Pos}

/-- one turn of a comprehension: the tests, then the element -/
def CT (g : Gl) (cc : Cx) (elt : Expr) : List Expr → AS → (Option AV → AS → Prop) → Prop
  | [], st, F => EV g cc elt st (fun y st' => F (some y) st') (fun _ _ => False)
  | [t], st, F => TR g cc t st (fun b st' => if b = true then EV g cc elt st' (fun y st'' => F (some y) st'') (fun _ _ => False) else F none st') (fun _ _ => False)
  | _, _, _ => False

theorem postX_no {E : Value → Shared → Prop} {cc : Cx} {σ : Nat → Addr} {nx : Nat} {e : Value} {s : Shared} (x : PostX g cc σ nx (fun _ _ => False) e s) : E e s := by
  obtain ⟨_, _, _, h, _⟩ := x; exact h.elim

set_option maxHeartbeats 1000000 in
theorem lc_core {elt iter : Expr} {x : Str} {px : Pos} {ifs : List Expr} {scope : Scope} {cl : List (Str × Addr)} (cid' : Str → Option Nat) {use : Option (Value → Sem Unit)} {QQ : Value → Shared → Prop} {E : Value → Shared → Prop} {σ2 : Nat → Addr} {st2 : AS} {s2 : Shared} {i : Nat} {S : Src} {J : Nat → List AV → HP → Nat → Prop} (O : c.Ok) (hh : c.A.handled = none)
    (hcid : ∀ y i, cid' y = some i → c.cid y = some i ∧ cl.lookup y = c.env.cells.lookup y)
    (hi : st2.hp i = some S.iter) (start : J 0 [] (st2.del i).hp st2.nx) (hlen : S.len ≤ 1000) (keeps : ∀ k ys hp nx, J k ys hp nx → S.Keeps ⟨st2.loc, hp, nx⟩)
    (turn : ∀ k v ys hp nx C lm m₀ pins, S.item k = some v → J k ys hp nx → (compCx c scope cl cid' C lm m₀ pins).Ok → CT g (compCx c scope cl cid' C lm m₀ pins) elt ifs ⟨fun y => if y = x then some v else none, hp, nx⟩
        (fun r st3 => J (k + 1) (match r with | some y => ys ++ [y] | none => ys) st3.hp st3.nx))
    (H2 : Rep g c σ2 st2 s2)
    (fin : ∀ (ys : List AV) (hp : HP) (nx : Nat) (σ' : Nat → Addr) (s4 : Shared) (m lm' : Str → Option Value) (news4 : List (Addr × Obj)) (C D : Addr) (ys' : List Value) (loc' : Str → Option AV), J S.len ys hp nx → Ext st2.nx σ2 σ' nx →
      RepN g (compCx c scope cl cid' C lm' m ((D, LCg.lst ys') :: c.pins)) σ' ⟨loc', hp, nx⟩ m news4 s4.heap → Still g s4 → VRs σ' nx ys ys' → C ≠ c.L → (∀ p ∈ c.outs, p.1 ≠ C) → (∀ p ∈ c.pins, p.1 ≠ D) →
      Loc c σ' ⟨st2.loc, hp, nx⟩ m → (∀ x i, c.cid x = some i → i < nx ∧ c.env.cells.lookup x = some (σ' i)) → (∀ p ∈ c.pins, p.1 ≠ C) → compPost (model g.prog g.w) c.A E use QQ (.ref D) C (.ok .next) s4)
    (hcell : ∀ y ∈ scope.names, y.2 ≠ .cell) (hkind : scope.kind = .function) (hx : scope.names.lookup x = some .local) :
    wpAny (model g.prog g.w) c.A (newList []) (fun acc s₃ => wpAny (model g.prog g.w) c.A (newFunctionEnv scope c.env.globals cl [] c.env.qual none .none (some c.env)) (fun cenv s₄ =>
      codeAny (model g.prog g.w) c.A (.compStart (.ListComp elt [⟨.Name x px, iter, ifs, 0⟩] scope pos) 0 (.ref (σ2 i)) acc { cenv with scope := relabel scope c.env }) (compPost (model g.prog g.w) c.A E use QQ acc cenv.locals) s₄) E s₃) E s2 := by
  obtain ⟨⟨m, news, r⟩, z⟩ := H2
  obtain ⟨o, ho, hO, r'⟩ := r.lay hi
  have hpn : ∀ p ∈ c.pins, p.1 ≠ σ2 i := fun p hp => ((r.pins p hp).2.1 i (by rw [hi]; simp)).symm
  obtain ⟨hA, hlow⟩ := Src.start hO
  refine wpAny_newObj_type (wpAny_newFunctionEnv hcell (by intro y hy; simp at hy) (fun h₁ hns₁ hsb₁ => ?_) hkind)
  dsimp only at hns₁ hsb₁ ⊢
  generalize hH2 : s2.heap.push { cls := .type "list", dict := none, data := .seq ([] : List Value).toArray } = H2 at hns₁ hsb₁ ⊢
  have hCs : H2.objs.size = s2.heap.objs.size + 1 := by rw [← hH2, Heap.size_push]
  have hDs : H2.get? s2.heap.objs.size = some (LCg.lst []) := by rw [← hH2]; exact Heap.get?_push_size _ rfl
  have hH : ∀ b o, s2.heap.get? b = some o → H2.get? b = some o := fun b o e => by rw [← hH2]; exact Heap.get?_push_of_some _ e
  generalize hCe : H2.objs.size = C at hns₁ hsb₁ hCs ⊢
  generalize hDe : s2.heap.objs.size = D at hCs hDs ⊢
  have hCD : C ≠ D := by rw [hCs]; exact Nat.succ_ne_self _
  have old : ∀ b o, s2.heap.get? b = some o → h₁.get? b = some o := fun b o e => hsb₁.extBut b o (by
    have := Heap.lt_size e
    rw [hDe] at this
    rw [hCs]; exact Nat.ne_of_lt (Nat.lt_succ_of_lt this)) (Heap.get?_push_of_some _ (hH b o e))
  obtain ⟨oC, eC, nC⟩ := LCg.ns_obj hns₁
  have eD : h₁.get? D = some (LCg.lst []) := hsb₁.extBut _ _ hCD.symm (Heap.get?_push_of_some _ hDs)
  have hC : C ≠ c.L := by
    have := r.fr.ns.lt
    rw [hDe] at this
    rw [hCs]; exact (Nat.ne_of_lt (Nat.lt_succ_of_lt this)).symm
  have hCo : ∀ p ∈ c.outs, p.1 ≠ C := fun p hp => by
    obtain ⟨x, hm, _⟩ := r.outs p hp
    have := Heap.lt_size (r.nw _ hm).1
    rw [hDe] at this
    rw [hCs]; exact Nat.ne_of_lt (Nat.lt_succ_of_lt this)
  have hDp : ∀ p ∈ c.pins, p.1 ≠ D := fun p hp => by
    have := Heap.lt_size (r.nw _ (r.pins p hp).1).1
    rw [hDe] at this
    exact Nat.ne_of_lt this
  have hCp : ∀ p ∈ c.pins, p.1 ≠ C := fun p hp => by
    have := Heap.lt_size (r.nw _ (r.pins p hp).1).1
    rw [hDe] at this
    rw [hCs]; exact Nat.ne_of_lt (Nat.lt_succ_of_lt this)
  have hID : σ2 i ≠ D := by
    have := Heap.lt_size ho
    rw [hDe] at this
    exact Nat.ne_of_lt this
  have rc := r'.compIn (scope := scope) (cl := cl) (cid' := cid') hcid old (by rw [hCs, ← hDe]; exact Nat.le_succ _) (Nat.le_of_eq hDe) hCD eC nC eD
  have loop : ∀ s3 : Shared, s3 = { s2 with heap := h₁, toks := s2.toks + ([] : List (Str × Value)).length } →
      codeAny (model g.prog g.w) c.A (.compLoop (.ListComp elt [⟨.Name x px, iter, ifs, 0⟩] scope pos) 0 (.ref (σ2 i)) (.ref D) (compEnvC scope cl C c.env))
        (compPost (model g.prog g.w) c.A E use QQ (.ref D) C) s3 := by
    rintro s3 rfl
    refine codeAny_compLoop_tests (fun n s' => ∃ k σ' hp' nx' ys ys' oI lm' loc' news', J k ys hp' nx' ∧ k ≤ S.len ∧ n = S.len + 1 - k ∧ Ext st2.nx σ2 σ' nx' ∧ S.At σ' k oI ∧ VRs σ' nx' ys ys' ∧ ys'.length ≤ k ∧
      RepN g (compCx c scope cl cid' C lm' m ((D, LCg.lst ys') :: (σ2 i, oI) :: c.pins)) σ' ⟨loc', hp', nx'⟩ m news' s'.heap ∧ Still g s') ?_ (S.len + 1)
      ⟨0, σ2, _, _, [], [], o, _, _, _, start, Nat.zero_le _, rfl, .refl, hA, rfl, Nat.le_refl _, rc, z⟩
    rintro n s' ⟨k, σ', hp', nx', ys, ys', oI, lm', loc', news', j, kl, rfl, e3, it, Vy, ly, r3, z3⟩
    have sw : RepN g ((compCx c scope cl cid' C lm' m ((D, LCg.lst ys') :: c.pins)).pin (σ2 i, oI)) σ' ⟨loc', hp', nx'⟩ m news' s'.heap := { r3 with pins := fun p hp => r3.pins p (by
      rcases List.mem_cons.mp hp with rfl | hp
      · exact .tail _ (.head _)
      · rcases List.mem_cons.mp hp with rfl | hp
        · exact .head _
        · exact .tail _ (.tail _ hp)) }
    have hpn' : ∀ p ∈ (D, LCg.lst ys') :: c.pins, p.1 ≠ σ2 i := fun p hp => by
      rcases List.mem_cons.mp hp with rfl | hp
      · exact hID.symm
      · exact hpn p hp
    by_cases hk : k < S.len
    · obtain ⟨v, hv⟩ := Src.get hk
      refine Src.next (c := compCx c scope cl cid' C lm' m ((D, LCg.lst ys') :: c.pins)) ⟨⟨m, news', sw⟩, z3⟩ (keeps k ys hp' nx' j) it hv hpn' fun u s4 o' W it' H4 => ?_
      obtain ⟨⟨m4, news4, r4⟩, z4⟩ := H4
      obtain rfl : m4 = m := r4.loc.1
      have nsC : s4.heap.Ns C lm' := by
        obtain ⟨ob, hm, hn⟩ := r4.outs (C, lm') (.head _)
        exact hn.ns (r4.nw _ hm).1
      refine wpAny_assign_Name (wpAny_storeName_local (lookup_relabel_local hx) nsC (fun h₃ hn₃ hs₃ => ?_) (by simp [compEnvC, relabel, hkind]))
      have r4' : RepN g (compCx c scope cl cid' C lm' m4 ((D, LCg.lst ys') :: (σ2 i, o') :: c.pins)) σ' ⟨loc', hp', nx'⟩ m4 news4 s4.heap := { r4 with pins := fun p hp => r4.pins p (by
        rcases List.mem_cons.mp hp with rfl | hp
        · exact .tail _ (.head _)
        · rcases List.mem_cons.mp hp with rfl | hp
          · exact .head _
          · exact .tail _ (.tail _ hp)) }
      obtain ⟨news5, r5⟩ := r4'.comp_store (loc' := fun y => if y = x then some v else none) O hC hCo hn₃ hs₃ (fun y a e => by
        by_cases q : y = x
        · rw [if_pos q] at e
          cases e
          exact ⟨u, if_pos q, W⟩
        · rw [if_neg q] at e; cases e)
      have tn := turn k v ys hp' nx' C (fun z => if z = x then some u else lm' z) m4 ((D, LCg.lst ys') :: (σ2 i, o') :: c.pins) hv j (comp_ok O hkind hC)
      have R5 : Rep g (compCx c scope cl cid' C (fun z => if z = x then some u else lm' z) m4 ((D, LCg.lst ys') :: (σ2 i, o') :: c.pins)) σ' ⟨fun y => if y = x then some v else none, hp', nx'⟩ { s4 with heap := h₃ } := ⟨⟨m4, news5, r5⟩, z4⟩
      have fin : ∀ (s6 : Shared) (σ6 : Nat → Addr) (st6 : AS), Ext nx' σ' σ6 st6.nx → Rep g (compCx c scope cl cid' C (fun z => if z = x then some u else lm' z) m4 ((D, LCg.lst ys') :: (σ2 i, o') :: c.pins)) σ6 st6 s6 →
          S.At σ6 (k + 1) o' ∧ VRs σ6 st6.nx ys ys' := fun s6 σ6 st6 e6 _ => by
        refine ⟨Src.at_ext it' ?_ e6, Vy.mono e6⟩
        cases S with
        | seq T l vs => exact Nat.lt_of_lt_of_le hlow e3.le
        | rng => trivial
      have addit : ∀ (y : AV) (yv : Value) (s6 : Shared) σ6 st6 (E : Value → Shared → Prop), Ext nx' σ' σ6 st6.nx → Rep g (compCx c scope cl cid' C (fun z => if z = x then some u else lm' z) m4 ((D, LCg.lst ys') :: (σ2 i, o') :: c.pins)) σ6 st6 s6 → VR σ6 st6.nx y yv →
          J (k + 1) (ys ++ [y]) st6.hp st6.nx → wpAny (model g.prog g.w) c.A (call (.builtin "list.append") [.ref D, yv]) (fun _ s7 => ∃ n', n' < S.len + 1 - k ∧ ∃ k σ' hp' nx' ys ys' oI lm' loc' news', J k ys hp' nx' ∧ k ≤ S.len ∧ n' = S.len + 1 - k ∧ Ext st2.nx σ2 σ' nx' ∧ S.At σ' k oI ∧ VRs σ' nx' ys ys' ∧ ys'.length ≤ k ∧
            RepN g (compCx c scope cl cid' C lm' m4 ((D, LCg.lst ys') :: (σ2 i, oI) :: c.pins)) σ' ⟨loc', hp', nx'⟩ m4 news' s7.heap ∧ Still g s7) E s6 := fun y yv s6 σ6 st6 E e6 H6 W6 j6 => by
        obtain ⟨it6, Vy6⟩ := fin s6 σ6 st6 e6 H6
        obtain ⟨⟨m6, news6, r6⟩, z6⟩ := H6
        obtain rfl : m6 = m4 := r6.loc.1
        have gD := (r6.nw _ (r6.pins (D, LCg.lst ys') (.head _)).1).1
        refine append_at (hsz := by show ys'.toArray.size ≤ sizeLine; rw [List.size_toArray]; exact Nat.le_trans (Nat.le_trans ly (Nat.le_trans kl hlen)) (by decide +kernel)) gD fun h₇ hs₇ hD₇ => ?_
        have hD₇' : h₇.get? D = some (LCg.lst (ys' ++ [yv])) := hD₇.trans (congrArg some (LCg.lst_snoc ys' yv))
        obtain ⟨news7, r7⟩ := RepN.turn (c := compCx c scope cl cid' C (fun z => if z = x then some u else lm' z) m6 ((σ2 i, o') :: c.pins)) r6 (fun p hp => by
          rcases List.mem_cons.mp hp with rfl | hp
          · exact hID
          · exact hDp p hp) hs₇.extBut hD₇'
        exact ⟨_, by omega, k + 1, σ6, st6.hp, st6.nx, ys ++ [y], ys' ++ [yv], o', _, st6.loc, news7, j6, hk, rfl, e3.trans e6, it6, Vy6.append (VRs.one W6), by rw [List.length_append]; exact Nat.succ_le_succ ly, r7, z6⟩
      cases ifs with
      | nil =>
        refine wpAny_tests_nil ?_
        rw [if_pos rfl]
        refine wpAny_mono (tn σ' _ R5) (fun yv s6 hy => ?_) fun _ _ y => postX_no y
        obtain ⟨y, σ6, st6, j6, e6, H6, W6⟩ := hy
        exact addit y yv s6 σ6 st6 _ e6 H6 W6 j6
      | cons t ts =>
        cases ts with
        | cons => exact tn.elim
        | nil =>
          refine wpAny_tests_one ?_
          refine wpAny_mono (tn σ' _ R5) (fun ok s6 hy => ?_) fun _ _ y => postX_no y
          obtain ⟨b, σ6, st6, j6, e6, H6, rfl⟩ := hy
          cases ok with
          | true =>
            rw [if_pos rfl] at j6 ⊢
            refine wpAny_mono (j6 σ6 s6 H6) (fun yv s7 hy => ?_) fun _ _ y => postX_no y
            obtain ⟨y, σ7, st7, j7, e7, H7, W7⟩ := hy
            exact addit y yv s7 σ7 st7 _ (e6.trans e7) H7 W7 j7
          | false =>
            rw [if_neg (by decide)] at j6 ⊢
            obtain ⟨it6, Vy6⟩ := fin s6 σ6 st6 e6 H6
            obtain ⟨⟨m6, news6, r6⟩, z6⟩ := H6
            obtain rfl : m6 = m4 := r6.loc.1
            exact ⟨_, by omega, k + 1, σ6, st6.hp, st6.nx, ys, ys', o', _, st6.loc, news6, j6, hk, rfl, e3.trans e6, it6, Vy6, Nat.le_succ_of_le ly, r6, z6⟩
    · obtain rfl : k = S.len := Nat.le_antisymm kl (Nat.not_lt.mp hk)
      refine Src.end (c := compCx c scope cl cid' C lm' m ((D, LCg.lst ys') :: c.pins)) ⟨⟨m, news', sw⟩, z3⟩ (keeps _ ys hp' nx' j) it hpn' hh fun s4 H4 => ?_
      obtain ⟨⟨m4, news4, r4⟩, z4⟩ := H4
      obtain rfl : m4 = m := r4.loc.1
      exact fin ys hp' nx' σ' s4 m4 lm' news4 C D ys' loc' j e3 r4 z4 Vy hC hCo hDp (r.loc.ext (st' := ⟨st2.loc, hp', nx'⟩) rfl e3) (fun y i q => ⟨Nat.lt_of_lt_of_le (r.cids y i q).1 e3.le, by rw [e3.eq i (r.cids y i q).1]; exact (r.cids y i q).2⟩) hCp
  refine codeAny_compStart_list (loop _ rfl) ?_
  have eI : h₁.get? (σ2 i) = some o := old _ _ ho
  cases S with
  | seq T l vs =>
    cases T with
    | true => exact wpAny_pyIter_tupleiter (t := σ2 l) (i := 0) ⟨_, eI, hA⟩ (loop _ rfl)
    | false => exact wpAny_pyIter_listiter (l := σ2 l) (i := 0) ⟨_, eI, hA⟩ (loop _ rfl)
  | rng n =>
    obtain rfl : o = _ := hA
    exact wpAny_pyIter_rangeiter eI (loop _ rfl)
set_option maxHeartbeats 1000000 in
theorem ev_lc {elt iter : Expr} {x : Str} {px : Pos} {ifs : List Expr} {scope : Scope} {cl : List (Str × Addr)} (cid' : Str → Option Nat) (O : c.Ok) (h0 : c.cd = none) (hh : c.A.handled = none)
    (hclos : closureFor scope c.env = pure cl) (hcid : ∀ y i, cid' y = some i → c.cid y = some i ∧ cl.lookup y = c.env.cells.lookup y)
    (h : EV g c iter st (fun a st1 => PI g c a st1 (fun b st2 => ∃ (i : Nat) (S : Src) (J : Nat → List AV → HP → Nat → Prop), b = .ref i ∧ st2.hp i = some S.iter ∧ J 0 [] (st2.del i).hp st2.nx ∧ S.len ≤ 1000 ∧ (∀ k ys hp nx, J k ys hp nx → S.Keeps ⟨st2.loc, hp, nx⟩) ∧
      (∀ k v ys hp nx C lm m₀ pins, S.item k = some v → J k ys hp nx → (compCx c scope cl cid' C lm m₀ pins).Ok → CT g (compCx c scope cl cid' C lm m₀ pins) elt ifs ⟨fun y => if y = x then some v else none, hp, nx⟩
        (fun r st3 => J (k + 1) (match r with | some y => ys ++ [y] | none => ys) st3.hp st3.nx)) ∧ ∀ ys hp nx, J S.len ys hp nx → Q (.ref nx) ((⟨st2.loc, hp, nx⟩ : AS).new (.list ys))) X) X)
    (hcell : ∀ y ∈ scope.names, y.2 ≠ .cell := by decide) (hkind : scope.kind = .function := by rfl) (hnames : ∀ y ∈ scope.names, y.2 = .local → scope.names.lookup y.1 = some .local := by decide) (hx : scope.names.lookup x = some .local := by rfl)
    (hs : ∀ v, foldedSetIterable iter c.env v = pure v := by intro _; rfl) : EV g c (.ListComp elt [⟨.Name x px, iter, ifs, 0⟩] scope pos) st Q X := fun σ s H => by
  show wpAny _ _ (eval (.ListComp elt [⟨.Name x px, iter, ifs, 0⟩] scope pos) c.env) _ _ _
  rw [eval_ListComp]
  refine wpAny_comprehension_free (use := none) rfl hs hclos hkind hnames (seq h H fun u s1 a σ1 st1 h1 e1 H1 V1 => ?_)
  refine wpAny_mono (h1 σ1 s1 u H1 V1) (fun w s2 hw => ?_) fun _ _ y => y.ext e1
  obtain ⟨b, σ2, st2, ⟨i, S, J, rfl, hi, start, hlen, keeps, turn, done⟩, e2, H2, li, rfl⟩ := hw
  refine lc_core cid' O hh hcid hi start hlen keeps turn H2 (fun ys hp' nx' σ' s4 m4 lm' news4 C D ys' loc' j e3 r4 z4 Vy hC hCo hDp hl hc hCp => ?_) hcell hkind hx
  have nsC : s4.heap.Ns C lm' := by
    obtain ⟨ob, hm, hn⟩ := r4.outs (C, lm') (.head _)
    exact hn.ns (r4.nw _ hm).1
  refine ⟨lm', nsC, fun h' hs' => ?_⟩
  obtain ⟨news5, r5, e5⟩ := r4.comp_out (loc := st2.loc) (o := .list ys) O hC hCo hs' hl hc hDp ⟨ys', ys'.length, rfl, Vy⟩
  exact ⟨_, _, _, done ys hp' nx' j, ((e1.trans e2).trans e3).trans e5, ⟨⟨_, _, r5⟩, z4⟩, Nat.lt_succ_self _, by simp⟩

theorem RepN.comp_pin {σ : Nat → Addr} {m lm : Str → Option Value} {news : List (Addr × Obj)} {h : Heap} {scope : Scope} {cl : List (Str × Addr)} {cid' : Str → Option Nat} {C D : Addr} {loc loc' : Str → Option AV} {hp : Nat → Option AO} {nx : Nat} {oD : Obj} {o : AO} (r : RepN g (compCx c scope cl cid' C lm m ((D, oD) :: c.pins)) σ ⟨loc', hp, nx⟩ m news h)
    (hl : Loc c σ ⟨loc, hp, nx⟩ m) (hc : ∀ x i, c.cid x = some i → i < nx ∧ c.env.cells.lookup x = some (σ i)) (hCo : ∀ p ∈ c.outs, p.1 ≠ C) (hD : ∀ p ∈ c.pins, p.1 ≠ D) (e : OR σ nx o oD) (hlo : o.isDict = true → 1 < D := by exact fun h => Bool.noConfusion h) :
    ∃ oC, LCg.NsObj oC lm ∧ RepN g (c.pin (C, oC)) (fun i => if i = nx then D else σ i) ((⟨loc, hp, nx⟩ : AS).new o) m news h ∧ Ext nx σ (fun i => if i = nx then D else σ i) (nx + 1) := by
  obtain ⟨oC, hmC, hnC⟩ := r.outs (C, lm) (.head _)
  have ex : Ext nx σ (fun i => if i = nx then D else σ i) (nx + 1) := ⟨Nat.le_succ _, fun i hi => if_neg (Nat.ne_of_lt hi)⟩
  obtain ⟨d1, d2, d3⟩ := r.pins (D, oD) (.head _)
  have old : ∀ i, hp i ≠ none → (if i = nx then D else σ i) = σ i ∧ i ≠ nx := fun i hi => by
    obtain ⟨o', ho'⟩ := Option.ne_none_iff_exists'.mp hi
    obtain ⟨lt, _⟩ := r.hp i o' ho'
    exact ⟨if_neg (Nat.ne_of_lt lt), Nat.ne_of_lt lt⟩
  have key : ∀ k, ((⟨loc, hp, nx⟩ : AS).new o).hp k ≠ none → k = nx ∨ hp k ≠ none := fun k hk => by
    by_cases z : k = nx
    · exact .inl z
    · exact .inr (by simpa [AS.new, z] using hk)
  refine ⟨oC, hnC, { fr := r.fr, nw := r.nw, lo := lo_new r.lo (fun i o q => (r.hp i o q).1) hlo, loc := hl.ext rfl ex, hp := fun i x hi => ?_, inj := fun i j hi hj q => ?_, outs := fun p hp => r.outs p (.tail _ hp), sep := fun i hi p hp => ?_, cids := fun y i q => ?_, pins := fun p hp => ?_ }, ex⟩
  · by_cases z : i = nx
    · subst z
      have : x = o := by simp [AS.new] at hi; exact hi.symm
      subst this
      exact ⟨Nat.lt_succ_self _, oD, by rw [if_pos rfl]; exact d1, e.mono ex⟩
    · have hi' : hp i = some x := by simpa [AS.new, z] using hi
      obtain ⟨a, ob, b, d⟩ := r.hp i x hi'
      exact ⟨Nat.lt_succ_of_lt a, ob, by rw [if_neg z]; exact b, d.mono ex⟩
  · rcases key i hi with rfl | hi' <;> rcases key j hj with rfl | hj'
    · rfl
    · (try dsimp only at q)
      rw [if_pos rfl, (old j hj').1] at q
      exact absurd q.symm (d2 j hj')
    · (try dsimp only at q)
      rw [if_pos rfl, (old i hi').1] at q
      exact absurd q (d2 i hi')
    · (try dsimp only at q)
      rw [(old i hi').1, (old j hj').1] at q
      exact r.inj i j hi' hj' q
  · rcases key i hi with rfl | hi'
    · (try dsimp only); rw [if_pos rfl]; exact d3 p (.tail _ hp)
    · (try dsimp only); rw [(old i hi').1]; exact r.sep i hi' p (.tail _ hp)
  · obtain ⟨a, b⟩ := hc y i q
    exact ⟨Nat.lt_succ_of_lt a, by (try dsimp only); rw [if_neg (Nat.ne_of_lt a)]; exact b⟩
  · rcases List.mem_cons.mp hp with rfl | hp
    · refine ⟨hmC, fun i hi => ?_, fun q hq => (hCo q hq).symm⟩
      rcases key i hi with rfl | hi'
      · (try dsimp only); rw [if_pos rfl]; exact d3 (C, lm) (.head _)
      · (try dsimp only); rw [(old i hi').1]; exact r.sep i hi' (C, lm) (.head _)
    · obtain ⟨x1, x2, x3⟩ := r.pins p (.tail _ hp)
      refine ⟨x1, fun i hi => ?_, fun q hq => x3 q (.tail _ hq)⟩
      rcases key i hi with rfl | hi'
      · (try dsimp only); rw [if_pos rfl]; exact (hD p hp).symm
      · (try dsimp only); rw [(old i hi').1]; exact x2 i hi'

/-- y = [...], the name bound ahead of the comprehension's end -/
theorem st_assign_lc {elt iter : Expr} {x y : Str} {px py spos : Pos} {ifs : List Expr} {scope : Scope} {cl : List (Str × Addr)} {Q : AF → AS → Prop} (cid' : Str → Option Nat) (O : c.Ok) (h0 : c.cd = none) (hh : c.A.handled = none)
    (hclos : closureFor scope c.env = pure cl) (hcid : ∀ y i, cid' y = some i → c.cid y = some i ∧ cl.lookup y = c.env.cells.lookup y)
    (h : EV g c iter st (fun a st1 => PI g c a st1 (fun b st2 => ∃ (i : Nat) (S : Src) (J : Nat → List AV → HP → Nat → Prop), b = .ref i ∧ st2.hp i = some S.iter ∧ J 0 [] (st2.del i).hp st2.nx ∧ S.len ≤ 1000 ∧ (∀ k ys hp nx, J k ys hp nx → S.Keeps ⟨st2.loc, hp, nx⟩) ∧
      (∀ k v ys hp nx C lm m₀ pins, S.item k = some v → J k ys hp nx → (compCx c scope cl cid' C lm m₀ pins).Ok → CT g (compCx c scope cl cid' C lm m₀ pins) elt ifs ⟨fun y => if y = x then some v else none, hp, nx⟩
        (fun r st3 => J (k + 1) (match r with | some y => ys ++ [y] | none => ys) st3.hp st3.nx)) ∧ ∀ ys hp nx, J S.len ys hp nx → Q .next (((⟨st2.loc, hp, nx⟩ : AS).new (.list ys)).set y (.ref nx))) X) X)
    (hsw : swapsWith (.ListComp elt [⟨.Name x px, iter, ifs, 0⟩] scope pos) (some (.Name y py)) spos.line c.env = pure true := by rfl)
    (hcell : ∀ y ∈ scope.names, y.2 ≠ .cell := by decide) (hkind : scope.kind = .function := by rfl) (hnames : ∀ y ∈ scope.names, y.2 = .local → scope.names.lookup y.1 = some .local := by decide) (hx : scope.names.lookup x = some .local := by rfl) (hy : c.env.kindOf y = some .local := by rfl)
    (hs : ∀ v, foldedSetIterable iter c.env v = pure v := by intro _; rfl) : ST g c (.Assign [.Name y py] (.ListComp elt [⟨.Name x px, iter, ifs, 0⟩] scope pos) spos) st Q X := fun σ s H => by
  show wpAny _ _ (exec (.Assign [.Name y py] (.ListComp elt [⟨.Name x px, iter, ifs, 0⟩] scope pos) spos) c.env) _ _ _
  rw [exec_Assign_Name_used _ _ _ _ hsw]
  refine wpAny_bind (wpAny_standAt (wpAny_bind ?_))
  show wpAny _ _ (do let _ ← comprehension (.ListComp elt [⟨.Name x px, iter, ifs, 0⟩] scope pos) scope c.env _ (newList []) false (eval iter c.env) (some (assign (.Name y py) c.env))) _ _ s
  refine wpAny_bind (wpAny_mono (wpAny_comprehension_free (use := some (assign (.Name y py) c.env)) (Q := fun _ s' => PostOk g c FR σ st.nx Q .next s') rfl hs hclos hkind hnames
    (seq h H fun u s1 a σ1 st1 h1 e1 H1 V1 => ?_)) (fun _ s' hq => wpAny_pure (wpAny_pure hq)) fun _ _ e => e)
  refine wpAny_mono (h1 σ1 s1 u H1 V1) (fun w s2 hw => ?_) fun _ _ y => y.ext e1
  obtain ⟨b, σ2, st2, ⟨i, S, J, rfl, hi, start, hlen, keeps, turn, done⟩, e2, H2, li, rfl⟩ := hw
  refine lc_core cid' O hh hcid hi start hlen keeps turn H2 (fun ys hp' nx' σ' s4 m4 lm' news4 C D ys' loc' j e3 r4 z4 Vy hC hCo hDp hl hc hCp => ?_) hcell hkind hx
  obtain ⟨oC, nC, r5, e5⟩ := r4.comp_pin (loc := st2.loc) (o := .list ys) hl hc hCo hDp ⟨ys', ys'.length, rfl, Vy⟩
  show wpAny _ _ (assign (.Name y py) c.env (.ref D)) _ _ _
  refine wpAny_assign_Name (wpAny_mono (sn_local (c := c.pin (C, oC)) (a := .ref nx') (Q := fun st' => st' = ((⟨st2.loc, hp', nx'⟩ : AS).new (.list ys)).set y (.ref nx')) (X := fun _ _ => False) (O.pin _) h0 rfl hy _ s4 (.ref D) ⟨⟨m4, news4, r5⟩, z4⟩ ⟨Nat.lt_succ_self _, by simp⟩) (fun _ s6 hq => ?_) fun _ _ ⟨_, _, _, h, _⟩ => h.elim)
  obtain ⟨_, σ6, st6, rfl, e6, ⟨⟨m6, news6, r6⟩, z6⟩, _⟩ := hq
  refine ⟨lm', nC.ns (r6.nw _ (r6.pins (C, oC) (.head _)).1).1, fun h' hs' => ?_⟩
  obtain ⟨news7, r7⟩ := r6.drop hCp hs'.extBut
  exact ⟨.next, σ6, _, done ys hp' nx' j, (((e1.trans e2).trans e3).trans e5).trans e6, ⟨⟨_, _, r7⟩, z6⟩, rfl⟩
end
end Sx

namespace Sx
section
variable {g : Gl} {c : Cx} {st : AS} {Q : AV → AS → Prop} {X : String → AS → Prop} {pos : Pos}
theorem RepN.unpinI {σ : Nat → Addr} {m : Str → Option Value} {news : List (Addr × Obj)} {h : Heap} {I : Addr} {o : Obj} (r : RepN g (c.pin (I, o)) σ st m news h) (hp : ∀ p ∈ c.pins, p.1 ≠ I) :
    ∃ news', RepN g c σ st m news' h ∧ ∀ p ∈ news', p.1 ≠ I := by
  obtain ⟨hm, hsep, hout⟩ := r.pins (I, o) (.head _)
  refine ⟨news.filter (fun p => decide (p.1 ≠ I)), { fr := r.fr, nw := fun p hq => r.nw p (List.mem_filter.mp hq).1, loc := r.loc, hp := fun i ob hi => ?_, inj := r.inj, lo := r.lo, outs := fun p hq => ?_, sep := r.sep, cids := r.cids, pins := fun p hq => ?_ }, fun p hq => by simpa using (List.mem_filter.mp hq).2⟩
  · obtain ⟨lt, ob', hm', hO⟩ := r.hp i ob hi
    exact ⟨lt, ob', List.mem_filter.mpr ⟨hm', by simpa using hsep i (by rw [hi]; simp)⟩, hO⟩
  · obtain ⟨o2, hm', hn⟩ := r.outs p hq
    exact ⟨o2, List.mem_filter.mpr ⟨hm', by simpa using (hout p hq).symm⟩, hn⟩
  · obtain ⟨x1, x2, x3⟩ := r.pins p (List.mem_cons_of_mem _ hq)
    exact ⟨List.mem_filter.mpr ⟨x1, by simpa using hp p hq⟩, x2, x3⟩

theorem items_eq {us : List Value} {acc : Array Value} (h : ItemsOf (fun i v => us.toArray[i]? = some v) acc us.toArray.size) : acc = us.toArray := by
  obtain ⟨h1, h2⟩ := h
  apply Array.ext_getElem?
  intro i
  by_cases hi : i < acc.size
  · rw [Array.getElem?_eq_getElem hi]
    exact (h2 i _ (Array.getElem?_eq_getElem hi)).symm
  · rw [Array.getElem?_eq_none (Nat.not_lt.mp hi), Array.getElem?_eq_none (by rw [← h1]; exact Nat.not_lt.mp hi)]

set_option maxHeartbeats 2000000 in
theorem list_own {i d : Nat} {C f : Addr} {o : Option AV} {l : Nat} {vs : List AV} (G : g.Ok) (O : c.Ok) (hh : c.A.handled = none) (hi : st.hp i = some (.inst C d)) (hd : st.hp d = some (.sdict o)) (hs : findIn g.K (.ref C) "__len__" = some (some (.ref f))) (hf : isFn g.K (.ref f) = true)
    (hsq : st.hp l = some (.list vs)) (hn : vs.length ≤ 1000)
    (hI : PI g c.one.one (.ref i) (st.new (.list [])) (fun b st2 => b = .ref (st.nx + 1) ∧ st2 = (st.new (.list [])).new (.iter false l 0)) (fun _ _ => False))
    (hL : CallV g c.one.one (.builtin "len") [.ref i] ((st.new (.list [])).new (.iter false l 0)) (fun b st2 => (∃ k : Int, b = .int k ∧ 0 ≤ k ∧ k ≤ 1000) ∧ st2 = (st.new (.list [])).new (.iter false l 0)) (fun _ _ => False))
    (q : Q (.ref st.nx) ⟨st.loc, fun k => if k = st.nx then some (.list vs) else st.hp k, st.nx + 2⟩) : CallV g c (.type "list") [.ref i] st Q X := by
  rintro σ s us ⟨⟨m, news, r⟩, z⟩ ⟨_, _, rfl, ⟨la, rfl⟩, rfl⟩
  have fresh : ∀ j, st.nx ≤ j → st.hp j = none := fun j hj => by
    cases q : st.hp j with
    | none => rfl
    | some o => exact absurd (r.hp j o q).1 (Nat.not_lt.mpr hj)
  refine callType_codes (Q₁ := fun obj s₁ => obj = .ref s.heap.objs.size ∧ s₁ = { s with heap := s.heap.push { cls := .type "list", data := .seq #[] } }) PySem.F.called_list (PySem.F.typeCall_list_1 _) PySem.F.entry_list_init
    (code_list_new _ ⟨rfl, rfl⟩) fun obj s₁ h₁ => ?_
  obtain ⟨rfl, rfl⟩ := h₁
  have hS : (s.heap.push { cls := .type "list", data := .seq #[] }).get? s.heap.objs.size = some { cls := .type "list", data := .seq #[] } := Heap.get?_push_size _ rfl
  refine ⟨⟨_, hS, rfl⟩, PySem.F.args_list_init_2 _ _, ?_⟩
  obtain ⟨r1, e1⟩ := r.new (o := .list []) (r.fr.push { cls := .type "list", data := .seq #[] }) (r.nw.push r.fr _) (fun p hp => Heap.lt_size (r.nw p hp).1) ⟨[], 0, rfl, rfl⟩
  generalize hSz : s.heap.objs.size = S at r1 e1 hS ⊢
  generalize s.heap.push { cls := .type "list", data := .seq #[] } = h1 at r1 hS ⊢
  have e1S : (fun i => if i = st.nx then S else σ i) st.nx = S := if_pos rfl
  generalize hσ : (fun i => if i = st.nx then S else σ i) = σ1 at r1 e1 e1S
  have σi : σ1 i = σ i := by rw [← hσ]; exact if_neg (Nat.ne_of_lt la)
  have hnx : (st.new (.list [])).hp st.nx = some (.list []) := if_pos rfl
  have putS : ∀ (st' : AS), st'.hp st.nx = some (.list []) → st'.put st.nx (.list []) = st' := fun st' h => by
    obtain ⟨a, b, d⟩ := st'
    show (⟨a, _, d⟩ : AS) = _
    congr 1
    funext j
    by_cases e : j = st.nx
    · subst e; exact (if_pos rfl).trans h.symm
    · exact if_neg e
  -- a change of the empty list's count keeps all
  have touch : ∀ {c' : Cx} {σ' : Nat → Addr} {st' : AS} {m' : Str → Option Value} {news' : List (Addr × Obj)} {h' h'' : Heap} {n : Nat}, RepN g c' σ' st' m' news' h' → st'.hp st.nx = some (.list []) → σ' st.nx = S → Heap.SameBut S h' h'' → h''.get? S = some { cls := .type "list", data := .seq #[] n } → ∃ news'', RepN g c' σ' st' m' news'' h'' := fun r' h eS hs hg => by
    obtain ⟨ob, rest, N, ⟨us, n0, rfl, V⟩, ne, _, _, _, back⟩ := r'.take h
    have hd := N _ (.head _)
    rw [eS] at hd ne N
    have := back _ _ (.list []) (r'.fr.change hs hd.2.1 hd.2.2) (by rw [eS]; exact News.setAt (own := []) N (fun _ hp => nomatch hp) ne hs hg) ⟨[], _, rfl, rfl⟩ (fun h => Bool.noConfusion h)
    rw [putS _ h] at this
    exact ⟨_, this⟩
  show wpAny _ _ (do let old ← Builtin.List.listItems (.ref S); Builtin.List.listUpdate (.ref S) (fun _ => #[]); letGo old.toList.reverse; Builtin.List.listExtendWith (.ref S) (.ref (σ i)) .none) _ _ _
  refine wpAny_bind ?_
  unfold Builtin.List.listItems
  refine wpAny_bind (wpAny_seqItems hS rfl (wpAny_pure ?_))
  show wpAny _ _ (updateSeq S (fun _ => #[]) >>= fun _ => letGo (#[] : Array Value).toList.reverse >>= fun _ => Builtin.List.listExtendWith (.ref S) (.ref (σ i)) .none) _ _ _
  refine wpAny_bind (wpAny_updateSeq hS rfl ?_)
  have hS₂ := Heap.get?_update_self (Obj.mapSeq (fun _ => (#[] : Array Value))) hS rfl
  refine wpAny_bind (wpAny_letGo ?_)
  obtain ⟨news2, r2⟩ := touch r1 hnx e1S (Heap.SameBut.update ..) hS₂
  generalize h1.update S (Obj.mapSeq (fun _ => (#[] : Array Value))) = h2 at r2 hS₂
  have hi1 : (st.new (.list [])).hp i = some (.inst C d) := by
    show (if i = st.nx then _ else st.hp i) = _
    rw [if_neg (Nat.ne_of_lt la)]; exact hi
  have ld : d < st.nx := (r.hp d _ hd).1
  have ll : l < st.nx := (r.hp l _ hsq).1
  have hd1 : (st.new (.list [])).hp d = some (.sdict o) := by
    show (if d = st.nx then _ else st.hp d) = _
    rw [if_neg (Nat.ne_of_lt ld)]; exact hd
  obtain ⟨sl2, od2, I2, _⟩ := r2.instAt hi1 hd1
  rw [σi] at I2
  have hSr : S ≠ σ i := fun e => by have := I2.at_; rw [← e, hS₂] at this; cases this
  unfold Builtin.List.listExtendWith
  refine wpAny_bind (I2.type.here ?_)
  have hx : Builtin.List.listSameRef (.ref S) (.ref (σ i)) = false := by simp [Builtin.List.listSameRef, hSr]
  have hT1 : (Value.ref C == Value.type "list") = false := rfl
  have hT2 : (Value.ref C == Value.type "tuple") = false := rfl
  simp only [hx, hT1, hT2, Bool.or_false, Bool.false_eq_true, if_false]
  have R2 : Rep g c.one.one σ1 (st.new (.list [])) { s with heap := h2 } := rep_one (rep_one ⟨⟨m, news2, r2⟩, z⟩)
  refine wpAny_bind (wpAny_mono (hI σ1 _ (.ref (σ i)) R2 ⟨Nat.lt_succ_of_lt la, by rw [σi]⟩) (fun w s3 hw => ?_) fun _ _ ⟨_, _, _, h, _⟩ => h.elim)
  obtain ⟨b, σ3, st3, ⟨rfl, rfl⟩, e3, R3, lj, rfl⟩ := hw
  refine wpAny_bind (wpAny_holding ?_)
  have e13 : ∀ k, k < st.nx → σ3 k = σ1 k := fun k hk => e3.eq k (Nat.lt_succ_of_lt hk)
  have σ3i : σ3 i = σ i := (e13 i la).trans σi
  obtain ⟨⟨m3, news3, r3⟩, z3⟩ := id R3
  have hi3 : ((st.new (.list [])).new (.iter false l 0)).hp i = some (.inst C d) := by
    show (if i = st.nx + 1 then _ else (st.new (.list [])).hp i) = _
    rw [if_neg (by omega)]; exact hi1
  have hd3 : ((st.new (.list [])).new (.iter false l 0)).hp d = some (.sdict o) := by
    show (if d = st.nx + 1 then _ else (st.new (.list [])).hp d) = _
    rw [if_neg (by omega)]; exact hd1
  obtain ⟨sl3, od3, I3, _⟩ := r3.instAt hi3 hd3
  rw [σ3i] at I3
  have K3 := G.X.keeps r3.fr.keep
  -- the loop
  have loop : ∀ (s4 : Shared) (σ4 : Nat → Addr) (n4 : Nat) (E : Value → Shared → Prop) (R : Result → Shared → Prop), Ext st.nx σ1 σ4 (st.nx + 2) → σ4 (st.nx + 1) = σ3 (st.nx + 1) → (∃ m news, RepN g c.one.one σ4 ((st.new (.list [])).new (.iter false l 0)) m news s4.heap) → Still g s4 → σ4 st.nx = S → s4.heap.get? S = some { cls := .type "list", data := .seq #[] n4 } →
      (∀ s5, PostOk g c VR σ st.nx Q (.ref S) s5 → R (.ok (.ret .none)) s5) →
      codeAny (model g.prog g.w) c.A.in1 (.builtin "list.extend.loop" ⟨[.ref S, .ref (σ3 (st.nx + 1)), .none], []⟩) R s4 := by
    rintro s4 σ4 n4 E R e4 eI ⟨m4, news4, r4⟩ z4 e4S hS4 hR
    have hj4 : ((st.new (.list [])).new (.iter false l 0)).hp (st.nx + 1) = some (.iter false l 0) := if_pos rfl
    have hl4 : ((st.new (.list [])).new (.iter false l 0)).hp l = some (.list vs) := by
      show (if l = st.nx + 1 then _ else if l = st.nx then _ else st.hp l) = _
      rw [if_neg (by omega), if_neg (by omega)]; exact hsq
    have hS0 : ((st.new (.list [])).new (.iter false l 0)).hp st.nx = some (.list []) := by
      show (if st.nx = st.nx + 1 then _ else if st.nx = st.nx then _ else st.hp st.nx) = _
      rw [if_neg (by omega), if_pos rfl]
    obtain ⟨us, nl, hml, L4, V4⟩ := r4.list hl4
    obtain ⟨oI, gI, hO, rl⟩ := r4.lay hj4
    rw [eI] at gI
    have hll : us.length = vs.length := V4.length
    have neI : σ4 l ≠ σ3 (st.nx + 1) := fun e => by
      have := r4.inj l (st.nx + 1) (by rw [hl4]; simp) (by rw [hj4]; simp) (e.trans eI.symm)
      omega
    have neS : S ≠ σ3 (st.nx + 1) := fun e => by
      have := r4.inj st.nx (st.nx + 1) (by rw [hS0]; simp) (by rw [hj4]; simp) (e4S.trans (e.trans eI.symm))
      omega
    have neSl : S ≠ σ4 l := fun e => by
      have := r4.inj st.nx l (by rw [hS0]; simp) (by rw [hl4]; simp) (e4S.trans e)
      omega
    have W := Walks.list (prog := g.prog) (w := g.w) (A := c.A.in1.in1) hh (σ3 (st.nx + 1)) (σ4 l) neI us.toArray
    refine codeAny_extend_loopS W.toS (by rw [List.size_toArray, hll]; exact Nat.le_trans hn (by decide +kernel)) S (by simp only [List.mem_cons, List.not_mem_nil, or_false, not_or]; exact ⟨neS, neSl⟩) .none _ 0 _ #[] n4 rfl (Nat.zero_le _) ⟨⟨oI, gI, hO.2⟩, L4⟩ hS4 (ItemsOf.nil _) fun s5 acc' c' hm hS5 hacc => ?_
    refine hR s5 ?_
    obtain rfl := items_eq hacc
    have hpn : ∀ p ∈ c.one.one.pins, p.1 ≠ σ4 (st.nx + 1) := fun p hp => ((r4.pins p hp).2.1 (st.nx + 1) (by rw [hj4]; simp)).symm
    obtain ⟨news5, r5, off⟩ := rl.unpinI hpn
    have hS5' : (((st.new (.list [])).new (.iter false l 0)).del (st.nx + 1)).hp st.nx = some (.list []) := by
      show (if st.nx = st.nx + 1 then _ else _) = _
      rw [if_neg (by omega)]; exact hS0
    obtain ⟨ob, rest, N, _, ne, sub, _, _, back⟩ := r5.take hS5'
    have keep : ∀ b o, b ≠ S → b ≠ σ3 (st.nx + 1) → s4.heap.get? b = some o → s5.heap.get? b = some o := fun b o h1 h2 => hm.heap b o (by simp only [List.mem_cons, List.not_mem_nil, or_false, not_or]; exact ⟨h1, h2⟩)
    have hd := N _ (.head _)
    rw [e4S] at hd ne N
    have hbI : g.base.get? (σ3 (st.nx + 1)) = none ∧ σ3 (st.nx + 1) ≠ c.L := by
      obtain ⟨_, ob, hm, _⟩ := r4.hp _ _ hj4
      have := (r4.nw _ hm).2
      rw [eI] at this
      exact ⟨this.2, this.1⟩
    have F5 : Fr g.base c.L s5.heap m4 := by
      obtain ⟨oL, a1, a2, hoL, a3⟩ := r5.fr.ns
      exact ⟨⟨oL, a1, a2, keep _ _ hd.2.1.symm hbI.2.symm hoL, a3⟩, fun b x e => keep b x (fun z => by have := hd.2.2; rw [← z, e] at this; cases this) (fun z => by have := hbI.1; rw [← z, e] at this; cases this) (r5.fr.keep b x e), r5.fr.above⟩
    have N5 : News g.base c.L s5.heap ((S, listOf us.toArray c') :: rest) := fun p hp => by
      rcases List.mem_cons.mp hp with rfl | hp
      · exact ⟨hS5, hd.2⟩
      · exact ⟨keep _ _ (ne p hp) (by have := off p (sub p hp); rw [eI] at this; exact this) (N p (.tail _ hp)).1, (N p (.tail _ hp)).2⟩
    have r6 := back s5.heap (listOf us.toArray c') (.list vs) F5 (by rw [e4S]; exact N5) ⟨us, c', rfl, V4⟩ (fun h => Bool.noConfusion h)
    have est : (((st.new (.list [])).new (.iter false l 0)).del (st.nx + 1)).put st.nx (.list vs) = ⟨st.loc, fun k => if k = st.nx then some (.list vs) else st.hp k, st.nx + 2⟩ := by
      show (⟨st.loc, _, st.nx + 2⟩ : AS) = _
      congr 1
      funext k
      show (if k = st.nx then _ else if k = st.nx + 1 then none else if k = st.nx + 1 then _ else if k = st.nx then _ else st.hp k) = _
      by_cases h1 : k = st.nx
      · simp [h1]
      · by_cases h2 : k = st.nx + 1
        · subst h2; simp [fresh (st.nx + 1) (by omega)]
        · simp [h1, h2]
    rw [est] at r6
    have e46 : Ext st.nx σ σ4 (st.nx + 2) := ⟨by omega, fun k hk => (e4.eq k hk).trans (e1.eq k hk)⟩
    have zz : Still g s5 := ⟨hm.os.trans z4.1, hm.drawn.trans z4.2.1, by rw [hm.gens]; exact z4.2.2⟩
    exact ⟨_, σ4, _, q, e46, rep_unone (rep_unone ⟨⟨_, _, r6⟩, zz⟩), by show st.nx < st.nx + 2; omega, by rw [e4S]⟩
  have e3' : Ext st.nx σ1 σ3 (st.nx + 2) := ⟨by omega, e13⟩
  have e3S : σ3 st.nx = S := (e3.eq st.nx (Nat.lt_succ_self _)).trans e1S
  unfold Builtin.List.listLengthHint
  refine wpAny_bind (wpAny_bind (I3.type.here ((looks_findIn K3 hs).here ?_)))
  refine wpAny_ite_split (fun hab => absurd hab (show ¬ (false = true) by decide)) (fun _ => ?_)
  refine wpAny_ite_split (fun _ => ?_) (fun hab => absurd rfl hab)
  refine wpAny_bind (wpAny_rule ?_)
  refine wpAny_bind (wpAny_attempt (wpAny_mono (hL σ3 s3 [.ref (σ i)] R3 ⟨_, _, rfl, ⟨by show i < st.nx + 2; omega, by rw [σ3i]⟩, rfl⟩) (fun w4 s4 hw => ?_) fun _ _ ⟨_, _, _, h, _⟩ => h.elim))
  obtain ⟨b, σ4, st4, ⟨⟨k, rfl, k0, k1⟩, rfl⟩, e4, ⟨⟨m4, news4, r4⟩, z4⟩, t, rfl⟩ := hw
  refine wpAny_bind (m := asInt? (.int k t)) (wpAny_pure ?_)
  have hlong : ¬ (Builtin.List.listTooLong k.toNat = true) := by
    unfold Builtin.List.listTooLong
    simp only [gt_iff_lt, decide_eq_true_eq, Nat.not_lt]
    exact Nat.le_trans (by omega : k.toNat ≤ 1000) (by decide +kernel)
  refine wpAny_ite_split (fun hab => absurd hab hlong) (fun _ => ?_)
  refine wpAny_pure ?_
  have e14 : Ext st.nx σ1 σ4 (st.nx + 2) := ⟨by omega, fun k hk => (e4.eq k (by show k < st.nx + 2; omega)).trans (e13 k hk)⟩
  have e4I : σ4 (st.nx + 1) = σ3 (st.nx + 1) := e4.eq _ (by show st.nx + 1 < st.nx + 2; omega)
  have e4S : σ4 st.nx = S := (e4.eq _ (by show st.nx < st.nx + 2; omega)).trans e3S
  have hS0 : ((st.new (.list [])).new (.iter false l 0)).hp st.nx = some (.list []) := by
    show (if st.nx = st.nx + 1 then _ else if st.nx = st.nx then _ else st.hp st.nx) = _
    rw [if_neg (by omega), if_pos rfl]
  obtain ⟨us4, n4, hm4, _, V4⟩ := r4.list hS0
  obtain rfl : us4 = [] := V4
  rw [e4S] at hm4
  have hS4 := (r4.nw _ hm4).1
  refine wpAny_ite_split (fun _ => ?_) (fun _ => wpAny_pure ⟨plainId_quiet PySem.F.plain_extend_loop _, loop s4 σ4 n4 (fun _ _ => True) _ e14 e4I ⟨_, _, r4⟩ z4 e4S hS4 fun s5 p => ⟨rfl, p⟩⟩)
  refine wpAny_bind (wpAny_rule ?_)
  refine wpAny_bind ?_
  show wpAny _ _ (updateSeq S (·.push .none) >>= fun _ => updateSeq S (·.pop)) _ _ _
  refine wpAny_bind (wpAny_updateSeq hS4 rfl ?_)
  have hS₅ := Heap.get?_update_self (Obj.mapSeq (·.push Value.none)) hS4 rfl
  refine wpAny_updateSeq (hz := by seq_fits) hS₅ rfl ?_
  have hS₆ := Heap.get?_update_self (Obj.mapSeq (·.pop)) hS₅ rfl
  obtain ⟨news6, r6⟩ := touch r4 hS0 e4S ((Heap.SameBut.update ..).trans (Heap.SameBut.update ..)) hS₆
  exact wpAny_pure ⟨plainId_quiet PySem.F.plain_extend_loop _, loop _ σ4 _ (fun _ _ => True) _ e14 e4I ⟨_, _, r6⟩ z4 e4S hS₆ fun s5 p => ⟨rfl, p⟩⟩
end
end Sx

namespace Sx
def bL {β : Type} (kindOf : Str → Option NameKind) : List (Str × β) → (Str → Option β) → Str → Option β
  | [], m => m
  | (n, v) :: r, m => bL kindOf r (if kindOf n = some .local then fun y => if y = n then some v else m y else m)
def bC {β : Type} (kindOf : Str → Option NameKind) : List (Str × β) → (Str → Option β) → Str → Option β
  | [], m => m
  | (n, v) :: r, m => bC kindOf r (if kindOf n = some .local then m else fun y => if y = n then some v else m y)
theorem bL_ok {σ : Nat → Addr} {nx : Nat} {kindOf : Str → Option NameKind} : ∀ {pn : List Str} {as : List AV} {us : List Value} {f : Str → Option AV} {m : Str → Option Value}, VRs σ nx as us → (∀ x a, f x = some a → ∃ v, m x = some v ∧ VR σ nx a v) →
    ∀ x a, bL kindOf (pn.zip as) f x = some a → ∃ v, bindL kindOf (pn.zip us) m x = some v ∧ VR σ nx a v
  | [], _, _, _, _, _, H => H
  | p :: pn, [], us, _, _, V, H => by cases V; exact H
  | p :: pn, a :: as, us, f, m, ⟨v, r, h, W, V⟩, H => by
    subst h
    show ∀ x a', bL kindOf (pn.zip as) _ x = some a' → ∃ v, bindL kindOf (pn.zip r) _ x = some v ∧ VR σ nx a' v
    refine bL_ok V fun x b e => ?_
    by_cases k : kindOf p = some .local
    · rw [if_pos k] at e ⊢
      by_cases q : x = p
      · have e : (if x = p then some a else f x) = some b := e
        rw [if_pos q] at e; cases e
        exact ⟨v, if_pos q, W⟩
      · have e : (if x = p then some a else f x) = some b := e
        rw [if_neg q] at e
        obtain ⟨u, h1, h2⟩ := H x b e
        exact ⟨u, (if_neg q).trans h1, h2⟩
    · rw [if_neg k] at e ⊢
      exact H x b e
theorem bC_ok {σ : Nat → Addr} {nx : Nat} {kindOf : Str → Option NameKind} : ∀ {pn : List Str} {as : List AV} {us : List Value} {f : Str → Option AV} {m : Str → Option Value}, VRs σ nx as us → (∀ x a, f x = some a → ∃ v, m x = some v ∧ VR σ nx a v) →
    ∀ x a, bC kindOf (pn.zip as) f x = some a → ∃ v, bindC kindOf (pn.zip us) m x = some v ∧ VR σ nx a v
  | [], _, _, _, _, _, H => H
  | p :: pn, [], us, _, _, V, H => by cases V; exact H
  | p :: pn, a :: as, us, f, m, ⟨v, r, h, W, V⟩, H => by
    subst h
    show ∀ x a', bC kindOf (pn.zip as) _ x = some a' → ∃ v, bindC kindOf (pn.zip r) _ x = some v ∧ VR σ nx a' v
    refine bC_ok V fun x b e => ?_
    by_cases k : kindOf p = some .local
    · rw [if_pos k] at e ⊢
      exact H x b e
    · rw [if_neg k] at e ⊢
      by_cases q : x = p
      · have e : (if x = p then some a else f x) = some b := e
        rw [if_pos q] at e; cases e
        exact ⟨v, if_pos q, W⟩
      · have e : (if x = p then some a else f x) = some b := e
        rw [if_neg q] at e
        obtain ⟨u, h1, h2⟩ := H x b e
        exact ⟨u, (if_neg q).trans h1, h2⟩
theorem vro {σ : Nat → Addr} {nx : Nat} {a : Option AV} {v : Option Value} (h : ∀ b, a = some b → ∃ u, v = some u ∧ VR σ nx b u) : VRo σ nx a v := by
  cases a with
  | none => trivial
  | some b => exact h b rfl

section
variable {g : Gl} {d : Nat} {hp : HP} {nx : Nat} {Q : AV → HP → Nat → Prop} {X : String → HP → Nat → Prop}
theorem RepN.new' {c : Cx} {σ : Nat → Addr} {st : AS} {m : Str → Option Value} {news : List (Addr × Obj)} {h : Heap} (r : RepN g c σ st m news h) {a : Addr} {ob : Obj} {o : AO} (N : h.get? a = some ob ∧ a ≠ c.L ∧ g.base.get? a = none) (l : ∀ p ∈ news, p.1 ≠ a)
    (e : OR σ st.nx o ob) (hlo : o.isDict = true → 1 < a := by exact fun h => Bool.noConfusion h) : RepN g c (fun i => if i = st.nx then a else σ i) (st.new o) m ((a, ob) :: news) h := by
  have ex : Ext st.nx σ (fun i => if i = st.nx then a else σ i) (st.new o).nx := ⟨Nat.le_succ _, fun i hi => if_neg (Nat.ne_of_lt hi)⟩
  have old : ∀ i, st.hp i ≠ none → (if i = st.nx then a else σ i) = σ i ∧ σ i ≠ a ∧ i ≠ st.nx := fun i hi => by
    obtain ⟨o', ho'⟩ := Option.ne_none_iff_exists'.mp hi
    obtain ⟨lt, ob', hm, _⟩ := r.hp i o' ho'
    exact ⟨if_neg (Nat.ne_of_lt lt), l _ hm, Nat.ne_of_lt lt⟩
  have key : ∀ k, (st.new o).hp k ≠ none → k = st.nx ∨ st.hp k ≠ none := fun k hk => by
    by_cases z : k = st.nx
    · exact .inl z
    · exact .inr (by simpa [AS.new, z] using hk)
  refine { fr := r.fr, nw := fun p hp => ?_, lo := lo_new r.lo (fun i o q => (r.hp i o q).1) hlo, loc := r.loc.ext rfl ex, hp := fun i o' q => ?_, inj := fun i j hi hj q => ?_, outs := fun p hp => ?_, sep := fun i hi p hp => ?_, cids := fun x i q => ?_, pins := fun p hp => ⟨.tail _ (r.pins p hp).1, fun i hi => ?_, (r.pins p hp).2.2⟩ }
  · rcases List.mem_cons.mp hp with rfl | hp
    · exact N
    · exact r.nw p hp
  · by_cases hi : i = st.nx
    · subst hi
      have : o' = o := by simp [AS.new] at q; exact q.symm
      subst this
      exact ⟨Nat.lt_succ_self _, ob, by simp, e.mono ex⟩
    · have q' : st.hp i = some o' := by simpa [AS.new, hi] using q
      obtain ⟨lt, ob', hm, ho⟩ := r.hp i o' q'
      exact ⟨Nat.lt_succ_of_lt lt, ob', by rw [if_neg hi]; exact List.mem_cons_of_mem _ hm, ho.mono ex⟩
  · rcases key i hi with rfl | hi' <;> rcases key j hj with rfl | hj'
    · rfl
    · obtain ⟨x1, x2, x3⟩ := old j hj'
      (try dsimp only at q)
      rw [if_pos rfl, x1] at q
      exact absurd q.symm x2
    · obtain ⟨x1, x2, x3⟩ := old i hi'
      (try dsimp only at q)
      rw [if_pos rfl, x1] at q
      exact absurd q x2
    · (try dsimp only at q)
      rw [(old i hi').1, (old j hj').1] at q
      exact r.inj i j hi' hj' q
  · obtain ⟨o', hm, hn⟩ := r.outs p hp
    exact ⟨o', List.mem_cons_of_mem _ hm, hn⟩
  · rcases key i hi with rfl | hi'
    · obtain ⟨o', hm, _⟩ := r.outs p hp
      (try dsimp only)
      rw [if_pos rfl]
      exact (l _ hm).symm
    · (try dsimp only)
      rw [(old i hi').1]
      exact r.sep i hi' p hp
  · obtain ⟨lt, q'⟩ := r.cids x i q
    exact ⟨Nat.lt_succ_of_lt lt, by rw [if_neg (Nat.ne_of_lt lt)]; exact q'⟩
  · rcases key i hi with rfl | hi'
    · (try dsimp only)
      rw [if_pos rfl]
      exact (l _ (r.pins p hp).1).symm
    · (try dsimp only)
      rw [(old i hi').1]
      exact (r.pins p hp).2.1 i hi'

def addC (ca : Str → Option AV) : List Str → AS → AS
  | [], st => st
  | x :: xs, st => addC ca xs (st.new (.cell (ca x)))
theorem addC_loc {ca : Str → Option AV} : ∀ {xs : List Str} {st : AS}, (addC ca xs st).loc = st.loc ∧ (addC ca xs st).nx = st.nx + xs.length
  | [], _ => ⟨rfl, rfl⟩
  | x :: xs, st => by
    obtain ⟨a, b⟩ := addC_loc (ca := ca) (xs := xs) (st := st.new (.cell (ca x)))
    refine ⟨a, b.trans ?_⟩
    show st.nx + 1 + xs.length = st.nx + (xs.length + 1)
    omega
theorem addCells {c : Cx} {ca : Str → Option AV} {cm : Str → Option Value} {m : Str → Option Value} {h : Heap} : ∀ (xs : List Str) (a0 : Addr) {σ : Nat → Addr} {st : AS} {news : List (Addr × Obj)}, RepN g c σ st m news h → (∀ i x, xs[i]? = some x → ∃ o, h.get? (a0 + i) = some o ∧ o.data = .cell (cm x)) → (∀ p ∈ news, p.1 < a0) →
    (∀ a, a0 ≤ a → a ≠ c.L ∧ g.base.get? a = none) → (∀ x b, ca x = some b → ∃ u, cm x = some u ∧ VR σ st.nx b u) → ∃ σ' news', RepN g c σ' (addC ca xs st) m news' h ∧ Ext st.nx σ σ' (st.nx + xs.length) ∧ ∀ i, i < xs.length → σ' (st.nx + i) = a0 + i
  | [], a0, σ, st, news, r, _, _, _, _ => ⟨σ, news, r, .refl, fun i h => absurd h (Nat.not_lt_zero _)⟩
  | x :: xs, a0, σ, st, news, r, hc, hl, hb, hv => by
    obtain ⟨o, g0, d0⟩ := hc 0 x rfl
    have r1 := r.new' (a := a0) (ob := o) (o := .cell (ca x)) ⟨g0, hb a0 (Nat.le_refl _)⟩ (fun p hp => Nat.ne_of_lt (hl p hp)) ⟨_, d0, vro fun b e => hv x b e⟩
    have e1 : Ext st.nx σ (fun i => if i = st.nx then a0 else σ i) (st.nx + 1) := ⟨Nat.le_succ _, fun i hi => if_neg (Nat.ne_of_lt hi)⟩
    obtain ⟨σ', news', r2, e2, h2⟩ := addCells xs (a0 + 1) r1 (fun i y hy => by
      obtain ⟨o', a, b⟩ := hc (i + 1) y hy
      exact ⟨o', by rw [Nat.add_right_comm, Nat.add_assoc]; exact a, b⟩) (fun p hp => by
      rcases List.mem_cons.mp hp with rfl | hp
      · exact Nat.lt_succ_self _
      · exact Nat.lt_succ_of_lt (hl p hp)) (fun a ha => hb a (Nat.le_of_succ_le ha)) (fun y b e => let ⟨u, p, q⟩ := hv y b e; ⟨u, p, q.mono e1⟩)
    refine ⟨σ', news', r2, ⟨by omega, fun i hi => (e2.eq i (Nat.lt_succ_of_lt hi)).trans (e1.eq i hi)⟩, fun i hi => ?_⟩
    cases i with
    | zero =>
      have := e2.eq st.nx (Nat.lt_succ_self _)
      exact this.trans (if_pos rfl)
    | succ i =>
      have hi' : i < xs.length := Nat.lt_of_succ_lt_succ hi
      have := h2 i hi'
      show σ' (st.nx + (i + 1)) = a0 + (i + 1)
      rw [Nat.add_comm i 1, ← Nat.add_assoc, ← Nat.add_assoc]
      exact this

theorem zip_lookup {xs : List Str} {n i : Nat} {x : Str} (h : (xs.zipIdx n).lookup x = some i) : ∃ k, i = n + k ∧ xs[k]? = some x ∧ k < xs.length := by
  have hm := mem_of_lookup h
  have := List.mem_zipIdx hm
  obtain ⟨h1, h2, h3⟩ := this
  refine ⟨i - n, by omega, ?_, by omega⟩
  rw [h3, List.getElem?_eq_getElem]

set_option maxHeartbeats 1000000 in
theorem fn_cs {f : Addr} {name qual : Str} {params : Arguments} {body : List Stmt} {scope : Scope} {dV kV doc pm cdv ct oc : Value} {an od : Option Addr} {osl : Array (Option Value)} {as : List AV} (G : g.Ok)
    (hK : g.K.lookup f = some ⟨oc, od, .func (fnOf name qual params body scope dV kV doc pm an cdv ct), osl⟩) (hcd : codeIn g.K cdv qual = true) (pn : List Str) (xs : List Str)
    (hbind : ∀ s us, us.length = as.length → BindsTo s (fnOf name qual params body scope dV kV doc pm an cdv ct) ⟨us, []⟩ (pn.zip us))
    (hcs : ∀ n, cellsFrom n scope.names [] = (xs.zipIdx n).reverse) (hnd : xs.Nodup)
    (hkind : pn.all (fun y => scope.names.lookup y == some .local || (scope.names.lookup y == some .cell && xs.contains y)) = true) (hco : scope.isCoroutine = false) (hgen : scope.isGenerator = false) (hk : scope.kind = .function)
    (hbody : ∀ A L outer outs pins, (mkC qual scope f cdv (cellsFrom (L + 1) scope.names []) (fun y => (xs.zipIdx nx).lookup y) A L outer outs pins).Ok → Room A d → (∀ j, nx ≤ j → hp j = none) →
      SS g (mkC qual scope f cdv (cellsFrom (L + 1) scope.names []) (fun y => (xs.zipIdx nx).lookup y) A L outer outs pins) body (addC (bC (fun x => scope.names.lookup x) (pn.zip as) (fun _ => none)) xs ⟨bL (fun x => scope.names.lookup x) (pn.zip as) (fun _ => none), hp, nx⟩) (fun fl st' => Q (retOf fl) st'.hp st'.nx) (fun cls st' => X cls st'.hp st'.nx)) :
    Fn g (d + 1) f as hp nx Q X := by
  intro c loc σ s us O Rm H V
  have hbd : ∀ j, nx ≤ j → hp j = none := by
    obtain ⟨⟨m, news, r⟩, _⟩ := H
    intro j hj
    cases q : hp j with
    | none => rfl
    | some o => exact absurd (r.hp j o q).1 (Nat.not_lt.mpr hj)
  have X' := RepK G H
  have hkp : ∀ b o, g.base.get? b = some o → s.heap.get? b = some o := by obtain ⟨⟨m, news, r⟩, _⟩ := H; exact r.fr.keep
  have hlk : ∀ n i x, xs[i]? = some x → (cellsFrom n scope.names []).lookup x = some (n + i) := fun n i x hx => by
    rw [hcs]
    refine lookup_of_mem_nodup ?_ ?_
    · rw [List.map_reverse, List.zipIdx_map_fst, List.Nodup, List.pairwise_reverse]; exact hnd.imp Ne.symm
    · rw [List.mem_reverse]
      obtain ⟨hl, hx⟩ := List.getElem?_eq_some_iff.mp hx
      have : (xs.zipIdx n)[i]'(by rw [List.length_zipIdx]; exact hl) = (x, n + i) := by rw [List.getElem_zipIdx, hx]
      rw [← this]
      exact List.getElem_mem _
  refine codeAny_call_function (fd := fnOf name qual params body scope dV kV doc pm an cdv ct) (body := body) (by have := Rm.depth; omega) (X' _ _ hK) rfl hco hgen rfl (codeRec_of X' hcd) (hbind s us V.length _ _ _ _ ?_)
  have hkd : ∀ n, ∀ x ∈ pn.zip us, scope.names.lookup x.1 = some .local ∨ (scope.names.lookup x.1 = some .cell ∧ ((cellsFrom n scope.names []).lookup x.1).isSome = true) := fun n x hx => by
    have h := List.all_eq_true.mp hkind x.1 (List.of_mem_zip hx).1
    rw [Bool.or_eq_true, Bool.and_eq_true] at h
    rcases h with h | ⟨h1, h2⟩
    · exact .inl (beq_iff_eq.mp h)
    · refine .inr ⟨beq_iff_eq.mp h1, ?_⟩
      obtain ⟨i, hi⟩ := List.mem_iff_getElem?.mp (List.contains_iff_mem.mp h2)
      rw [hlk n i _ hi]; rfl
  refine wpAny_newFunctionEnv_cells hk (hkd _) fun env' he s' x => ?_
  subst he
  refine ⟨(G.T.nolimit.keeps hkp).keeps x.toInCall.keep, codeAny_func ?_⟩
  obtain ⟨h₁, tk, rfl, _⟩ := x.done
  have hk₁ := x.toInCall.keep
  obtain ⟨⟨m, news, r⟩, z⟩ := H
  have hns := x.toInCall.ns
  have xc := x.cell
  clear x
  have lL : ∀ b o, s.heap.get? b = some o → b < s.heap.objs.size := fun b o e => Heap.lt_size e
  have O' := callee_ok (qual := qual) (scope := scope) (f := f) (cdv := cdv) (cells := cellsFrom (s.heap.objs.size + 1) scope.names []) (cid := fun y => (xs.zipIdx nx).lookup y) (L := s.heap.objs.size) O r (Nat.le_refl _) hk O.frames
  obtain ⟨oL, r₁⟩ := callee_rep (qual := qual) (scope := scope) (f := f) (cdv := cdv) (A := c.A.deeper (envX qual scope s.heap.objs.size f cdv (cellsFrom (s.heap.objs.size + 1) scope.names []))) (loc := bL (fun x => scope.names.lookup x) (pn.zip as) (fun _ => none)) O r hns hk₁ (Nat.le_refl _) (bL_ok V fun x a e => (nomatch e))
  obtain ⟨σ₀, news₀, r₂, e₀, hσ⟩ := addCells (ca := bC (fun x => scope.names.lookup x) (pn.zip as) (fun _ => none)) xs (s.heap.objs.size + 1) r₁ (fun i x hx => xc x _ (hlk _ i x hx)) (fun p hp => by
    rcases List.mem_cons.mp hp with rfl | hp
    · exact Nat.lt_succ_of_lt r.fr.ns.lt
    · exact Nat.lt_succ_of_lt (Heap.lt_size (r.nw p hp).1)) (fun a ha => ⟨(Nat.ne_of_lt ha).symm, by
      cases q : g.base.get? a with
      | none => rfl
      | some o => exact absurd (Heap.lt_size (hkp a o q)) (Nat.not_lt.mpr (Nat.le_of_succ_le ha))⟩) (bC_ok V fun x a e => (nomatch e))
  obtain ⟨l1, l2⟩ := addC_loc (ca := bC (fun x => scope.names.lookup x) (pn.zip as) (fun _ => none)) (xs := xs) (st := ⟨bL (fun x => scope.names.lookup x) (pn.zip as) (fun _ => none), hp, nx⟩)
  have cidsOk : ∀ y i, (xs.zipIdx nx).lookup y = some i → i < (addC (bC (fun x => scope.names.lookup x) (pn.zip as) (fun _ => none)) xs ⟨bL (fun x => scope.names.lookup x) (pn.zip as) (fun _ => none), hp, nx⟩).nx ∧ (cellsFrom (s.heap.objs.size + 1) scope.names []).lookup y = some (σ₀ i) := fun y i e => by
    obtain ⟨k, rfl, hk2, hk3⟩ := zip_lookup e
    refine ⟨?_, ?_⟩
    · rw [l2]; show nx + k < nx + xs.length; omega
    · have hs2 : σ₀ (nx + k) = s.heap.objs.size + 1 + k := hσ k hk3
      rw [hs2]
      exact hlk _ k y hk2
  have qf : RepN g (mkC qual scope f cdv (cellsFrom (s.heap.objs.size + 1) scope.names []) (fun y => (xs.zipIdx nx).lookup y) (c.A.deeper (envX qual scope s.heap.objs.size f cdv (cellsFrom (s.heap.objs.size + 1) scope.names []))) s.heap.objs.size (c.fenv :: c.outer) ((c.L, m) :: c.outs) c.pins) σ₀ _ _ news₀ h₁ := { r₂ with cids := cidsOk }
  have e₀' : Ext nx σ σ₀ (addC (bC (fun x => scope.names.lookup x) (pn.zip as) (fun _ => none)) xs ⟨bL (fun x => scope.names.lookup x) (pn.zip as) (fun _ => none), hp, nx⟩).nx := by rw [l2]; exact e₀
  have B := hbody _ _ _ _ _ O' Rm.deeper hbd _ { s with heap := h₁, toks := tk } ⟨⟨_, _, qf⟩, z⟩
  refine wpAny_mono B (fun fl s' hq => ?_) fun e s' hq => ?_
  · obtain ⟨a, σ', st', q, e, ⟨⟨m', news', r'⟩, z'⟩, x⟩ := hq
    obtain ⟨nw2, r2, _⟩ := RepN.back O r' rfl rfl (Nat.ne_of_lt r.fr.ns.lt) r.fr.above r.loc r.cids (e₀'.trans e)
    refine ⟨retOf a, σ', ⟨loc, st'.hp, st'.nx⟩, ⟨rfl, q⟩, e₀'.trans e, ⟨⟨m, nw2, r2⟩, z'⟩, ?_⟩
    cases a with
    | next => cases x; rfl
    | brk => cases x; rfl
    | cont => cases x; rfl
    | ret a => obtain ⟨v, rfl, W⟩ := x; exact W
  · obtain ⟨cls, σ', st', q, ex, ⟨m', news', r', a, B', a0, rfl, hB, hk', P⟩, z'⟩ := hq
    refine leaves O' O'.frames P fun h' fl hs => ?_
    obtain ⟨nw3, r3, sub3⟩ := r'.slots (h' := h') (fun b o e => fl.1 b o (hB b o e)) (fun q hq n => fl.1 _ _ (hk' q hq n)) hs
    obtain ⟨nw2, r2, sub2⟩ := RepN.back O r3 rfl rfl (Nat.ne_of_lt r.fr.ns.lt) r.fr.above r.loc r.cids (e₀'.trans ex)
    refine ⟨cls, σ', ⟨loc, st'.hp, st'.nx⟩, ⟨rfl, q⟩, e₀'.trans ex, ⟨m, nw2, r2, a, B', a0, rfl, hB, fun p hp => ?_, .fly fl⟩, z'⟩
    intro n
    have nf : NoFrame (mkC qual scope f cdv (cellsFrom (s.heap.objs.size + 1) scope.names []) (fun y => (xs.zipIdx nx).lookup y) (c.A.deeper (envX qual scope s.heap.objs.size f cdv (cellsFrom (s.heap.objs.size + 1) scope.names []))) s.heap.objs.size (c.fenv :: c.outer) ((c.L, m) :: c.outs) c.pins) p := fun y hy => by
      rcases List.mem_cons.mp hy with rfl | hy
      · exact (r2.nw p hp).2.1
      · exact n y hy
    exact hk' p (sub3 p (sub2 p hp) nf) nf
end
end Sx

namespace Sx
section
variable {g : Gl} {c : Cx} {st : AS} {Q : AV → AS → Prop} {X : String → AS → Prop} {pos : Pos} {i j : Int}
theorem op_mul (q : Q (.int (i * j)) st) (hm : IntMulOk i j) : Op2 g c (binaryOp .Mult) (.int i) (.int j) st Q X := fun σ s u v H ⟨t, e1⟩ ⟨t', e2⟩ => by subst e1 e2; exact mul_int (here q H.toks ⟨_, rfl⟩) hm
theorem op_eqb {a b : Bool} (q : Q (.bool (a == b)) st) : Op2 g c (compareOp .Eq) (.bool a) (.bool b) st Q X := fun σ s u v H e1 e2 => by cases e1; cases e2; exact eq_bool (here q H rfl)
theorem op_titem {l : Nat} {vs : List AV} {k : Int} {a : AV} {v s : Expr} (hl : st.hp l = some (.tup vs)) (h0 : 0 ≤ k) (hx : vs[k.toNat]? = some a) (q : Q a st) (hb : k < 2 ^ 63 := by omega)
    (hs : ∀ x u, subscripted s false (.ref x) (.int k u) = operate [.ref x, .int k u] (getItem (.ref x) (.int k u)) := by intro _ _; with_unfolding_all rfl) : Op2 g c (subscriptTail v s) (.ref l) (.int k) st Q X := by
  rintro σ s u v ⟨⟨m, news, r⟩, z⟩ ⟨la, rfl⟩ ⟨t, rfl⟩
  obtain ⟨us, n, hm, ho, V⟩ := r.tup hl
  obtain ⟨w, hw, W⟩ := V.get hx
  have L : IsTup s.heap (σ l) us.toArray := ⟨_, ho, rfl, n, rfl⟩
  have hlt : k.toNat < us.toArray.size := by
    obtain ⟨a, _⟩ := List.getElem?_eq_some_iff.mp hw
    simpa using a
  exact tail_any L.typeIs PyProof.Rows.slot_tuple_getitem.lookup (getItem_tuple L (Int.le_trans (by decide) h0) hb (j := k.toNat) (by
    unfold seqIndex?
    have e1 : (if k < 0 then k + (us.toArray.size : Int) else k) = k := if_neg (by omega)
    simp only [e1]
    exact if_pos (by simp only [Bool.and_eq_true, decide_eq_true_eq]; omega)) (by simpa using hw) (here q ⟨⟨m, news, r⟩, z⟩ W)) (hs _ _)

theorem op_addl {a b : Nat} {vs ws : List AV} (ha : st.hp a = some (.list vs)) (hb : st.hp b = some (.list ws)) (q : Q (.ref st.nx) (st.new (.list (vs ++ ws)))) (hn : vs.length + ws.length ≤ 1000) : Op2 g c (binaryOp .Add) (.ref a) (.ref b) st Q X := by
  rintro σ s u v ⟨⟨m, news, r⟩, z⟩ ⟨la, rfl⟩ ⟨lb, rfl⟩
  obtain ⟨us, n, hm, L, V⟩ := r.list ha
  obtain ⟨us', n', hm', L', V'⟩ := r.list hb
  refine add_lists r.fr r.nw L L' (fun h' F' N' => ?_) (by rw [V.length, V'.length]; exact Nat.le_trans hn (by decide +kernel))
  obtain ⟨r', e'⟩ := r.new (o := .list (vs ++ ws)) F' N' (fun p hp => Heap.lt_size (r.nw p hp).1) ⟨us ++ us', 0, rfl, ((V.append V').mono ⟨Nat.le_succ _, fun i hi => if_neg (Nat.ne_of_lt hi)⟩)⟩
  exact ⟨_, _, _, q, e', ⟨⟨_, _, r'⟩, z⟩, Nat.lt_succ_self _, by simp⟩

theorem op_eqls {l : Nat} {vs : List AV} {x : Str} (hu : c.A.units < cLine) (hl : st.hp l = some (.list vs)) (q : Q (.bool false) st) : Op2 g c (compareOp .Eq) (.ref l) (.str x) st Q X := by
  rintro σ s u v ⟨⟨m, news, r⟩, z⟩ ⟨la, rfl⟩ ⟨t, rfl⟩
  obtain ⟨us, n, hm, L, V⟩ := r.list hl
  show wpAny _ _ (richCompare .Eq _ _) _ _ _
  exact PySem.SeqAt.RcAt.list_str x t L hu _ _ _ _ (here q ⟨⟨m, news, r⟩, z⟩ rfl)
theorem op_isStr {l : Nat} {x : Str} (q : Q (.bool false) st) : Op2 g c (compareOp .Is) (.str x) (.ref l) st Q X := by
  rintro σ s u v H ⟨t, rfl⟩ ⟨la, rfl⟩
  exact wpAny_is_other rfl (by intro h; cases h) (here q H rfl)

theorem call_isinst {i d : Nat} {C : Addr} {o : Option AV} (G : g.Ok) (hi : st.hp i = some (.inst C d)) (hd : st.hp d = some (.sdict o)) (e : isIn g.K (.ref C) C = true) (q : Q (.bool true) st) : CallV g c (.builtin "isinstance") [.ref i, .con (.ref C)] st Q X := by
  rintro σ s us ⟨⟨m, news, r⟩, z⟩ ⟨_, _, rfl, ⟨la, rfl⟩, _, _, rfl, rfl, rfl⟩
  obtain ⟨sl, od, I, _⟩ := r.instAt hi hd
  exact isi_call (G.X.keeps r.fr.keep) (fun M => I.type) e (by intro h; cases h) (here q ⟨⟨m, news, r⟩, z⟩ rfl)

theorem call_sorted {l : Nat} {ns : List Int} (hl : st.hp l = some (.list (ns.map .int))) (hn : ns.length < 64) (q : ∀ ns' : List Int, ns'.Perm ns → ns'.Pairwise (· ≤ ·) → Q (.ref st.nx) (st.new (.list (ns'.map .int)))) : CallV g c (.builtin "sorted") [.ref l] st Q X := by
  rintro σ s us ⟨⟨m, news, r⟩, z⟩ ⟨_, _, rfl, ⟨la, rfl⟩, rfl⟩
  obtain ⟨us, n, hm, L, V⟩ := r.list hl
  refine kso_sorted r.fr r.nw L V.ints hn fun D vs' ns' e h' F' N' lt hi _ hp hs _ => ?_
  have V' : ∀ {ns : List Int} {us : List Value}, IntsAre us ns → ∀ {σ : Nat → Addr} {nx : Nat}, VRs σ nx (ns.map .int) us := fun {ns us} h => by
    intro σ nx
    induction h with
    | nil => rfl
    | cons _ _ _ ih => exact ⟨_, _, rfl, ⟨_, rfl⟩, ih⟩
  obtain ⟨r', e'⟩ := r.new (o := .list (ns'.map .int)) F' N' lt ⟨vs', e, rfl, V' hi⟩
  exact ⟨_, _, _, q ns' hp hs, e', ⟨⟨_, _, r'⟩, z⟩, Nat.lt_succ_self _, by simp⟩

/-- a slice of a list, both ends at hand -/
theorem ev_slice {v lo hi : Expr} {p : Pos} (h : EV g c v st (fun x st1 => EV g c lo st1 (fun y st2 => EV g c hi st2 (fun w st3 => ∃ (l : Nat) (vs : List AV) (a b : Nat), x = .ref l ∧ y = .int (a : Nat) ∧ w = .int (b : Nat) ∧ st3.hp l = some (.list vs) ∧ vs.length ≤ 1000 ∧ b ≤ vs.length ∧ Q (.ref st3.nx) (st3.new (.list ((vs.drop a).take (b - a))))) X) X) X)
    (ht : ∀ o r, letTemporaryGo v o r = pure () := by intro _ _; rfl) : EV g c (.Subscript v (.Slice (some lo) (some hi) none p) pos) st Q X := fun σ s H => by
  refine wpAny_Subscript_list_slice (seq h H fun u s1 x σ1 st1 h1 e1 H1 V1 => wpAny_evalPart_some (wp_ext (seq h1 H1 fun u2 s2 y σ2 st2 h2 e2 H2 V2 => wpAny_evalPart_some (wp_ext (seq h2 H2 fun u3 s3 w σ3 st3 h3 e3 H3 V3 => (?_ : (fun v s' => ∃ l items lo hi, u = .ref l ∧ s'.heap.IsList l items ∧ items.size ≤ sizeLine ∧ IsPart u2 lo ∧ IsPart v hi ∧
        PostOk g c VR σ st.nx Q (.ref (s'.heap.objs.size + 1)) { s' with heap := (s'.heap.push { cls := .type "slice", data := .fields #[u2, v, .none] }).push { cls := .type "list", data := .seq (slicePick items lo hi none) } }) u3 s3)) (fun _ _ y => y) fun _ _ y => y.ext (e1.trans e2))) (fun _ _ y => y) fun _ _ y => y.ext e1)) ht
  obtain ⟨l, vs, a, b, rfl, rfl, rfl, hl, hn, hb, q⟩ := h3
  obtain ⟨⟨m, news, r⟩, z⟩ := H3
  obtain ⟨la, rfl⟩ := V1
  obtain ⟨t2, rfl⟩ := V2
  obtain ⟨t3, rfl⟩ := V3
  have la' : l < st2.nx := Nat.lt_of_lt_of_le la e2.le
  obtain ⟨us, n, hm, L, V⟩ := r.list hl
  have el : σ3 l = σ1 l := (e3.eq l la').trans (e2.eq l la)
  rw [el] at L
  refine ⟨σ1 l, us.toArray, some (a : Int), some (b : Int), rfl, L, by rw [List.size_toArray, V.length]; exact Nat.le_trans hn (by decide +kernel), .int (a : Int) t2, .int (b : Int) t3, ?_⟩
  have ep : slicePick us.toArray (some (a : Int)) (some (b : Int)) none = ((us.drop a).take (b - a)).toArray := by
    rw [kms_pick_eq]
    unfold kms_pick
    have e1 : kms_lo (some (a : Int)) us.length = min a us.length := by
      unfold kms_lo
      dsimp only
      rw [if_neg (by omega), Int.toNat_natCast]
    have e2 : kms_hi (some (b : Int)) us.length = b := by
      unfold kms_hi
      dsimp only
      rw [if_neg (by omega), Int.toNat_natCast, V.length]; omega
    show (List.take (kms_hi _ us.length - kms_lo _ us.length) (List.drop (kms_lo _ us.length) us)).toArray = _
    rw [e1, e2]
    congr 1
    by_cases h : a ≤ us.length
    · rw [Nat.min_eq_left h]
    · rw [Nat.min_eq_right (by omega), List.drop_eq_nil_of_le (Nat.le_refl _), List.drop_eq_nil_of_le (by omega)]; simp
  rw [ep]
  have r1 := r.grown (h' := s3.heap.push { cls := .type "slice", data := .fields #[.int a t2, .int b t3, .none] }) fun _ _ e => Heap.get?_push_of_some _ e
  have hsz : (s3.heap.push { cls := .type "slice", data := .fields #[.int a t2, .int b t3, .none] }).objs.size = s3.heap.objs.size + 1 := Heap.size_push ..
  obtain ⟨r', e'⟩ := r1.new (o := .list ((vs.drop a).take (b - a))) (r1.fr.push { cls := .type "list", data := .seq ((us.drop a).take (b - a)).toArray }) (r1.nw.push r1.fr _) (fun p hp => Heap.lt_size (r1.nw p hp).1) ⟨(us.drop a).take (b - a), 0, rfl, ((V.drop a).take (b - a)).mono ⟨Nat.le_succ _, fun i hi => if_neg (Nat.ne_of_lt hi)⟩⟩
  exact ⟨_, _, _, q, ((e1.trans e2).trans e3).trans e', ⟨⟨_, _, r'⟩, z⟩, Nat.lt_succ_self _, by rw [hsz]; simp⟩
end
end Sx

namespace Sx
section
variable {g : Gl} {c : Cx} {st : AS} {X : String → AS → Prop} {pos : Pos}
theorem bind_name {x : Str} {a : AV} {st : AS} {Q : AS → Prop} {σ : Nat → Addr} {s : Shared} {u : Value} (h : SN g c x a st Q X) (H : Rep g c σ st s) (V : VR σ st.nx a u) : wpAny (model g.prog g.w) c.A (bindName c.env x u) (PostOk g c (fun _ _ (_ : Unit) (_ : Unit) => True) σ st.nx (fun _ st' => Q st')) (PostX g c σ st.nx X) s :=
  PyProof.Rows.bindName_ (h σ s u H V)
/-- x, y = value, the stores from behind -/
theorem st_unpack2 {x1 x2 : Str} {p1 p2 tp : Pos} {k : Nat} {e : Expr} {Q : AF → AS → Prop} (hh : c.A.handled = none)
    (h : EV g c e st (fun a st1 => ∃ t a1 a2, a = .ref t ∧ st1.hp t = some (.tup [a1, a2]) ∧ SN g c x2 a2 st1 (fun st2 => SN g c x1 a1 st2 (fun st3 => Q .next st3) X) X) X)
    (hs : swapsWithSole [.Tuple [.Name x1 p1, .Name x2 p2] k tp] e pos.line c.env = pure false := by rfl)
    (hw : swappedStores [.Tuple [.Name x1 p1, .Name x2 p2] k tp] e c.env = pure (some [x1, x2]) := by rfl) : ST g c (.Assign [.Tuple [.Name x1 p1, .Name x2 p2] k tp] e pos) st Q X := fun σ s H => by
  refine Assign_Tuple_swapped (seq h H fun u s1 a σ1 st1 h1 e1 H1 V1 => ?_) hs hw
  obtain ⟨t, a1, a2, rfl, ht, q⟩ := h1
  obtain ⟨⟨m, news, r⟩, z⟩ := H1
  obtain ⟨lt, rfl⟩ := V1
  obtain ⟨us, n, hm, ho, V⟩ := r.tup ht
  obtain ⟨v1, r1, rfl, W1, v2, r2, rfl, W2, rfl⟩ := V
  refine unpackItemsN_ r.fr r.nw (⟨_, ho, rfl, n, rfl⟩ : IsTup s1.heap (σ1 t) _) hh rfl fun h' F' N' => ?_
  show wpAny _ _ (do holding [v1] (bindName c.env x2 v2); (do holding [] (bindName c.env x1 v1); pure ())) _ _ _
  have H2 : Rep g c σ1 st1 { s1 with heap := h' } := ⟨⟨m, news, r.of F' N'⟩, z⟩
  refine wpAny_bind (wpAny_holding (wpAny_mono (bind_name q H2 W2) (fun _ s3 hq => ?_) fun _ _ y => y.ext e1))
  obtain ⟨_, σ3, st3, q3, e3, H3, _⟩ := hq
  refine wpAny_bind (wpAny_holding (wpAny_mono (bind_name q3 H3 (W1.mono e3)) (fun _ s4 hq => ?_) fun _ _ y => y.ext (e1.trans e3)))
  obtain ⟨_, σ4, st4, q4, e4, H4, _⟩ := hq
  exact wpAny_pure ⟨.next, σ4, st4, q4, (e1.trans e3).trans e4, H4, rfl⟩
end
end Sx

namespace Sx
def HP.put (hp : HP) (i : Nat) (o : AO) : HP := fun j => if j = i then some o else hp j
theorem HP.put_same {hp : HP} {i : Nat} {o : AO} (h : hp i = some o) : HP.put hp i o = hp := by
  funext j; unfold HP.put; split
  · rename_i e; rw [e, h]
  · rfl
theorem HP.put_put {hp : HP} {i : Nat} {o o' : AO} : HP.put (HP.put hp i o) i o' = HP.put hp i o' := by
  funext j; unfold HP.put; split <;> rfl
theorem HP.put_eq {hp : HP} {i : Nat} {o : AO} : HP.put hp i o i = some o := if_pos rfl
theorem HP.put_ne {hp : HP} {i j : Nat} {o : AO} (h : j ≠ i) : HP.put hp i o j = hp j := if_neg h

/-- nothing that stood is gone or changed -/
def HP.Le (hp hp' : HP) : Prop := ∀ i o, hp i = some o → hp' i = some o
theorem HP.Le.refl {hp : HP} : HP.Le hp hp := fun _ _ h => h
theorem HP.Le.trans {a b c : HP} (h : HP.Le a b) (k : HP.Le b c) : HP.Le a c := fun i o e => k i o (h i o e)
theorem HP.Le.put {a b : HP} {i : Nat} {o : AO} (h : HP.Le a b) (n : a i = none) : HP.Le a (HP.put b i o) := fun j x e => by
  rw [HP.put_ne (fun z => by rw [z, n] at e; cases e)]; exact h j x e
theorem HP.le_new {hp : HP} {nx : Nat} {o : AO} (hb : hp nx = none) : HP.Le hp (fun j => if j = nx then some o else hp j) := fun j x e => by
  show (if j = nx then some o else hp j) = _
  rw [if_neg (fun z => by rw [z, hb] at e; cases e)]; exact e


theorem HP.le_none {a b : HP} {i : Nat} (h : HP.Le a b) (n : b i = none) : a i = none := by
  cases e : a i with
  | none => rfl
  | some o => exact absurd ((h i o e).symm.trans n) (by simp)
section
variable {g : Gl} {c : Cx} {st : AS} {Q : AV → AS → Prop} {X : String → AS → Prop} {pos : Pos}
theorem RepN.pinned_put {σ : Nat → Addr} {m : Str → Option Value} {news : List (Addr × Obj)} {h h' : Heap} {i : Nat} {o o' : AO} {ob : Obj} (r : RepN g c σ st m news h) (q : st.hp i = some o) (hs : Heap.SameBut (σ i) h h') (hg : h'.get? (σ i) = some ob) (hO : OR σ st.nx o' ob) (hlo : o'.isDict = true → o.isDict = true := by exact fun h => Bool.noConfusion h) :
    ∃ news', RepN g c σ (st.put i o') m news' h' := by
  obtain ⟨ob0, rest, N, _, ne, _, _, _, back⟩ := r.take q
  have hd := N _ (.head _)
  exact ⟨_, back h' ob o' (r.fr.change hs hd.2.1 hd.2.2) (News.setAt (own := []) N (fun _ hp => nomatch hp) ne hs hg) hO hlo⟩

set_option maxHeartbeats 2000000 in
theorem call_sumlists {l e : Nat} {ps : List (Nat × List AV)} (O : c.Ok) (hh : c.A.handled = none) (hl : st.hp l = some (.list (ps.map fun p => .ref p.1))) (he : st.hp e = some (.list [])) (hr : ∀ p ∈ ps, st.hp p.1 = some (.list p.2)) (hn : (ps.flatMap (·.2)).length ≤ 1000) (hn2 : ps.length ≤ 1000)
    (q : ∀ t hp' nx', HP.Le st.hp hp' → hp' t = some (.list (ps.flatMap (·.2))) → Q (.ref t) ⟨st.loc, hp', nx'⟩) : CallV g c (.builtin "sum") [.ref l, .ref e] st Q X := by
  rintro σ s us H ⟨_, _, rfl, ⟨la, rfl⟩, _, _, rfl, ⟨le, rfl⟩, rfl⟩
  refine call_function_tree PySem.F.kind_sum PySem.F.plain_sum PySem.F.entry_sum (by unfold argsOk; kernel_rfl) ?_
  unfold Builtin.«sum»
  simp only [List.length_cons, List.length_nil]
  rw [if_neg (by decide)]
  refine wpAny_bind (wpAny_of_eq (show Builtin.Builtins.bindParams "sum" ["start"] 0 ⟨[.ref (σ e)], []⟩ = pure [some (.ref (σ e))] from rfl) ?_)
  have fresh : ∀ j, st.nx ≤ j → st.hp j = none := by
    obtain ⟨⟨m, news, r⟩, z⟩ := id H
    intro j hj
    cases q : st.hp j with
    | none => rfl
    | some o => exact absurd (r.hp j o q).1 (Nat.not_lt.mpr hj)
  refine wpAny_bind (wpAny_mono (pi_seq (c := c.one) (st := st) (T := false) (l := l) (vs := List.map (fun p : Nat × List AV => AV.ref p.1) ps) (Q := fun b st2 => b = .ref st.nx ∧ st2 = st.new (.iter false l 0)) (X := fun _ _ => False) hl ⟨rfl, rfl⟩ σ s (.ref (σ l)) (rep_one H) ⟨la, rfl⟩) (fun w s1 hw => ?_) fun _ _ ⟨_, _, _, h, _⟩ => h.elim)
  obtain ⟨b, σ1, st1, ⟨rfl, rfl⟩, e1, ⟨⟨m1, news1, r1⟩, z1⟩, lj, rfl⟩ := hw
  have he1 : (st.new (.iter false l 0)).hp e = some (.list []) := by
    show (if e = st.nx then _ else st.hp e) = _
    rw [if_neg (Nat.ne_of_lt le)]; exact he
  have σe : σ1 e = σ e := e1.eq e le
  obtain ⟨use, ne, hme, Le, Ve⟩ := r1.list he1
  rw [σe] at Le hme
  refine wpAny_bind (wpAny_pure ?_)
  simp only [List.forIn_cons, List.forIn_nil]
  have Te : ∀ T : String, isSubtype (.type "list") (.type T) = pure false → ∀ {R : Bool → Shared → Prop} {E : Value → Shared → Prop}, R false s1 → wpAny (model g.prog g.w) c.A.in1 (isInstance (.ref (σ e)) (.type T)) R E s1 := fun T hT R E hR => wpAny_isInstance (T := "list") (b := false) Le.typeIs hT hR
  refine wpAny_bind (wpAny_bind (wpAny_bind (Te "str" (by rw [isSubtype_type]; kernel_rfl) ?_)))
  simp only [Bool.false_eq_true, if_false]
  refine wpAny_pure (wpAny_bind (wpAny_bind (Te "bytes" (by rw [isSubtype_type]; kernel_rfl) ?_)))
  simp only [Bool.false_eq_true, if_false]
  refine wpAny_pure (wpAny_bind (wpAny_bind (Te "bytearray" (by rw [isSubtype_type]; kernel_rfl) ?_)))
  simp only [Bool.false_eq_true, if_false]
  refine wpAny_pure (wpAny_pure ?_)
  refine wpAny_bind (wpAny_newObj_type ?_)
  have hj1 : (st.new (.iter false l 0)).hp st.nx = some (.iter false l 0) := if_pos rfl
  have le1 : e < (st.new (.iter false l 0)).nx := Nat.lt_succ_of_lt le
  have ex2 : Ext (st.nx + 1) σ1 (fun i => if i = st.nx + 1 then s1.heap.objs.size else σ1 i) (st.nx + 2) := ⟨by omega, fun i hi => if_neg (Nat.ne_of_lt hi)⟩
  obtain ⟨r2, e2⟩ := r1.new (o := .list [.ref e]) (r1.fr.push { cls := .type "list", data := .seq [Value.ref (σ e)].toArray }) (r1.nw.push r1.fr _) (fun p hp => Heap.lt_size (r1.nw p hp).1) ⟨[.ref (σ e)], 0, rfl, VRs.mono ex2 (VRs.one (a := .ref e) ⟨le1, by rw [σe]⟩)⟩
  have hj2 : ((st.new (.iter false l 0)).new (.list [.ref e])).hp st.nx = some (.iter false l 0) := by
    show (if st.nx = st.nx + 1 then _ else (st.new (.iter false l 0)).hp st.nx) = _
    rw [if_neg (by omega)]; exact hj1
  have σI : (fun i => if i = (st.new (.iter false l 0)).nx then s1.heap.objs.size else σ1 i) st.nx = σ1 st.nx := if_neg (by show st.nx ≠ st.nx + 1; omega)
  have σS : (fun i => if i = (st.new (.iter false l 0)).nx then s1.heap.objs.size else σ1 i) (st.nx + 1) = s1.heap.objs.size := if_pos rfl
  have e02 : Ext st.nx σ (fun i => if i = (st.new (.iter false l 0)).nx then s1.heap.objs.size else σ1 i) (st.nx + 2) := e1.trans e2
  generalize (fun i => if i = (st.new (.iter false l 0)).nx then s1.heap.objs.size else σ1 i) = σ2 at r2 σI σS e02
  obtain ⟨oI, gI, hO, rl⟩ := r2.lay hj2
  rw [σI] at rl gI
  have hpn : ∀ p ∈ c.one.pins, p.1 ≠ σ1 st.nx := fun p hp => ((r1.pins p hp).2.1 st.nx (by rw [hj1]; simp)).symm
  have loop : ∀ (n k : Nat) (s' : Shared) (σ' : Nat → Addr) (hp' : HP) (nx' t : Nat) (o' : Obj), n = ps.length - k → k ≤ ps.length → Ext (st.nx + 2) σ2 σ' nx' → IterObj false (σ' l) k o' →
      (∃ m news, RepN g (c.one.pin (σ1 st.nx, o')) σ' ⟨st.loc, hp', nx'⟩ m news s'.heap) → Still g s' → HP.Le st.hp hp' → hp' (st.nx + 1) = some (.list [.ref t]) → hp' t = some (.list ((ps.take k).flatMap (·.2))) →
      codeAny (model g.prog g.w) c.A (.builtin "sum.loop" ⟨[.ref (σ1 st.nx), .ref s1.heap.objs.size, rawInt 2, rawInt 0], []⟩) (fun r s' => match r with | .ok (.ret v) => PostOk g c VR σ st.nx Q v s' | .ok _ => False | .error e => PostX g c σ st.nx X e s') s' := by
    intro n
    induction n with
    | zero =>
      rintro k s' σ' hp' nx' t o' hk kl e' it ⟨m', news', r'⟩ z' L' hS ht
      obtain rfl : k = ps.length := by omega
      obtain ⟨usS, nS, hmS, _, VS⟩ := r'.list hS
      obtain ⟨_, _, rfl, ⟨lt, rfl⟩, rfl⟩ := VS
      have hS' := (r'.nw _ hmS).1
      have eS : σ' (st.nx + 1) = s1.heap.objs.size := (e'.eq _ (Nat.lt_succ_self _)).trans σS
      dsimp only at hS'
      rw [eS] at hS'
      refine codeAny_builtin PySem.F.entry_sum_loop ?_
      rw [Around.under_plainId PySem.F.plain_sum_loop _]
      show wpAny _ _ (seqItems? (.ref s1.heap.objs.size) >>= _) _ _ s'
      refine wpAny_bind (wpAny_seqItems hS' rfl ?_)
      show wpAny _ _ (tryCatch (pyNext (.ref (σ1 st.nx))) _ >>= _) _ _ s'
      refine wpAny_bind (wpAny_tryCatch (next_end (c := c.one) (vs := List.map (fun p : Nat × List AV => AV.ref p.1) ps) ⟨⟨m', news', r'⟩, z'⟩ (L' _ _ hl) it (by simp) hpn hh fun h' H4 => ?_))
      refine wpAny_pure ?_
      rw [List.take_length] at ht
      exact ⟨_, σ', _, q t hp' nx' L' ht, e02.trans e', rep_unone H4, lt, rfl⟩
    | succ n ih =>
      rintro k s' σ' hp' nx' t o' hk kl e' it ⟨m', news', r'⟩ z' L' hS ht
      have kl' : k < ps.length := by omega
      obtain ⟨usS, nS, hmS, _, VS⟩ := r'.list hS
      obtain ⟨_, _, rfl, ⟨lt, rfl⟩, rfl⟩ := VS
      have hS' := (r'.nw _ hmS).1
      have eS : σ' (st.nx + 1) = s1.heap.objs.size := (e'.eq _ (Nat.lt_succ_self _)).trans σS
      dsimp only at hS'
      rw [eS] at hS'
      refine codeAny_builtin PySem.F.entry_sum_loop ?_
      rw [Around.under_plainId PySem.F.plain_sum_loop _]
      show wpAny _ _ (seqItems? (.ref s1.heap.objs.size) >>= _) _ _ s'
      refine wpAny_bind (wpAny_seqItems hS' rfl ?_)
      show wpAny _ _ (tryCatch (pyNext (.ref (σ1 st.nx))) _ >>= _) _ _ s'
      refine wpAny_bind (wpAny_tryCatch (next_item (c := c.one) (vs := List.map (fun p : Nat × List AV => AV.ref p.1) ps) (v := .ref ps[k].1) ⟨⟨m', news', r'⟩, z'⟩ (L' _ _ hl) it (by rw [List.getElem?_map, List.getElem?_eq_getElem kl']; rfl) hpn fun u h4 o4 W it4 H4 => ?_))
      obtain ⟨lr, rfl⟩ := W
      have hflat : (ps.take (k + 1)).flatMap (·.2) = (ps.take k).flatMap (·.2) ++ ps[k].2 := by
        rw [List.take_succ_eq_append_getElem kl', List.flatMap_append]; simp
      have hle : ((ps.take k).flatMap (·.2)).length + ps[k].2.length ≤ 1000 := by
        have h1 : ps.flatMap (·.2) = (ps.take (k + 1)).flatMap (·.2) ++ (ps.drop (k + 1)).flatMap (·.2) := by rw [← List.flatMap_append, List.take_append_drop]
        have h2 := congrArg List.length h1
        rw [hflat, List.length_append, List.length_append] at h2
        omega
      have hfr : ∀ j, nx' ≤ j → hp' j = none := fun j hj => by
        cases q : hp' j with
        | none => rfl
        | some o => exact absurd (r'.hp j o q).1 (Nat.not_lt.mpr hj)
      have lS : st.nx + 1 < nx' := (r'.hp _ _ hS).1
      show wpAny _ _ ((holding [Value.ref (σ' ps[k].1)] (binaryOp .Add (.ref (σ' t)) (.ref (σ' ps[k].1)))).attempt >>= _) _ _ _
      refine wpAny_bind (wpAny_attempt (wpAny_holding (wpAny_mono (op_addl (c := c.one.pin (σ1 st.nx, o4)) (st := ⟨st.loc, hp', nx'⟩) (a := t) (b := ps[k].1) (Q := fun b st2 => b = .ref nx' ∧ st2 = (⟨st.loc, hp', nx'⟩ : AS).new (.list ((ps.take k).flatMap (·.2) ++ ps[k].2))) (X := fun _ _ => False) ht (L' _ _ (hr _ (List.getElem_mem kl'))) ⟨rfl, rfl⟩ hle σ' _ _ _ H4 ⟨lt, rfl⟩ ⟨lr, rfl⟩) (fun w s5 hw => ?_) fun _ _ ⟨_, _, _, h, _⟩ => h.elim)))
      obtain ⟨b, σ5, st5, ⟨rfl, rfl⟩, e5, ⟨⟨m5, news5, r5⟩, z5⟩, l5, rfl⟩ := hw
      have hS5 : ((⟨st.loc, hp', nx'⟩ : AS).new (.list ((ps.take k).flatMap (·.2) ++ ps[k].2))).hp (st.nx + 1) = some (.list [.ref t]) := by
        show (if st.nx + 1 = nx' then _ else hp' (st.nx + 1)) = _
        rw [if_neg (by omega)]; exact hS
      obtain ⟨us5, n5, hm5, _, V5⟩ := r5.list hS5
      obtain ⟨_, _, rfl, _, rfl⟩ := V5
      have eS5 : σ5 (st.nx + 1) = s1.heap.objs.size := (e5.eq _ lS).trans eS
      have g5 := (r5.nw _ hm5).1
      dsimp only at g5
      rw [eS5] at g5
      show wpAny _ _ (updateSeq s1.heap.objs.size (fun _ => #[Value.ref (σ5 nx')]) >>= _) _ _ _
      refine wpAny_bind (wpAny_updateSeq g5 rfl ?_)
      have g6 := Heap.get?_update_self (Obj.mapSeq fun _ => #[Value.ref (σ5 nx')]) g5 rfl
      refine wpAny_bind (wpAny_letGo ?_)
      refine wpAny_bind (wpAny_updateSeq g6 rfl ?_)
      have g7 := Heap.get?_update_self (Obj.mapSeq fun _ => #[Value.ref (σ5 nx')]) g6 rfl
      have sb : Heap.SameBut s1.heap.objs.size s5.heap ((s5.heap.update s1.heap.objs.size (Obj.mapSeq fun _ => #[Value.ref (σ5 nx')])).update s1.heap.objs.size (Obj.mapSeq fun _ => #[Value.ref (σ5 nx')])) := (Heap.SameBut.update ..).trans (Heap.SameBut.update ..)
      rw [← eS5] at sb g7
      obtain ⟨news7, r7⟩ := r5.pinned_put (o' := .list [.ref nx']) hS5 sb g7 ⟨[.ref (σ5 nx')], _, rfl, VRs.one (a := .ref nx') ⟨Nat.lt_succ_self _, rfl⟩⟩
      rw [eS5] at r7
      refine wpAny_pure ⟨plainId_quiet PySem.F.plain_sum_loop _, ih (k + 1) _ σ5 _ (nx' + 1) nx' o4 (by omega) kl' (e'.trans e5) ?_ ⟨_, _, r7⟩ z5 ?_ ?_ ?_⟩
      · have : l < nx' := by have := e'.le; omega
        rw [e5.eq l this]; exact it4
      · intro i o h
        have hi := L' i o h
        have : i < nx' := by
          by_cases hi' : i < nx'
          · exact hi'
          · rw [hfr i (Nat.not_lt.mp hi')] at hi; cases hi
        have : i < st.nx := by
          by_cases hi' : i < st.nx
          · exact hi'
          · rw [fresh i (Nat.not_lt.mp hi')] at h; cases h
        show (if i = st.nx + 1 then _ else if i = nx' then _ else hp' i) = _
        rw [if_neg (by omega), if_neg (by omega)]; exact hi
      · exact if_pos rfl
      · show (if nx' = st.nx + 1 then _ else if nx' = nx' then _ else hp' nx') = _
        rw [if_neg (by omega), if_pos rfl, hflat]
  refine wpAny_pure ⟨plainId_quiet PySem.F.plain_sum_loop _, loop _ 0 _ _ _ _ e oI rfl (Nat.zero_le _) .refl hO.2 ⟨_, _, rl⟩ z1 ?_ ?_ ?_⟩
  · intro i o h
    have : i < st.nx := by
      by_cases hi : i < st.nx
      · exact hi
      · rw [fresh i (Nat.not_lt.mp hi)] at h; cases h
    show (if i = st.nx then none else if i = st.nx + 1 then _ else if i = st.nx then _ else st.hp i) = _
    rw [if_neg (by omega), if_neg (by omega), if_neg (by omega)]; exact h
  · show (if st.nx + 1 = st.nx then none else if st.nx + 1 = st.nx + 1 then _ else _) = _
    rw [if_neg (by omega), if_pos rfl]
  · show (if e = st.nx then none else if e = st.nx + 1 then _ else if e = st.nx then _ else st.hp e) = _
    rw [if_neg (by omega), if_neg (by omega), if_neg (by omega)]; exact he
end
end Sx

namespace Sx
section
variable {g : Gl} {c : Cx} {st : AS} {Q : AV → AS → Prop} {X : String → AS → Prop} {pos : Pos}
theorem del_new {hp1 : HP} {nx1 : Nat} {o : AO} (hb2 : hp1 nx1 = none) : (fun j => if j = nx1 then none else if j = nx1 then some o else hp1 j) = hp1 := by
  funext j
  by_cases e : j = nx1
  · rw [if_pos e, e]; exact hb2.symm
  · rw [if_neg e, if_neg e]
theorem Rep.fresh {σ : Nat → Addr} {s : Shared} (H : Rep g c σ st s) : ∀ j, st.nx ≤ j → st.hp j = none := fun j hj => by
  obtain ⟨⟨m, news, r⟩, z⟩ := H
  cases q : st.hp j with
  | none => rfl
  | some o => exact absurd (r.hp j o q).1 (Nat.not_lt.mpr hj)
theorem pi_fresh {a : AV} (h : (∀ j, st.nx ≤ j → st.hp j = none) → PI g c a st Q X) : PI g c a st Q X := fun σ s u H => h H.fresh σ s u H
theorem ev_fresh {e : Expr} (h : (∀ j, st.nx ≤ j → st.hp j = none) → EV g c e st Q X) : EV g c e st Q X := fun σ s H => h H.fresh σ s H
theorem op2_fresh {f : Value → Value → Sem Value} {a b : AV} (h : (∀ j, st.nx ≤ j → st.hp j = none) → Op2 g c f a b st Q X) : Op2 g c f a b st Q X := fun σ s u v H => h H.fresh σ s u v H

/-- a comprehension over a list, each turn by itself; the heap stays -/
theorem pi_lc {β : Type} (em : β → AV) (bs : List β) (out : β → Option AV) {elt : Expr} {ifs : List Expr} {x : Str} {scope : Scope} {cl : List (Str × Addr)} {cid' : Str → Option Nat} {l : Nat} {Fin : List AV → HP → Nat → (Str → Option AV) → Prop}
    (hl : st.hp l = some (.list (bs.map em))) (hn : bs.length ≤ 1000)
    (turn : ∀ b ∈ bs, ∀ C lm m₀ pins, (compCx c scope cl cid' C lm m₀ pins).Ok → CT g (compCx c scope cl cid' C lm m₀ pins) elt ifs ⟨fun y => if y = x then some (em b) else none, st.hp, st.nx + 1⟩ (fun r st3 => r = out b ∧ st3.hp = st.hp ∧ st3.nx = st.nx + 1))
    (done : Fin (bs.filterMap out) st.hp (st.nx + 1) st.loc) :
    PI g c (.ref l) st (fun b st2 => ∃ (i : Nat) (S : Src) (J : Nat → List AV → HP → Nat → Prop), b = .ref i ∧ st2.hp i = some S.iter ∧ J 0 [] (st2.del i).hp st2.nx ∧ S.len ≤ 1000 ∧ (∀ k ys hp nx, J k ys hp nx → S.Keeps ⟨st2.loc, hp, nx⟩) ∧
      (∀ k v ys hp nx C lm m₀ pins, S.item k = some v → J k ys hp nx → (compCx c scope cl cid' C lm m₀ pins).Ok → CT g (compCx c scope cl cid' C lm m₀ pins) elt ifs ⟨fun y => if y = x then some v else none, hp, nx⟩
        (fun r st3 => J (k + 1) (match r with | some y => ys ++ [y] | none => ys) st3.hp st3.nx)) ∧ ∀ ys hp nx, J S.len ys hp nx → Fin ys hp nx st2.loc) X := by
  refine pi_fresh fun hb => pi_seq (T := false) (vs := bs.map em) hl ⟨st.nx, .seq false l (bs.map em), fun j ys hp' nx' => hp' = st.hp ∧ nx' = st.nx + 1 ∧ ys = (bs.take j).filterMap out, rfl, if_pos rfl, ⟨del_new (hb _ (Nat.le_refl _)), rfl, rfl⟩, by show (bs.map em).length ≤ 1000; rw [List.length_map]; exact hn, ?_, ?_, ?_⟩
  · rintro k ys hp nx ⟨rfl, _, _⟩
    exact hl
  · rintro k v ys hp nx C lm m₀ pins hv ⟨rfl, rfl, rfl⟩ Oc
    have hv : (bs.map em)[k]? = some v := hv
    rw [List.getElem?_map] at hv
    obtain ⟨b, hb', rfl⟩ := Option.map_eq_some_iff.mp hv
    obtain ⟨lk, rfl⟩ := List.getElem?_eq_some_iff.mp hb'
    have ht := turn bs[k] (List.getElem_mem lk) C lm m₀ pins Oc
    have key : ∀ (r : Option AV) (st3 : AS), (r = out bs[k] ∧ st3.hp = st.hp ∧ st3.nx = st.nx + 1) → (st3.hp = st.hp ∧ st3.nx = st.nx + 1 ∧ (match r with | some y => (bs.take k).filterMap out ++ [y] | none => (bs.take k).filterMap out) = (bs.take (k + 1)).filterMap out) := fun r st3 ⟨h1, h2, h3⟩ => by
      refine ⟨h2, h3, ?_⟩
      rw [List.take_succ_eq_append_getElem lk, List.filterMap_append, h1]
      cases q : out bs[k] with
      | none => simp [q]
      | some y => simp [q]
    cases ifs with
    | nil => exact Ok.mono ht (fun y st3 h => key _ st3 h) fun _ _ h => h
    | cons t ts =>
      cases ts with
      | cons => exact ht.elim
      | nil =>
        refine Ok.mono ht (fun b st3 h => ?_) fun _ _ h => h
        cases b with
        | true =>
          rw [if_pos rfl] at h ⊢
          exact Ok.mono h (fun y st3 h => key _ st3 h) fun _ _ h => h
        | false =>
          rw [if_neg (by decide)] at h ⊢
          exact key _ st3 h
  · rintro ys hp nx ⟨rfl, rfl, rfl⟩
    have e : (Src.seq false l (bs.map em)).len = bs.length := List.length_map ..
    rw [e, List.take_length]
    exact done

/-! the script: a list that stood ahead of all -/
theorem len_con {a : Addr} {us : List Value} (hL : g.base.IsList a us.toArray) (hn : us.length ≤ 1000) (q : Q (.int us.length) st) : CallV g c (.builtin "len") [.con (.ref a)] st Q X := by
  rintro σ s vs ⟨⟨m, news, r⟩, z⟩ ⟨_, _, rfl, rfl, rfl⟩
  obtain ⟨o, ho, hc⟩ := hL
  have L : s.heap.IsList a us.toArray := ⟨o, r.fr.keep _ _ ho, hc⟩
  refine Calls.call_len_list L (by rw [List.size_toArray]; omega) ?_
  exact ⟨_, σ, st, q, .refl, Rep.toks ⟨⟨m, news, r⟩, z⟩, s.toks + 1, by simp⟩
theorem op_citem {a : Addr} {us : List Value} {xs : List Int} {k : Int} {x : Int} {v s : Expr} (hL : g.base.IsList a us.toArray) (hI : IntsAre us xs) (h0 : 0 ≤ k) (hx : xs[k.toNat]? = some x) (q : Q (.int x) st) (hb : k < 2 ^ 63)
    (hs : ∀ x u, subscripted s false (.ref x) (.int k u) = operate [.ref x, .int k u] (getItem (.ref x) (.int k u)) := by intro _ _; with_unfolding_all rfl) : Op2 g c (subscriptTail v s) (.con (.ref a)) (.int k) st Q X := by
  rintro σ s u v ⟨⟨m, news, r⟩, z⟩ rfl ⟨t, rfl⟩
  obtain ⟨o, ho, hc⟩ := hL
  have L : s.heap.IsList a us.toArray := ⟨o, r.fr.keep _ _ ho, hc⟩
  obtain ⟨t', hw⟩ := hI.get k.toNat _ hx
  exact tail_any L.typeIs slot_list_getitem.lookup (wpAny_getItem_list L h0 hb (by simpa using hw) (here q ⟨⟨m, news, r⟩, z⟩ ⟨_, rfl⟩)) (hs _ _)
end
end Sx

namespace Sx

/-! what a value stands for as a plain datum -/
def ScD : AV → PyData → Prop
  | .none, d => d = .none
  | .bool b, d => d = .bool b
  | .int i, d => d = .int i
  | .str x, d => d = .str x
  | _, _ => False
def ScDs : List AV → List PyData → Prop
  | [], ds => ds = []
  | a :: as, ds => ∃ d r, ds = d :: r ∧ ScD a d ∧ ScDs as r
def KVs : List (Int × Str × AV) → List (PyData × PyData) → Prop
  | [], ds => ds = []
  | (_, x, a) :: r, ds => ∃ d q, ds = (.str x, d) :: q ∧ ScD a d ∧ KVs r q
/-- a scalar, or a list or a dict of scalars -/
inductive D1 (hp : Nat → Option AO) : AV → PyData → Prop
  | sc {a d} (h : ScD a d) : D1 hp a d
  | list {i vs ds} (h : hp i = some (.list vs)) (s : ScDs vs ds) : D1 hp (.ref i) (.list ds)
  | dict {i es ds} (h : hp i = some (.dict es)) (s : KVs es ds) : D1 hp (.ref i) (.dict ds)
def D1s (hp : Nat → Option AO) : List AV → List PyData → Prop
  | [], ds => ds = []
  | a :: as, ds => ∃ d r, ds = d :: r ∧ D1 hp a d ∧ D1s hp as r

theorem sc_reads {σ : Nat → Addr} {nx : Nat} {h : Heap} : ∀ {a : AV} {v : Value} {d : PyData}, VR σ nx a v → ScD a d → Reads h v d []
  | .none, _, _, V, D => by cases V; cases D; exact .none
  | .bool b, _, _, V, D => by cases V; cases D; exact .bool b
  | .int i, _, _, V, D => by obtain ⟨t, rfl⟩ := V; cases D; exact .int i t
  | .str i, _, _, V, D => by obtain ⟨t, rfl⟩ := V; cases D; exact .str i t
  | .ref _, _, _, V, D => D.elim
  | .con _, _, _, V, D => D.elim
theorem scs_reads {σ : Nat → Addr} {nx : Nat} {h : Heap} : ∀ {as : List AV} {vs : List Value} {ds : List PyData}, VRs σ nx as vs → ScDs as ds → ReadsAll h vs ds []
  | [], _, _, V, D => by cases V; cases D; exact .nil
  | _ :: _, _, _, ⟨v, r, e, V, W⟩, ⟨d, q, e', D, F⟩ => by subst e e'; exact .cons (as := []) (bs := []) (sc_reads V D) (scs_reads W F)
theorem kvs_reads {σ : Nat → Addr} {nx : Nat} {h : Heap} : ∀ {es : List (Int × Str × AV)} {vs : List DictEntry} {ds : List (PyData × PyData)}, ER σ nx es vs → KVs es ds → ReadsAll h (vs.map (·.key)) (ds.map (·.1)) [] ∧ ReadsAll h (vs.map (·.val)) (ds.map (·.2)) []
  | [], _, _, V, D => by cases V; cases D; exact ⟨.nil, .nil⟩
  | (_, _, _) :: _, _, _, ⟨t, u, q, e, V, W⟩, ⟨d, r, e', D, F⟩ => by
    subst e e'
    obtain ⟨h1, h2⟩ := kvs_reads W F
    exact ⟨.cons (as := []) (bs := []) (.str _ t) h1, .cons (as := []) (bs := []) (sc_reads V D) h2⟩

section
variable {g : Gl} {c : Cx} {σ : Nat → Addr} {st : AS} {m : Str → Option Value} {news : List (Addr × Obj)} {h : Heap} {s : Shared}
theorem d1_reads (r : RepN g c σ st m news h) {a : AV} {v : Value} {d : PyData} (V : VR σ st.nx a v) (D : D1 st.hp a d) : ∃ as, Reads h v d as ∧ ((∃ es, d = .dict es) → ∀ b ∈ as, 1 < b) := by
  cases D with
  | sc D =>
    refine ⟨[], sc_reads V D, fun _ b hb => nomatch hb⟩
  | @list i vs ds hi D =>
    obtain ⟨li, rfl⟩ := V
    obtain ⟨us, n, hm, ⟨ob, ho, hc, k, hd⟩, W⟩ := r.list hi
    exact ⟨_, .list ho hc hd (by simpa using scs_reads W D), fun ⟨es, e⟩ => nomatch e⟩
  | @dict i es ds hi D =>
    obtain ⟨li, rfl⟩ := V
    obtain ⟨ob, hm, ho, es', n, rfl, W⟩ := r.obj hi
    obtain ⟨h1, h2⟩ := kvs_reads (h := h) W D
    refine ⟨_, .dict (n := n) (as := []) (bs := []) ho rfl rfl (by simpa using h1) (by simpa using h2), fun _ b hb => ?_⟩
    have e : b = σ i := by simpa using hb
    rw [e]; exact r.lo i _ hi rfl
theorem d1s_reads (r : RepN g c σ st m news h) : ∀ {as : List AV} {vs : List Value} {ds : List PyData}, VRs σ st.nx as vs → D1s st.hp as ds → ∃ bs, ReadsAll h vs ds bs ∧ ((∀ d ∈ ds, ∃ es, d = .dict es) → ∀ b ∈ bs, 1 < b)
  | [], _, _, V, D => by cases V; cases D; exact ⟨[], .nil, fun _ b hb => nomatch hb⟩
  | _ :: _, _, _, ⟨v, q, e, V, W⟩, ⟨d, q', e', D, F⟩ => by
    subst e e'
    obtain ⟨b1, r1, k1⟩ := d1_reads r V D
    obtain ⟨b2, r2, k2⟩ := d1s_reads r W F
    refine ⟨b1 ++ b2, .cons r1 r2, fun H b hb => ?_⟩
    rcases List.mem_append.mp hb with hb | hb
    · exact k1 (H d (.head _)) b hb
    · exact k2 (fun x hx => H x (.tail _ hx)) b hb
end

/-! repr -/
section
variable {g : Gl} {c : Cx} {st : AS} {Q : AV → AS → Prop} {X : String → AS → Prop}
theorem Rep.grown' {σ : Nat → Addr} {s : Shared} {h' : Heap} {tk : Nat} (H : Rep g c σ st s) (k : ∀ b o, s.heap.get? b = some o → h'.get? b = some o) : Rep g c σ st { s with heap := h', toks := tk } := by
  obtain ⟨⟨m, news, r⟩, z⟩ := H
  exact ⟨⟨m, news, r.grown k⟩, z⟩
/-- repr of a list of things -/
theorem call_repr_l {t : Nat} {vs : List AV} {ds : List PyData} (hg : c.A.guards = some []) (hu : c.A.units + 20 < cLine) (hl : st.hp t = some (.list vs)) (D : D1s st.hp vs ds) (hs : PyData.showableAll ds = true)
    (hd : (∀ d ∈ ds, ∃ es, d = .dict es) ∨ PyData.hasDictAll ds = false) (hdep : PyData.depthAll ds ≤ 3) (hsz : (listText (PyData.shownAll ds)).length ≤ sizeLine) (q : Q (.str (listText (PyData.shownAll ds))) st) : CallV g c (.builtin "repr") [.ref t] st Q X := by
  rintro σ s us H ⟨_, _, rfl, ⟨lt, rfl⟩, rfl⟩
  obtain ⟨⟨m, news, r⟩, z⟩ := id H
  obtain ⟨us, n, hm, ⟨ob, ho, hc, k, hda⟩, V⟩ := r.list hl
  obtain ⟨bs, RA, hlo⟩ := d1s_reads r V D
  obtain ⟨as, ha, hk⟩ := ReprAllK.of_readsAll (prog := g.prog) (w := g.w) RA hs (fun hx hm => by
    rcases hd with hd | hd
    · exact absurd (hlo hd _ hm) (by decide)
    · rw [hd] at hx; cases hx) (fun x hx => Nat.le_trans (listText_mem_le hx) hsz)
  have RL : Reads s.heap (.ref (σ t)) (.list ds) (σ t :: bs) := .list ho hc hda (by simpa using RA)
  have hna : σ t ∉ as := not_mem_of_deeper RL (by simp only [PyData.depth]; omega) ha
  refine call_repr_slot (by omega) ⟨ob, ho, hc⟩ PySem.F.slot_list_repr.toG ?_
  have fin : ∀ h' u tk, (∀ b o, s.heap.get? b = some o → h'.get? b = some o) → ∃ x t, Value.str (listText (PyData.shownAll ds)) u = .str x t ∧ PostOk g c VR σ st.nx Q (.str (listText (PyData.shownAll ds)) u) { s with heap := h', toks := tk } := fun h' u tk hk' =>
    ⟨_, _, rfl, here q (H.grown' hk') ⟨_, rfl⟩⟩
  cases us with
  | nil =>
    have hda' : ob.data = .seq #[] k := hda
    cases RA
    simp only [PyData.shownAll, listText_nil] at fin ⊢
    exact call_list_repr_empty ⟨ob, ho, hc⟩ ho hda' (fin s.heap _ _ fun _ _ e => e)
  | cons x l =>
    exact call_list_reprK (g := []) ho hc hda hna (by simpa using hk.length_eq) (fun i y e => hk.item i y (by simpa using e)) (by show c.A.in1.guards = _; exact hg) (fun b _ => Clear.nil b) (by show c.A.units + 1 + (PyData.depthAll ds + 1) < cLine; omega) (fun _ _ e => e) (fun h' u tk hk' => fin h' u tk hk') hsz
/-- repr of one thing -/
theorem call_repr1 {a : AV} {d : PyData} (hg : c.A.guards = some []) (hu : c.A.units + 20 < cLine) (D : D1 st.hp a d) (hs : d.showable = true) (hdep : d.depth ≤ 3) (hi : ∀ i, d = .int i → i.natAbs.log2 < 1920) (hsz : d.shown.length ≤ sizeLine)
    (hd : (∃ es, d = .dict es) ∨ d.hasDict = false) (hnn : d ≠ .none) (hns : ∀ x, d ≠ .str x) (q : Q (.str d.shown) st) : CallV g c (.builtin "repr") [a] st Q X := by
  rintro σ s us H ⟨u, _, rfl, V, rfl⟩
  obtain ⟨⟨m, news, r⟩, z⟩ := id H
  obtain ⟨as, R, lo⟩ := d1_reads r V D
  cases D with
  | sc D =>
    cases a with
    | none => cases D; exact absurd rfl hnn
    | bool b => cases D; cases V; exact PySem.P.repr_of_bool (here q H.toks ⟨_, by cases b <;> rfl⟩)
    | int i => cases D; obtain ⟨t, rfl⟩ := V; exact PySem.P.repr_of_int (hi i rfl) (here q H.toks ⟨_, rfl⟩)
    | str x => cases D; exact absurd rfl (hns x)
    | ref i => exact D.elim
    | con v => exact D.elim
  | list h' D =>
    obtain ⟨lt, rfl⟩ := V
    exact repr_of_reads' R hs (fun hx hm => by
      rcases hd with hd | hd
      · obtain ⟨es, e⟩ := hd; cases e
      · rw [hd] at hx; cases hx) hg (by omega) (fun _ _ e => e) (fun h' u tk hk => here q (H.grown' hk) ⟨_, rfl⟩) hsz
  | dict h' D =>
    obtain ⟨lt, rfl⟩ := V
    exact repr_of_reads' R hs (fun hx hm => absurd (lo ⟨_, rfl⟩ _ hm) (by decide)) hg (by omega) (fun _ _ e => e) (fun h' u tk hk => here q (H.grown' hk) ⟨_, rfl⟩) hsz
end
end Sx

section
open PySem.AutoSeq1 (wpAny_loadPart')
open PySem.MeetsSeq
namespace Sx

def LtAt (A : Around) (s : Shared) (y x : Value) (b : Bool) : Prop :=
  ∀ (prog : Program) (w : World) (E : Value → Shared → Prop) (Q : Value → Shared → Prop), Q (.bool b) s → wpAny (model prog w) A (richCompare .Lt y x) Q E s
theorem lt_bool_int_g (a : Bool) (b : Int) (u : Tok) : Gives (Builtin.«int.__lt__» ⟨[.bool a, .int b u], []⟩) (.val (Value.bool ((fun x1 x2 => decide (x1 < x2)) (if a = true then (1 : Int) else 0) b))) :=
  .of_wp fun M A E s Q h => by obtain ⟨hp, g, d, tk, os⟩ := s; wp_walk; exact ⟨_, rfl, h⟩
theorem gt_bool_int_g (a : Bool) (b : Int) (u : Tok) : Gives (Builtin.«int.__gt__» ⟨[.bool a, .int b u], []⟩) (.val (Value.bool ((fun x1 x2 => decide (x1 > x2)) (if a = true then (1 : Int) else 0) b))) :=
  .of_wp fun M A E s Q h => by obtain ⟨hp, g, d, tk, os⟩ := s; wp_walk; exact ⟨_, rfl, h⟩
section
variable {A : Around} {s : Shared}
theorem ltAt_ii (a b : Int) (t u : Tok) : LtAt A s (.int a t) (.int b u) (decide (a < b)) := fun prog w E Q h => PyProof.Rows.lt_int h
theorem ltAt_bb (a b : Bool) : LtAt A s (.bool a) (.bool b) (decide ((if a = true then (1 : Int) else 0) < (if b = true then (1 : Int) else 0))) := fun prog w E Q h => PyProof.Rows.lt_bool h
theorem ltAt_bi (a : Bool) (b : Int) (u : Tok) : LtAt A s (.bool a) (.int b u) (decide ((if a = true then (1 : Int) else 0) < b)) := fun prog w E Q h =>
  PySem.SeqAt.rc_left_or (op := .Lt) rfl (typeIs_int s b u) (by decide) F.sub_int_bool F.slot_bool_lt (call_gives F.slot_bool_lt rfl F.entry_int_lt (F.args_int_lt_2 _ _) (lt_bool_int_g a b u) ⟨nofun, h⟩) (.inl rfl)
theorem ltAt_ib (a : Int) (b : Bool) (u : Tok) : LtAt A s (.int a u) (.bool b) (decide (a < (if b = true then (1 : Int) else 0))) := fun prog w E Q h =>
  PySem.SeqAt.rc_sub_first_or (op := .Lt) (typeIs_int s a u) rfl (by decide) F.sub_bool_int F.slot_bool_gt_refl
    (call_gives F.slot_bool_gt_refl rfl F.entry_int_gt (F.args_int_gt_2 _ _) (gt_bool_int_g b a u) ⟨nofun, h⟩) (.inl rfl)
end

def Numb : AV → Prop
  | .int _ => True
  | .bool _ => True
  | _ => False
def valN : AV → Int
  | .int i => i
  | .bool b => if b = true then 1 else 0
  | _ => 0
section
variable {A : Around} {s : Shared} {σ : Nat → Addr} {nx : Nat}
theorem num_lt {a b : AV} {u v : Value} (ha : Numb a) (hb : Numb b) (V : VR σ nx a u) (W : VR σ nx b v) : LtAt A s u v (decide (valN a < valN b)) := by
  cases a with
  | none => exact ha.elim
  | str x => exact ha.elim
  | ref i => exact ha.elim
  | con v => exact ha.elim
  | int a =>
    cases b with
    | none => exact hb.elim
    | str x => exact hb.elim
    | ref i => exact hb.elim
    | con v => exact hb.elim
    | int b =>
      obtain ⟨t, rfl⟩ := V
      obtain ⟨t', rfl⟩ := W
      exact ltAt_ii a b t t'
    | bool b =>
      obtain ⟨t, rfl⟩ := V
      obtain rfl : v = .bool b := W
      exact ltAt_ib a b t
  | bool a =>
    cases b with
    | none => exact hb.elim
    | str x => exact hb.elim
    | ref i => exact hb.elim
    | con v => exact hb.elim
    | int b =>
      obtain rfl : u = .bool a := V
      obtain ⟨t', rfl⟩ := W
      exact ltAt_bi a b t'
    | bool b =>
      obtain rfl : u = .bool a := V
      obtain rfl : v = .bool b := W
      exact ltAt_bb a b
theorem num_eq {a b : AV} {u v : Value} (ha : Numb a) (hb : Numb b) (V : VR σ nx a u) (W : VR σ nx b v) : PySem.SeqAt.EqAt A s u v (valN a == valN b) := by
  cases a with
  | none => exact ha.elim
  | str x => exact ha.elim
  | ref i => exact ha.elim
  | con v => exact ha.elim
  | int a =>
    cases b with
    | none => exact hb.elim
    | str x => exact hb.elim
    | ref i => exact hb.elim
    | con v => exact hb.elim
    | int b =>
      obtain ⟨t, rfl⟩ := V
      obtain ⟨t', rfl⟩ := W
      exact PySem.SeqAt.EqAt.int_int a t b t'
    | bool b =>
      obtain ⟨t, rfl⟩ := V
      obtain rfl : v = .bool b := W
      exact PySem.SeqAt.EqAt.int_bool a t b
  | bool a =>
    cases b with
    | none => exact hb.elim
    | str x => exact hb.elim
    | ref i => exact hb.elim
    | con v => exact hb.elim
    | int b =>
      obtain rfl : u = .bool a := V
      obtain ⟨t', rfl⟩ := W
      exact PySem.SeqAt.EqAt.bool_int a b t'
    | bool b =>
      obtain rfl : u = .bool a := V
      obtain rfl : v = .bool b := W
      have e : (a == b) = (valN (.bool a) == valN (.bool b)) := by cases a <;> cases b <;> rfl
      rw [← e]; exact PySem.SeqAt.EqAt.bool_bool a b
theorem num_rc {a b : AV} {u v : Value} (ha : Numb a) (hb : Numb b) (V : VR σ nx a u) (W : VR σ nx b v) : PySem.SeqAt.RcAt A s u v (valN a == valN b) := by
  cases a with
  | none => exact ha.elim
  | str x => exact ha.elim
  | ref i => exact ha.elim
  | con v => exact ha.elim
  | int a =>
    cases b with
    | none => exact hb.elim
    | str x => exact hb.elim
    | ref i => exact hb.elim
    | con v => exact hb.elim
    | int b =>
      obtain ⟨t, rfl⟩ := V
      obtain ⟨t', rfl⟩ := W
      exact PySem.SeqAt.RcAt.int_int a t b t'
    | bool b =>
      obtain ⟨t, rfl⟩ := V
      obtain rfl : v = .bool b := W
      exact PySem.SeqAt.RcAt.int_bool a t b
  | bool a =>
    cases b with
    | none => exact hb.elim
    | str x => exact hb.elim
    | ref i => exact hb.elim
    | con v => exact hb.elim
    | int b =>
      obtain rfl : u = .bool a := V
      obtain ⟨t', rfl⟩ := W
      exact PySem.SeqAt.RcAt.bool_int a b t'
    | bool b =>
      obtain rfl : u = .bool a := V
      obtain rfl : v = .bool b := W
      have e : (a == b) = (valN (.bool a) == valN (.bool b)) := by cases a <;> cases b <;> rfl
      rw [← e]; exact PySem.SeqAt.RcAt.bool_bool a b
theorem num_ne {a b : AV} {u v : Value} (ha : Numb a) (hb : Numb b) (V : VR σ nx a u) (W : VR σ nx b v) : PySem.SeqAt.RcNeAt A s u v (!(valN a == valN b)) := by
  cases a with
  | none => exact ha.elim
  | str x => exact ha.elim
  | ref i => exact ha.elim
  | con v => exact ha.elim
  | int a =>
    cases b with
    | none => exact hb.elim
    | str x => exact hb.elim
    | ref i => exact hb.elim
    | con v => exact hb.elim
    | int b =>
      obtain ⟨t, rfl⟩ := V
      obtain ⟨t', rfl⟩ := W
      exact PySem.SeqAt.RcNeAt.int_int a t b t'
    | bool b =>
      obtain ⟨t, rfl⟩ := V
      obtain rfl : v = .bool b := W
      exact PySem.SeqAt.RcNeAt.int_bool a t b
  | bool a =>
    cases b with
    | none => exact hb.elim
    | str x => exact hb.elim
    | ref i => exact hb.elim
    | con v => exact hb.elim
    | int b =>
      obtain rfl : u = .bool a := V
      obtain ⟨t', rfl⟩ := W
      exact PySem.SeqAt.RcNeAt.bool_int a b t'
    | bool b =>
      obtain rfl : u = .bool a := V
      obtain rfl : v = .bool b := W
      have e : (a == b) = (valN (.bool a) == valN (.bool b)) := by cases a <;> cases b <;> rfl
      rw [← e]; exact PySem.SeqAt.RcNeAt.bool_bool a b
end

/-! the order of two lists -/
def lexB (e lt : Nat → Bool) (n m : Nat) : Nat → Nat → Bool
  | 0, _ => decide (n < m)
  | k + 1, i => if e i then lexB e lt n m k (i + 1) else lt i
theorem lt_loopAt (l b : Addr) (items items2 : Array Value) (n n2 : Nat) (e lt : Nat → Bool) (k : Nat) :
    ∀ i : Nat, min items.size items2.size - i = k → i ≤ min items.size items2.size → Meets (Builtin.«list.__eq__.loop» ⟨[.ref l, .ref b, rawInt i, rawInt 0], []⟩)
      (fun A R s => s.heap.get? l = some { cls := .type "list", dict := none, data := .seq items n, slots := #[] } ∧ s.heap.get? b = some { cls := .type "list", dict := none, data := .seq items2 n2, slots := #[] } ∧
        (∀ j (h1 : j < items.size) (h2 : j < items2.size), PySem.SeqAt.EqAt A.in1 s items[j] items2[j] (e j) ∧ LtAt A.in1 s items[j] items2[j] (lt j)) ∧
        R (.ok (.ret (.bool (lexB e lt items.size items2.size k i)))) s) := by
  induction k with
  | zero =>
    intro i hk hi prog w A R s h
    obtain ⟨hp, g, d, tk, os⟩ := s; obtain ⟨hl, hb, he, h⟩ := h
    wp_walk using wpAny_loadPart' hl, wpAny_loadPart' hb
    have hi2 : (match (items[((i : Nat) : Int).toNat]?, items2[((i : Nat) : Int).toNat]?) with | (some _, some _) => true | _ => false) = false := by
      by_cases h1 : i < items.size
      · have : items2[((i : Nat) : Int).toNat]? = none := by simp; omega
        rw [this]; cases items[((i : Nat) : Int).toNat]? <;> rfl
      · have : items[((i : Nat) : Int).toNat]? = none := by simp; omega
        rw [this]
    cases e1 : items[((i : Nat) : Int).toNat]? with
    | none =>
      wp_walk using wpAny_loadPart' hl, wpAny_loadPart' hb
      exact h
    | some x =>
      cases e2 : items2[((i : Nat) : Int).toNat]? with
      | none =>
        wp_walk using wpAny_loadPart' hl, wpAny_loadPart' hb
        exact h
      | some y => rw [e1, e2] at hi2; cases hi2
  | succ k ih =>
    intro i hk hi prog w A R s h
    obtain ⟨hp, g, d, tk, os⟩ := s; obtain ⟨hl, hb, he, h⟩ := h
    wp_walk using wpAny_loadPart' hl, wpAny_loadPart' hb
    have hlt : i < items.size := by omega
    have hlt2 : i < items2.size := by omega
    have hi1 : items[((i : Nat) : Int).toNat]? = some items[i] := by simp [hlt]
    have hi2 : items2[((i : Nat) : Int).toNat]? = some items2[i] := by simp [hlt2]
    have hc : ((i : Int) + 1) = ((i + 1 : Nat) : Int) := by push_cast; rfl
    rw [hi1, hi2]
    refine wpAny_bind ((he i hlt hlt2).1 prog w _ _ ?_)
    unfold lexB at h
    cases hb' : e i with
    | true =>
      rw [hb', if_pos rfl] at h
      wp_walk
      rw [hc]
      exact ⟨plainId_quiet PySem.MeetsSeq3.plain_eq_loop _, codeAny_builtin PySem.MeetsSeq3.entry_eq_loop (by
        rw [Around.under_plainId PySem.MeetsSeq3.plain_eq_loop _]
        exact ih (i + 1) (by omega) (by omega) prog w A R _ ⟨hl, hb, he, by simpa using h⟩)⟩
    | false =>
      rw [hb', if_neg (by decide)] at h
      wp_walk using wpAny_loadPart' hl, wpAny_loadPart' hb
      rw [hi1, hi2]
      refine wpAny_bind ((he i hlt hlt2).2 prog w _ _ ?_)
      wp_walk
      exact h
theorem list_ltAt (l b : Addr) (items items2 : Array Value) (n n2 : Nat) (e lt : Nat → Bool) :
    Meets (Builtin.«list.__lt__» ⟨[.ref l, .ref b], []⟩)
      (fun A R s => s.heap.get? l = some { cls := .type "list", dict := none, data := .seq items n, slots := #[] } ∧ s.heap.get? b = some { cls := .type "list", dict := none, data := .seq items2 n2, slots := #[] } ∧
        (∀ j (h1 : j < items.size) (h2 : j < items2.size), PySem.SeqAt.EqAt A.in1 s items[j] items2[j] (e j) ∧ LtAt A.in1 s items[j] items2[j] (lt j)) ∧
        R (.ok (.ret (.bool (lexB e lt items.size items2.size (min items.size items2.size) 0)))) s) := by
  intro prog w A R s h
  obtain ⟨hp, g, d, tk, os⟩ := s; obtain ⟨hl, hb, he, h⟩ := h
  have f3 := AutoSeq1.sub_list_list
  wp_walk using wpAny_loadPart' hl, wpAny_loadPart' hb
  exact ⟨plainId_quiet PySem.MeetsSeq3.plain_eq_loop _, codeAny_builtin PySem.MeetsSeq3.entry_eq_loop (by
    rw [Around.under_plainId PySem.MeetsSeq3.plain_eq_loop _]
    exact lt_loopAt l b items items2 n n2 e lt _ 0 rfl (Nat.zero_le _) prog w A R _ ⟨hl, hb, he, h⟩)⟩
end Sx

end
section
open PySem.AutoSeq1 (wpAny_loadPart')
open PySem.MeetsSeq
namespace Sx

/-! == in the model at hand -/
def EqM (prog : Program) (w : World) (A : Around) (s : Shared) (y x : Value) (b : Bool) : Prop := ∀ (E : Value → Shared → Prop) (Q : Bool → Shared → Prop), Q b s → wpAny (model prog w) A (eqBool y x) Q E s
def RcM (prog : Program) (w : World) (A : Around) (s : Shared) (y x : Value) (b : Bool) : Prop := ∀ (E : Value → Shared → Prop) (Q : Value → Shared → Prop), Q (.bool b) s → wpAny (model prog w) A (richCompare .Eq y x) Q E s
def RnM (prog : Program) (w : World) (A : Around) (s : Shared) (y x : Value) (b : Bool) : Prop := ∀ (E : Value → Shared → Prop) (Q : Value → Shared → Prop), Q (.bool b) s → wpAny (model prog w) A (richCompare .NotEq y x) Q E s
section
variable {prog : Program} {w : World}
theorem contains_loopI (l : Addr) (items : Array Value) (n : Nat) (x : Value) (e : Nat → Bool) (k : Nat) :
    ∀ i : Nat, items.size - i = k → MeetsIn prog w (Builtin.«list.__contains__.loop» ⟨[.ref l, x, rawInt i], []⟩)
      (fun A R s => s.heap.get? l = some { cls := .type "list", dict := none, data := .seq items n, slots := #[] } ∧ (∀ m (h : m < items.size), EqM prog w A.in1 s items[m] x (e m)) ∧ R (.ok (.ret (.bool (((List.range items.size).drop i).any e)))) s) := by
  induction k with
  | zero =>
    intro i hk A R s h
    obtain ⟨hp, g, d, tk, os⟩ := s; obtain ⟨hl, he, h⟩ := h
    wp_walk using wpAny_loadPart' hl
    have hi : items[((i : Nat) : Int).toNat]? = none := by simp; omega
    have hd : (List.range items.size).drop i = [] := by simp; omega
    rw [hd] at h
    rw [hi]
    wp_walk
    exact h
  | succ k ih =>
    intro i hk A R s h
    obtain ⟨hp, g, d, tk, os⟩ := s; obtain ⟨hl, he, h⟩ := h
    wp_walk using wpAny_loadPart' hl
    have hlt : i < items.size := by omega
    have hi : items[((i : Nat) : Int).toNat]? = some items[i] := by simp [hlt]
    have hd : (List.range items.size).drop i = i :: (List.range items.size).drop (i + 1) := by simp [List.drop_eq_getElem_cons, hlt]
    rw [hd, List.any_cons] at h
    rw [hi]
    refine wpAny_bind (he _ hlt _ _ ?_)
    cases hb : e i with
    | true =>
      rw [hb] at h
      wp_walk
      exact h
    | false =>
      rw [hb] at h
      have hc : ((i : Int) + 1) = ((i + 1 : Nat) : Int) := by push_cast; rfl
      wp_walk
      rw [hc]
      exact ⟨plainId_quiet plain_contains_loop _, codeAny_builtin entry_contains_loop (by
        rw [Around.under_plainId plain_contains_loop _]
        exact ih (i + 1) (by omega) A R _ ⟨hl, he, by simpa using h⟩)⟩
theorem list_containsI (l : Addr) (items : Array Value) (n : Nat) (x : Value) (e : Nat → Bool) :
    MeetsIn prog w (Builtin.«list.__contains__» ⟨[.ref l, x], []⟩)
      (fun A R s => s.heap.get? l = some { cls := .type "list", dict := none, data := .seq items n, slots := #[] } ∧ (∀ m (h : m < items.size), EqM prog w A.in1 s items[m] x (e m)) ∧ R (.ok (.ret (.bool ((List.range items.size).any e)))) s) := by
  intro A R s h
  obtain ⟨hp, g, d, tk, os⟩ := s; obtain ⟨hl, he, h⟩ := h
  wp_walk using wpAny_loadPart' hl
  exact ⟨plainId_quiet plain_contains_loop _, codeAny_builtin entry_contains_loop (by
    rw [Around.under_plainId plain_contains_loop _]
    exact contains_loopI l items n x e _ 0 rfl A R _ ⟨hl, he, by simpa using h⟩)⟩
/-! list.remove and list.index, the items met by their places -/
theorem remove_loopI (l : Addr) (items : Array Value) (n : Nat) (x : Value) (e : Nat → Bool) (j : Nat) (hj : j < items.size) (hit : e j = true) (k : Nat) (hs1 : items.size ≤ sizeLine) :
    ∀ i : Nat, j - i = k → i ≤ j → (∀ m, i ≤ m → m < j → e m = false) → MeetsIn prog w (Builtin.«list.remove.loop» ⟨[.ref l, x, rawInt i], []⟩)
      (fun A R s => s.heap.get? l = some { cls := .type "list", dict := none, data := .seq items n, slots := #[] } ∧ (∀ m (h : m < items.size), EqM prog w A.in1 s items[m] x (e m)) ∧ R (.ok (.ret .none)) { s with heap := s.heap.update l (Obj.mapSeq fun xs => xs.eraseIdxIfInBounds j) }) := by
  induction k with
  | zero =>
    intro i hk hij hno A R s h
    obtain ⟨hp, g, d, tk, os⟩ := s; obtain ⟨hl, he, h⟩ := h
    have hij' : i = j := by omega
    subst hij'
    wp_walk using wpAny_loadPart' hl
    have hi : items[((i : Nat) : Int).toNat]? = some items[i] := by simp [hj]
    rw [hi]
    refine wpAny_bind (he _ hj _ _ ?_)
    rw [hit]
    have hz' : (items.eraseIdxIfInBounds i).size ≤ sizeLine + 1 := Nat.le_trans (size_erased items _) (Nat.le_succ_of_le hs1)
    wp_walk using (wpAny_updateSeq hl rfl (hz := hs1) (_hz' := hz')), wpAny_loadPart' hl
    simpa using h
  | succ k ih =>
    intro i hk hij hno A R s h
    obtain ⟨hp, g, d, tk, os⟩ := s; obtain ⟨hl, he, h⟩ := h
    have hlt : i < items.size := by omega
    wp_walk using wpAny_loadPart' hl
    have hi : items[((i : Nat) : Int).toNat]? = some items[i] := by simp [hlt]
    have hc : ((i : Int) + 1) = ((i + 1 : Nat) : Int) := by push_cast; rfl
    rw [hi]
    refine wpAny_bind (he _ hlt _ _ ?_)
    rw [hno i (Nat.le_refl _) (by omega)]
    wp_walk
    rw [hc]
    exact ⟨plainId_quiet plain_remove_loop _, codeAny_builtin entry_remove_loop (by
      rw [Around.under_plainId plain_remove_loop _]
      exact ih (i + 1) (by omega) (by omega) (fun m h1 h2 => hno m (by omega) h2) A R _ ⟨hl, he, h⟩)⟩
theorem list_removeI (l : Addr) (items : Array Value) (n : Nat) (x : Value) (e : Nat → Bool) (j : Nat) (hj : j < items.size) (hit : e j = true) (hno : ∀ m, m < j → e m = false) (hs1 : items.size ≤ sizeLine) :
    MeetsIn prog w (Builtin.«list.remove» ⟨[.ref l, x], []⟩)
      (fun A R s => s.heap.get? l = some { cls := .type "list", dict := none, data := .seq items n, slots := #[] } ∧ (∀ m (h : m < items.size), EqM prog w A.in1 s items[m] x (e m)) ∧ R (.ok (.ret .none)) { s with heap := s.heap.update l (Obj.mapSeq fun xs => xs.eraseIdxIfInBounds j) }) := by
  intro A R s h
  obtain ⟨hp, g, d, tk, os⟩ := s; obtain ⟨hl, he, h⟩ := h
  wp_walk using wpAny_loadPart' hl
  exact ⟨plainId_quiet plain_remove_loop _, codeAny_builtin entry_remove_loop (by
    rw [Around.under_plainId plain_remove_loop _]
    exact remove_loopI l items n x e j hj hit _ hs1 0 rfl (Nat.zero_le _) (fun m _ h2 => hno m h2) A R _ ⟨hl, he, h⟩)⟩
theorem index_loopI (l : Addr) (items : Array Value) (n : Nat) (x : Value) (e : Nat → Bool) (upto : Int) (j : Nat) (hj : j < items.size) (hupto : (j : Int) < upto) (hit : e j = true) (k : Nat) :
    ∀ i : Nat, j - i = k → i ≤ j → (∀ m, i ≤ m → m < j → e m = false) → MeetsIn prog w (Builtin.«list.index.loop» ⟨[.ref l, x, rawInt i, rawInt upto], []⟩)
      (fun A R s => s.heap.get? l = some { cls := .type "list", dict := none, data := .seq items n, slots := #[] } ∧ (∀ m (h : m < items.size), EqM prog w A.in1 s items[m] x (e m)) ∧ R (.ok (.ret (.int j s.toks))) { s with toks := s.toks + 1 }) := by
  induction k with
  | zero =>
    intro i hk hij hno A R s h
    obtain ⟨hp, g, d, tk, os⟩ := s; obtain ⟨hl, he, h⟩ := h
    have hij' : i = j := by omega
    subst hij'
    wp_walk using wpAny_loadPart' hl
    have hi : (if (i : Int) < upto then items[((i : Nat) : Int).toNat]? else none) = some items[i] := by simp [hupto, hj]
    rw [hi]
    refine wpAny_bind (he _ hj _ _ ?_)
    rw [hit]
    wp_walk
    exact h
  | succ k ih =>
    intro i hk hij hno A R s h
    obtain ⟨hp, g, d, tk, os⟩ := s; obtain ⟨hl, he, h⟩ := h
    have hlt : i < items.size := by omega
    have hst : (i : Int) < upto := by omega
    wp_walk using wpAny_loadPart' hl
    have hi : (if (i : Int) < upto then items[((i : Nat) : Int).toNat]? else none) = some items[i] := by simp [hst, hlt]
    have hc : ((i : Int) + 1) = ((i + 1 : Nat) : Int) := by push_cast; rfl
    rw [hi]
    refine wpAny_bind (he _ hlt _ _ ?_)
    rw [hno i (Nat.le_refl _) (by omega)]
    wp_walk
    rw [hc]
    exact ⟨plainId_quiet plain_index_loop _, codeAny_builtin entry_index_loop (by
      rw [Around.under_plainId plain_index_loop _]
      exact ih (i + 1) (by omega) (by omega) (fun m h1 h2 => hno m (by omega) h2) A R _ ⟨hl, he, h⟩)⟩
theorem list_indexI (l : Addr) (items : Array Value) (n : Nat) (x : Value) (e : Nat → Bool) (j : Nat) (hj : j < items.size) (hsmall : (j : Int) < 2 ^ 63 - 1) (hit : e j = true) (hno : ∀ m, m < j → e m = false) :
    MeetsIn prog w (Builtin.«list.index» ⟨[.ref l, x], []⟩)
      (fun A R s => s.heap.get? l = some { cls := .type "list", dict := none, data := .seq items n, slots := #[] } ∧ (∀ m (h : m < items.size), EqM prog w A.in1 s items[m] x (e m)) ∧ R (.ok (.ret (.int j s.toks))) { s with toks := s.toks + 1 }) := by
  intro A R s h
  obtain ⟨hp, g, d, tk, os⟩ := s; obtain ⟨hl, he, h⟩ := h
  wp_walk using wpAny_loadPart' hl
  have a1 : ((fun i : Int => if i < 0 then max 0 (i + (items.size : Int)) else i) ((none : Option Int).getD 0)) = ((0 : Nat) : Int) := by simp
  have a2 : ((fun i : Int => if i < 0 then max 0 (i + (items.size : Int)) else i) ((none : Option Int).getD (2 ^ 63 - 1))) = 2 ^ 63 - 1 := by simp
  rw [a1, a2]
  exact ⟨plainId_quiet plain_index_loop _, codeAny_builtin entry_index_loop (by
    rw [Around.under_plainId plain_index_loop _]
    exact index_loopI l items n x e (2 ^ 63 - 1) j hj hsmall hit _ 0 rfl (Nat.zero_le _) (fun m _ h2 => hno m h2) A R _ ⟨hl, he, h⟩)⟩

end
/-! == where the heap is hp, at any place -/
def EqD (g : Gl) (hp : HP) (a b : AV) (e : Bool) : Prop := ∀ {c : Cx} {σ : Nat → Addr} {st : AS} {s : Shared} {u v : Value} {A : Around}, st.hp = hp → Rep g c σ st s → VR σ st.nx a u → VR σ st.nx b v → A.units + 10 < cLine → EqM g.prog g.w A s u v e
def RcD (g : Gl) (hp : HP) (a b : AV) (e : Bool) : Prop := ∀ {c : Cx} {σ : Nat → Addr} {st : AS} {s : Shared} {u v : Value} {A : Around}, st.hp = hp → Rep g c σ st s → VR σ st.nx a u → VR σ st.nx b v → A.units + 10 < cLine → RcM g.prog g.w A s u v e
def RnD (g : Gl) (hp : HP) (a b : AV) (e : Bool) : Prop := ∀ {c : Cx} {σ : Nat → Addr} {st : AS} {s : Shared} {u v : Value} {A : Around}, st.hp = hp → Rep g c σ st s → VR σ st.nx a u → VR σ st.nx b v → A.units + 10 < cLine → RnM g.prog g.w A s u v (!e)
def LtD (g : Gl) (hp : HP) (a b : AV) (e : Bool) : Prop := ∀ {c : Cx} {σ : Nat → Addr} {st : AS} {s : Shared} {u v : Value} {A : Around}, st.hp = hp → Rep g c σ st s → VR σ st.nx a u → VR σ st.nx b v → A.units + 10 < cLine → LtAt A s u v e

section
variable {g : Gl} {c : Cx} {st : AS} {Q : AV → AS → Prop} {X : String → AS → Prop}
theorem op_eq_d {a b : AV} {e : Bool} (h : RcD g st.hp a b e) (hu : c.A.units + 10 < cLine) (q : Q (.bool e) st) : Op2 g c (compareOp .Eq) a b st Q X := fun σ s u v H V W => h rfl H V W hu _ _ (here q H rfl)
theorem op_ne_d {a b : AV} {e : Bool} (h : RnD g st.hp a b e) (hu : c.A.units + 10 < cLine) (q : Q (.bool (!e)) st) : Op2 g c (compareOp .NotEq) a b st Q X := fun σ s u v H V W => h rfl H V W hu _ _ (here q H rfl)
theorem op_lt_d {a b : AV} {e : Bool} (h : LtD g st.hp a b e) (hu : c.A.units + 10 < cLine) (q : Q (.bool e) st) : Op2 g c (compareOp .Lt) a b st Q X := fun σ s u v H V W => h rfl H V W hu _ _ _ _ (here q H rfl)

theorem VRs.at {σ : Nat → Addr} {nx : Nat} {vs : List AV} {us : List Value} (V : VRs σ nx vs us) {i : Nat} (h : i < vs.length) : ∃ h' : i < us.length, VR σ nx vs[i] us[i] := by
  obtain ⟨v, hv, W⟩ := V.get (List.getElem?_eq_getElem h)
  obtain ⟨h', rfl⟩ := List.getElem?_eq_some_iff.mp hv
  exact ⟨h', W⟩
/-- the items that are equal -/
theorem any_range {vs : List AV} {e : AV → Bool} : ((List.range vs.length).any fun i => match vs[i]? with | some y => e y | none => false) = vs.any e := by
  rw [Bool.eq_iff_iff, List.any_eq_true, List.any_eq_true]
  constructor
  · rintro ⟨i, hi, h⟩
    have hi : i < vs.length := by simpa using hi
    rw [List.getElem?_eq_getElem hi] at h
    exact ⟨_, List.getElem_mem hi, h⟩
  · rintro ⟨y, hy, h⟩
    obtain ⟨i, hi, rfl⟩ := List.mem_iff_getElem.mp hy
    exact ⟨i, by simpa using hi, by rw [List.getElem?_eq_getElem hi]; exact h⟩
theorem hits {σ : Nat → Addr} {s : Shared} {vs : List AV} {us : List Value} {x : AV} {u : Value} {e : AV → Bool} {A : Around} (H : Rep g c σ st s) (V : VRs σ st.nx vs us) (W : VR σ st.nx x u) (he : ∀ y ∈ vs, EqD g st.hp y x (e y)) (hu : A.units + 10 < cLine) :
    ∀ m (h : m < us.toArray.size), EqM g.prog g.w A s us.toArray[m] u (match vs[m]? with | some y => e y | none => false) := fun m h => by
  have h' : m < vs.length := by rw [← V.length]; simpa using h
  obtain ⟨_, W'⟩ := V.at h'
  rw [List.getElem?_eq_getElem h']
  exact he _ (List.getElem_mem h') rfl H W' W hu
theorem contains_d {l : Nat} {vs : List AV} {x : AV} {σ : Nat → Addr} {s : Shared} {u : Value} {E : Value → Shared → Prop} {Q : Value → Shared → Prop} (e : AV → Bool) (hl : st.hp l = some (.list vs)) (he : ∀ y ∈ vs, EqD g st.hp y x (e y)) (hu : c.A.units + 20 < cLine) (H : Rep g c σ st s) (W : VR σ st.nx x u) (q : Q (.bool (vs.any e)) s) :
    wpAny (model g.prog g.w) c.A (call (.builtin "list.__contains__") [.ref (σ l), u]) Q E s := by
  obtain ⟨⟨m, news, r⟩, z⟩ := id H
  obtain ⟨us, n, hm, L, V⟩ := r.list hl
  have hg := (r.nw _ hm).1
  have len := V.length
  refine call_meetsIn PySem.F.slot_list_contains ⟨_, hg, rfl⟩ PySem.F.entry_list_contains (PySem.F.args_list_contains_2 _ _) (list_containsI (σ l) us.toArray n u (fun i => match vs[i]? with | some y => e y | none => false)) ⟨hg, hits H V W he (by show c.A.units + 1 + 10 < cLine; omega), ?_⟩
  have es : us.toArray.size = vs.length := by rw [List.size_toArray, len]
  rw [es, any_range]; exact q
theorem op_in_d {l : Nat} {vs : List AV} {x : AV} (e : AV → Bool) (hl : st.hp l = some (.list vs)) (he : ∀ y ∈ vs, EqD g st.hp y x (e y)) (hu : c.A.units + 20 < cLine) (q : Q (.bool (vs.any e)) st) : Op2 g c (compareOp .In) x (.ref l) st Q X := by
  rintro σ s u v H W ⟨la, rfl⟩
  obtain ⟨⟨m, news, r⟩, z⟩ := id H
  obtain ⟨us, n, hm, L, V⟩ := r.list hl
  show wpAny _ _ (do return Value.bool (← contains (.ref (σ l)) u)) _ _ s
  refine wpAny_bind (wpAny_contains_slot ⟨_, (r.nw _ hm).1, rfl⟩ PySem.F.slot_list_contains (contains_d e hl he hu H W ?_))
  exact wpAny_truthy_bool (wpAny_pure (here q H rfl))
theorem op_notin_d {l : Nat} {vs : List AV} {x : AV} (e : AV → Bool) (hl : st.hp l = some (.list vs)) (he : ∀ y ∈ vs, EqD g st.hp y x (e y)) (hu : c.A.units + 20 < cLine) (q : Q (.bool (!vs.any e)) st) : Op2 g c (compareOp .NotIn) x (.ref l) st Q X := by
  rintro σ s u v H W ⟨la, rfl⟩
  obtain ⟨⟨m, news, r⟩, z⟩ := id H
  obtain ⟨us, n, hm, L, V⟩ := r.list hl
  show wpAny _ _ (do return Value.bool (!(← contains (.ref (σ l)) u))) _ _ s
  refine wpAny_bind (wpAny_contains_slot ⟨_, (r.nw _ hm).1, rfl⟩ PySem.F.slot_list_contains (contains_d e hl he hu H W ?_))
  exact wpAny_truthy_bool (wpAny_pure (here q H rfl))

/-- the list changed in place -/
theorem list_turned {σ : Nat → Addr} {s : Shared} {l n : Nat} {vs vs' : List AV} {us us' : List Value} {f : Array Value → Array Value} {Q : β → AS → Prop} {R : (Nat → Addr) → Nat → β → α → Prop} {b : β} {v : α} (H : Rep g c σ st s) (hl : st.hp l = some (.list vs))
    (hg : s.heap.get? (σ l) = some (listOf us.toArray n)) (hf : f us.toArray = us'.toArray) (V : VRs σ st.nx vs' us') (q : Q b (st.put l (.list vs'))) (x : R σ st.nx b v) : PostOk g c R σ st.nx Q v { s with heap := s.heap.update (σ l) (Obj.mapSeq f) } := by
  obtain ⟨⟨m, news, r⟩, z⟩ := H
  have g1 := Heap.get?_update_self (Obj.mapSeq f) hg rfl
  obtain ⟨news', r'⟩ := r.pinned_put (o' := .list vs') hl (Heap.SameBut.update ..) g1 ⟨us', _, by show _ = listOf us'.toArray _; rw [← hf]; rfl, V⟩
  exact ⟨b, σ, _, q, .refl, ⟨⟨m, news', r'⟩, z⟩, x⟩

theorem index_d {l : Nat} {vs : List AV} {x : AV} {k : Nat} (e : AV → Bool) (hl : st.hp l = some (.list vs)) (he : ∀ y ∈ vs, EqD g st.hp y x (e y)) (hk : k < vs.length) (hit : e vs[k] = true) (hno : ∀ i (h : i < vs.length), i < k → e vs[i] = false) (hn : vs.length ≤ 1000) (hu : c.A.units + 20 < cLine)
    (q : Q (.int k) st) : CallV g c (.builtin "list.index") [.ref l, x] st Q X := by
  rintro σ s us H ⟨_, _, rfl, ⟨la, rfl⟩, u, _, rfl, W, rfl⟩
  obtain ⟨⟨m, news, r⟩, z⟩ := id H
  obtain ⟨us, n, hm, L, V⟩ := r.list hl
  have len := V.length
  have hg := (r.nw _ hm).1
  refine call_meetsIn PySem.F.slot_list_index ⟨_, hg, rfl⟩ PySem.F.entry_list_index (PySem.F.args_list_index_2 _ _) (list_indexI (σ l) us.toArray n u (fun i => match vs[i]? with | some y => e y | none => false) k (by simpa using (by omega : k < us.length)) (by omega) (by rw [List.getElem?_eq_getElem hk]; exact hit)
    (fun i hi => by rw [List.getElem?_eq_getElem (by omega)]; exact hno i (by omega) hi)) ⟨hg, hits H V W he (by show c.A.units + 1 + 10 < cLine; omega), here q H.toks ⟨_, rfl⟩⟩
theorem remove_d {l : Nat} {vs : List AV} {x : AV} {k : Nat} (e : AV → Bool) (hl : st.hp l = some (.list vs)) (he : ∀ y ∈ vs, EqD g st.hp y x (e y)) (hk : k < vs.length) (hit : e vs[k] = true) (hno : ∀ i (h : i < vs.length), i < k → e vs[i] = false) (hn : vs.length ≤ 1000) (hu : c.A.units + 20 < cLine)
    (q : Q .none (st.put l (.list (vs.eraseIdx k)))) : CallV g c (.builtin "list.remove") [.ref l, x] st Q X := by
  rintro σ s us H ⟨_, _, rfl, ⟨la, rfl⟩, u, _, rfl, W, rfl⟩
  obtain ⟨⟨m, news, r⟩, z⟩ := id H
  obtain ⟨us, n, hm, L, V⟩ := r.list hl
  have len := V.length
  have hg := (r.nw _ hm).1
  refine call_meetsIn PySem.F.slot_list_remove ⟨_, hg, rfl⟩ PySem.F.entry_list_remove (PySem.F.args_list_remove_2 _ _) (list_removeI (σ l) us.toArray n u (fun i => match vs[i]? with | some y => e y | none => false) k (by simpa using (by omega : k < us.length)) (by rw [List.getElem?_eq_getElem hk]; exact hit)
    (fun i hi => by rw [List.getElem?_eq_getElem (by omega)]; exact hno i (by omega) hi) (by rw [List.size_toArray, len]; exact Nat.le_trans hn (by decide +kernel))) ⟨hg, hits H V W he (by show c.A.units + 1 + 10 < cLine; omega), ?_⟩
  · refine list_turned H hl hg (us' := us.eraseIdx k) (by simp [Array.eraseIdxIfInBounds, List.eraseIdx_toArray, show k < us.length by omega]) ?_ q rfl
    rw [List.eraseIdx_eq_take_drop_succ, List.eraseIdx_eq_take_drop_succ]
    exact (V.take k).append (V.drop (k + 1))
theorem popAt_l {l : Nat} {vs : List AV} {k : Nat} (hl : st.hp l = some (.list vs)) (hk : k < vs.length) (hn : vs.length ≤ 1000) (q : Q vs[k] (st.put l (.list (vs.eraseIdx k)))) : CallV g c (.builtin "list.pop") [.ref l, .int k] st Q X := by
  rintro σ s us H ⟨_, _, rfl, ⟨la, rfl⟩, u, _, rfl, ⟨t, rfl⟩, rfl⟩
  obtain ⟨⟨m, news, r⟩, z⟩ := id H
  obtain ⟨us, n, hm, L, V⟩ := r.list hl
  have len := V.length
  have hg := (r.nw _ hm).1
  obtain ⟨h', W'⟩ := V.at hk
  have hf : Builtin.List.listFitsIndex (k : Int) = true := by unfold Builtin.List.listFitsIndex; simp; omega
  have hk' : seqIndex? (k : Int) us.toArray.size = some k := by
    have hs : us.toArray.size = us.length := List.size_toArray ..
    have e1 : (if (k : Int) < 0 then (k : Int) + (us.toArray.size : Int) else k) = k := if_neg (by omega)
    show (if (0 ≤ (if (k : Int) < 0 then (k : Int) + (us.toArray.size : Int) else k) && (if (k : Int) < 0 then (k : Int) + (us.toArray.size : Int) else k) < (us.toArray.size : Int)) = true then some (if (k : Int) < 0 then (k : Int) + (us.toArray.size : Int) else k).toNat else none) = some k
    rw [e1, if_pos (by rw [hs, Bool.and_eq_true, decide_eq_true_eq, decide_eq_true_eq]; omega), Int.toNat_natCast]
  have hy : us.toArray[k]? = some (us[k]'h') := by simp [List.getElem?_eq_getElem h']
  have hz : us.toArray.size ≤ sizeLine := by rw [List.size_toArray, len]; exact Nat.le_trans hn (by decide +kernel)
  generalize us[k]'h' = y at hy W'
  generalize hi : (k : Int) = i at hf hk'
  have M := @PySem.MeetsSeq.list_pop_at (σ l) us.toArray n i t k y hf hk' hy hz
  refine call_meets PySem.F.slot_list_pop ⟨_, hg, rfl⟩ PySem.F.entry_list_pop (PySem.F.args_list_pop_2 _ _) M ⟨hg, ?_⟩
  refine list_turned H hl hg (us' := us.eraseIdx k) (by simp [Array.eraseIdxIfInBounds, List.eraseIdx_toArray, show k < us.length by omega]) ?_ q W'
  rw [List.eraseIdx_eq_take_drop_succ, List.eraseIdx_eq_take_drop_succ]
  exact (V.take k).append (V.drop (k + 1))
theorem pop_l {l : Nat} {vs : List AV} {a : AV} (hl : st.hp l = some (.list (vs ++ [a]))) (hn : vs.length ≤ 999) (q : Q a (st.put l (.list vs))) : CallV g c (.builtin "list.pop") [.ref l] st Q X := by
  rintro σ s us H ⟨_, _, rfl, ⟨la, rfl⟩, rfl⟩
  obtain ⟨⟨m, news, r⟩, z⟩ := id H
  obtain ⟨us, n, hm, L, V⟩ := r.list hl
  have len := V.length
  have hg := (r.nw _ hm).1
  have hk : vs.length < (vs ++ [a]).length := by simp
  obtain ⟨h', W'⟩ := V.at hk
  rw [List.length_append] at len
  have len : us.length = vs.length + 1 := len
  refine call_meets PySem.F.slot_list_pop ⟨_, hg, rfl⟩ PySem.F.entry_list_pop (PySem.F.args_list_pop_1 _) (PySem.MeetsSeq.list_pop_last (σ l) us.toArray n us[vs.length] ?_ (by rw [List.size_toArray, len]; exact Nat.le_trans (by omega : vs.length + 1 ≤ 1000) (by decide +kernel))) ⟨hg, ?_⟩
  · simp [len]
  · have hz : us.toArray.size - 1 = vs.length := by simp [len]
    rw [hz]
    refine list_turned H hl hg (us' := us.take vs.length) ?_ ?_ q (by simpa using W')
    · have : us.take vs.length = us.eraseIdx vs.length := by rw [List.eraseIdx_eq_take_drop_succ, List.drop_eq_nil_of_le (by omega), List.append_nil]
      rw [this]
      simp [Array.eraseIdxIfInBounds, List.eraseIdx_toArray, show vs.length < us.length by omega]
    · have := V.take vs.length
      rwa [List.take_left'] at this; rfl
end
end Sx

end
namespace Sx

section
variable {g : Gl}
theorem eqd_flat {hp : HP} {a b : AV} {da db : PyData} (Da : D1 hp a da) (Db : D1 hp b db) (ha : da.canLay0 = true) (hb : db.canLay0 = true) (h : da.depth ≤ 3) : EqD g hp a b (PyData.eqv da db) := by
  rintro c σ st s u v A rfl ⟨⟨m, news, r⟩, z⟩ V W hu
  obtain ⟨as, ra, _⟩ := d1_reads r V Da
  obtain ⟨bs, rb, _⟩ := d1_reads r W Db
  exact PySem.SeqAt.eqAt_reads da db A s u v as bs ra rb ha hb (by have := Nat.min_le_left da.depth db.depth; omega) g.prog g.w
theorem rcd_flat {hp : HP} {a b : AV} {da db : PyData} (Da : D1 hp a da) (Db : D1 hp b db) (ha : da.canLay0 = true) (hb : db.canLay0 = true) (h : da.depth ≤ 3) : RcD g hp a b (PyData.eqv da db) := by
  rintro c σ st s u v A rfl ⟨⟨m, news, r⟩, z⟩ V W hu
  obtain ⟨as, ra, _⟩ := d1_reads r V Da
  obtain ⟨bs, rb, _⟩ := d1_reads r W Db
  exact PySem.SeqAt.rcAt_reads ra rb ha hb (by have := Nat.min_le_left da.depth db.depth; omega) g.prog g.w
theorem rnd_flat {hp : HP} {a b : AV} {da db : PyData} (Da : D1 hp a da) (Db : D1 hp b db) (ha : da.canLay0 = true) (hb : db.canLay0 = true) (h : da.depth ≤ 3) : RnD g hp a b (PyData.eqv da db) := by
  rintro c σ st s u v A rfl ⟨⟨m, news, r⟩, z⟩ V W hu
  obtain ⟨as, ra, _⟩ := d1_reads r V Da
  obtain ⟨bs, rb, _⟩ := d1_reads r W Db
  exact PySem.SeqAt.rcNeAt_reads ra rb ha hb (by have := Nat.min_le_left da.depth db.depth; omega) g.prog g.w
theorem ltd_num {hp : HP} {a b : AV} (ha : Numb a) (hb : Numb b) : LtD g hp a b (decide (valN a < valN b)) := fun e H V W hu => num_lt ha hb V W
def lexV (vs ws : List AV) : Bool := lexB (fun i => valN (vs[i]?.getD .none) == valN (ws[i]?.getD .none)) (fun i => decide (valN (vs[i]?.getD .none) < valN (ws[i]?.getD .none))) vs.length ws.length (min vs.length ws.length) 0
theorem ltd_list {hp : HP} {i j : Nat} {vs ws : List AV} (hi : hp i = some (.list vs)) (hj : hp j = some (.list ws)) (nv : ∀ a ∈ vs, Numb a) (nw : ∀ a ∈ ws, Numb a) : LtD g hp (.ref i) (.ref j) (lexV vs ws) := by
  rintro c σ st s u v A rfl ⟨⟨m, news, r⟩, z⟩ ⟨li, rfl⟩ ⟨lj, rfl⟩ hu prog w E Q q
  obtain ⟨us, n, hm, L, V⟩ := r.list hi
  obtain ⟨ts, n', hm', L', W⟩ := r.list hj
  have l1 := V.length
  have l2 := W.length
  have g1 := (r.nw _ hm).1
  have g2 := (r.nw _ hm').1
  refine richCompare_meets_room (op := .Lt) ⟨_, g1, rfl⟩ ⟨_, g2, rfl⟩ F.slot_list_lt F.entry_list_lt (F.args_list_lt_2 _ _)
    (list_ltAt (σ i) (σ j) us.toArray ts.toArray n n' (fun k => valN (vs[k]?.getD .none) == valN (ws[k]?.getD .none)) (fun k => decide (valN (vs[k]?.getD .none) < valN (ws[k]?.getD .none)))) ⟨g1, g2, fun k h1 h2 => ?_, nofun, ?_⟩ (by omega)
  · have k1 : k < vs.length := by rw [← l1]; simpa using h1
    have k2 : k < ws.length := by rw [← l2]; simpa using h2
    obtain ⟨_, V'⟩ := V.at k1
    obtain ⟨_, W'⟩ := W.at k2
    rw [List.getElem?_eq_getElem k1, List.getElem?_eq_getElem k2]
    exact ⟨num_eq (nv _ (List.getElem_mem k1)) (nw _ (List.getElem_mem k2)) V' W', num_lt (nv _ (List.getElem_mem k1)) (nw _ (List.getElem_mem k2)) V' W'⟩
  · simp only [List.size_toArray, l1, l2]; exact q

/-! dicts -/
structure EsOk (g : Gl) (es : List (Int × Str × AV)) : Prop where
  hash : ∀ e ∈ es, e.1 = hashStr g.w e.2.1
  num : ∀ e ∈ es, Numb e.2.2
  nd : (es.map (·.2.1)).Nodup
inductive KV (σ : Nat → Addr) (nx : Nat) : List (Int × Str × AV) → List (Str × Value) → Prop
  | nil : KV σ nx [] []
  | cons {h x a u es kvs} : VR σ nx a u → KV σ nx es kvs → KV σ nx ((h, x, a) :: es) ((x, u) :: kvs)
theorem kv_of (g : Gl) {σ : Nat → Addr} {nx : Nat} : ∀ {es : List (Int × Str × AV)} {ds : List DictEntry}, ER σ nx es ds → (∀ e ∈ es, e.1 = hashStr g.w e.2.1) → ∃ kvs, KV σ nx es kvs ∧ Pairs (strKind g.prog g.w) ds kvs ∧ (∀ e ∈ ds, ∃ k, (strKind g.prog g.w).is k e.key = true ∧ e.hash = (strKind g.prog g.w).hash k)
  | [], _, h, _ => by cases h; exact ⟨[], .nil, .nil, fun _ h => nomatch h⟩
  | (n, x, a) :: es, _, ⟨t, u, q, e, V, R⟩, H => by
    subst e
    obtain ⟨kvs, h1, h2, h3⟩ := kv_of g R fun e he => H e (.tail _ he)
    have hk : (strKind g.prog g.w).is x (.str x t) = true := by show Value.isStrOf x (.str x t) = true; unfold Value.isStrOf; simp
    refine ⟨(x, u) :: kvs, .cons V h1, .cons hk rfl h2, fun e he => ?_⟩
    rcases List.mem_cons.mp he with rfl | he
    · exact ⟨x, hk, H (n, x, a) (.head _)⟩
    · exact h3 e he
theorem KV.keys {σ : Nat → Addr} {nx : Nat} {es : List (Int × Str × AV)} {kvs : List (Str × Value)} (h : KV σ nx es kvs) : kvs.map (·.1) = es.map (·.2.1) := by
  induction h with
  | nil => rfl
  | cons _ _ ih => simp [ih]
theorem KV.len {σ : Nat → Addr} {nx : Nat} {es : List (Int × Str × AV)} {kvs : List (Str × Value)} (h : KV σ nx es kvs) : kvs.length = es.length := by
  have := congrArg List.length h.keys
  simpa using this
theorem KV.at {σ : Nat → Addr} {nx : Nat} {es : List (Int × Str × AV)} {kvs : List (Str × Value)} (h : KV σ nx es kvs) (k : Str) : match es.find? (fun e => decide (e.2.1 = k)) with
    | none => valueAt kvs k = none
    | some e => ∃ u, valueAt kvs k = some u ∧ VR σ nx e.2.2 u := by
  induction h with
  | nil => rfl
  | @cons h x a u es kvs V _ ih =>
    rw [List.find?_cons]
    by_cases e : x = k
    · subst e
      have : decide (((h, x, a) : Int × Str × AV).2.1 = x) = true := decide_eq_true rfl
      rw [this]
      exact ⟨u, by unfold valueAt; simp, V⟩
    · have h0 : decide (((h, x, a) : Int × Str × AV).2.1 = k) = false := decide_eq_false e
      rw [h0]
      have hv : valueAt ((x, u) :: kvs) k = valueAt kvs k := by unfold valueAt; rw [List.find?_cons]; simp [e]
      rw [hv]; exact ih
def dEq : List (Int × Str × AV) → List (Int × Str × AV) → Bool
  | [], _ => true
  | (_, k, a) :: r, fs => match fs.find? (fun e => decide (e.2.1 = k)) with
    | none => false
    | some e => (valN a == valN e.2.2) && dEq r fs
theorem dEq_hits {A : Around} {s : Shared} {σ : Nat → Addr} {nx : Nat} {fs : List (Int × Str × AV)} {kb : List (Str × Value)} (hb : KV σ nx fs kb) (nf : ∀ e ∈ fs, Numb e.2.2) {es : List (Int × Str × AV)} {ka : List (Str × Value)} (ha : KV σ nx es ka) (ne : ∀ e ∈ es, Numb e.2.2) :
    KeqHits A s kb ka (dEq es fs) := by
  induction ha with
  | nil => exact .nil
  | @cons h x a u es kvs V _ ih =>
    have k := hb.at x
    unfold dEq
    cases q : fs.find? (fun e => decide (e.2.1 = x)) with
    | none => rw [q] at k; exact .miss k
    | some e =>
      rw [q] at k
      obtain ⟨y, hy, W⟩ := k
      exact .hit hy (num_eq (ne _ (.head _)) (nf e (List.mem_of_find?_eq_some q)) V W) (ih fun e he => ne e (.tail _ he))
theorem dict_of {c : Cx} {σ : Nat → Addr} {st : AS} {m : Str → Option Value} {news : List (Addr × Obj)} {h : Heap} (r : RepN g c σ st m news h) {i : Nat} {es : List (Int × Str × AV)} (hi : st.hp i = some (.dict es)) (ok : EsOk g es) :
    ∃ kvs, h.DictOf (strKind g.prog g.w) (σ i) kvs ∧ KV σ st.nx es kvs ∧ (σ i == sysModules) = false := by
  obtain ⟨ob, hm, ho, ds, n, rfl, R⟩ := r.obj hi
  obtain ⟨kvs, h1, h2, h3⟩ := kv_of g R ok.hash
  refine ⟨kvs, ⟨_, _, _, ho, ⟨rfl, rfl, rfl⟩, rfl, fun e he => h3 e (by simpa using he), by simpa using h2, by rw [h1.keys]; exact ok.nd⟩, h1, ?_⟩
  have := r.lo i _ hi rfl
  exact beq_eq_false_iff_ne.mpr (show σ i ≠ 1 from Nat.ne_of_gt this)
theorem rcd_dict {hp : HP} {i j : Nat} {es fs : List (Int × Str × AV)} (hi : hp i = some (.dict es)) (hj : hp j = some (.dict fs)) (oe : EsOk g es) (of : EsOk g fs) : RcD g hp (.ref i) (.ref j) (es.length == fs.length && dEq es fs) := by
  rintro c σ st s u v A rfl ⟨⟨m, news, r⟩, z⟩ ⟨li, rfl⟩ ⟨lj, rfl⟩ hu E Q q
  obtain ⟨ka, da, Ka, na⟩ := dict_of r hi oe
  obtain ⟨kb, db, Kb, nb⟩ := dict_of r hj of
  exact keq_eq na nb da db (by omega) (fun _ => dEq_hits Kb of.num Ka oe.num) (by rw [Ka.len, Kb.len]; exact q)
theorem rnd_dict {hp : HP} {i j : Nat} {es fs : List (Int × Str × AV)} (hi : hp i = some (.dict es)) (hj : hp j = some (.dict fs)) (oe : EsOk g es) (of : EsOk g fs) : RnD g hp (.ref i) (.ref j) (es.length == fs.length && dEq es fs) := by
  rintro c σ st s u v A rfl ⟨⟨m, news, r⟩, z⟩ ⟨li, rfl⟩ ⟨lj, rfl⟩ hu E Q q
  obtain ⟨ka, da, Ka, na⟩ := dict_of r hi oe
  obtain ⟨kb, db, Kb, nb⟩ := dict_of r hj of
  exact keq_ne na nb da db (by omega) (fun _ => dEq_hits Kb of.num Ka oe.num) (by rw [Ka.len, Kb.len]; exact q)
theorem eqd_dict {hp : HP} {i j : Nat} {es fs : List (Int × Str × AV)} (hi : hp i = some (.dict es)) (hj : hp j = some (.dict fs)) (oe : EsOk g es) (of : EsOk g fs) (hs : i = j → (es.length == fs.length && dEq es fs) = true) : EqD g hp (.ref i) (.ref j) (es.length == fs.length && dEq es fs) := by
  intro c σ st s u v A e H V W hu
  by_cases hij : i = j
  · subst hij
    rw [hs rfl]
    obtain ⟨_, rfl⟩ := V
    obtain ⟨_, rfl⟩ := W
    exact PySem.SeqAt.EqAt.same _ g.prog g.w
  · intro E Q q
    obtain ⟨lu, rfl⟩ := V
    obtain ⟨lv, rfl⟩ := W
    have hne : Value.ref (σ i) ≠ .ref (σ j) := by
      obtain ⟨⟨m, news, r⟩, z⟩ := H
      subst e
      intro h
      exact hij (r.inj i j (by rw [hi]; simp) (by rw [hj]; simp) (Value.ref.inj h))
    unfold eqBool
    refine wpAny_holding ?_
    refine wpAny_ite_split (fun hab => absurd (eq_of_beq hab) hne) (fun _ => ?_)
    exact wpAny_bind (rcd_dict hi hj oe of e H ⟨lu, rfl⟩ ⟨lv, rfl⟩ hu _ _ (wpAny_truthy_bool q))
end
end Sx

section
open PySem.Builtin.Str PySem.Builtin
namespace Sx
theorem percent_r {prog : Program} {w : World} {A : Around} {E : Value → Shared → Prop} {s : Shared} {u : Value} {T : String} {t : Tok} {Q : Value → Shared → Prop}
    (hT : s.TypeIs u T) (hsub : isSubtype (.type T) (.type "tuple") = pure false)
    (hs : ∀ {Q : Option Str → Shared → Prop}, Q none s → wpAny (model prog w) A (asStr? u) Q E s)
    (hf : ∀ {Q : Bool → Shared → Prop}, (∀ b, Q b s) → wpAny (model prog w) A (fillsMappingSlot u) Q E s)
    (hr : wpAny (model prog w) A (pyReprObjUnder 0 u) (fun v s' => ∃ x t, v = .str x t ∧ x.length ≤ 1000000 ∧ ∀ t' k, Q (.str x t') { s' with toks := k }) E s) :
    wpAny (model prog w) A (percentFormat (.str (Str.mk #[37, 114]) t) (Str.mk #[37, 114]) u) (fun fin s' => ∃ v, fin = .done (.ret v) ∧ Q v s') E s := by
  unfold Builtin.Str.percentFormat
  refine wpAny_bind (wpAny_isInstance hT hsub ?_)
  refine wpAny_bind (hs ?_)
  refine wpAny_bind (hf ?_)
  intro b
  kpc_if
  refine wpAny_bind (wpAny_pure ?_)
  refine wpAny_bind ?_
  rw [KPc.range_list]
  refine KPc.start ?_
  intro w' g0
  refine KPc.turn ?_
  kpc_check
  repeat kpc_if
  refine wpAny_bind ?_
  refine wpAny_holding ?_
  (repeat kpc_if)
  refine wpAny_bind ?_
  (repeat kpc_if)
  show wpAny _ _ (pyReprObjUnder w'.total u) _ _ _
  have e0 : w'.total = 0 := Nat.le_zero.mp g0.total
  rw [e0]
  refine wpAny_mono hr (fun v s' hv => ?_) fun _ _ e => e
  obtain ⟨x, t', rfl, hx, hq⟩ := hv
  refine wpAny_bind (wpAny_of_eq (a := some _) rfl ?_)
  refine wpAny_pure ?_
  refine wpAny_pure ?_
  refine KPc.after_str0 g0 hx (KPc.obj_some rfl) ?_
  intro w2 g2
  refine KPc.turn ?_
  kpc_check
  (repeat kpc_if)
  refine wpAny_pure ?_
  kpc_if
  exact KPc.finish_ok g2 (by decide) rfl fun t k => ⟨_, rfl, hq t k⟩

theorem mod_start {prog : Program} {w : World} {A : Around} {E : Value → Shared → Prop} {s : Shared} {u : Value} {T : String} {t : Tok} {X : Str} {Q : Value → Shared → Prop} (hX : X = Str.mk #[37, 114])
    (hT : ∀ s' : Shared, s'.heap = s.heap → s'.TypeIs u T) (hsub : isSubtype (.type T) (.type "tuple") = pure false)
    (hs : ∀ {A : Around} {Q : Option Str → Shared → Prop} {E : Value → Shared → Prop}, Q none s → wpAny (model prog w) A (asStr? u) Q E s)
    (hf : ∀ {A : Around} {Q : Bool → Shared → Prop} {E : Value → Shared → Prop}, (∀ b, Q b s) → wpAny (model prog w) A (fillsMappingSlot u) Q E s)
    (he : «str.__mod__» ⟨[.str (Str.mk #[37, 114]) t, u], []⟩ = percentFormat (.str (Str.mk #[37, 114]) t) (Str.mk #[37, 114]) u)
    (hr : wpAny (model prog w) A.in1 (pyReprObjUnder 0 u) (fun v s' => ∃ x t, v = .str x t ∧ x.length ≤ 1000000 ∧ ∀ t' k, Q (.str x t') { s' with toks := k }) E s) :
    wpAny (model prog w) A (call (.builtin "str.__mod__") [.str X t, u]) (fun v s' => v ≠ .notImplemented ∧ Q v s') E s := by
  subst hX
  refine wpAny_call_entry F.slot_str_mod (typeIs_str _ _ _) F.entry_str_mod ?_ (F.args_str_mod_2 _ _)
  rw [he]
  refine percent_r (hT s rfl) hsub hs hf (wpAny_mono hr (fun v s' h => ?_) fun _ _ e => e)
  obtain ⟨x, t', rfl, hx, hq⟩ := h
  exact ⟨x, t', rfl, hx, fun t' k => ⟨nofun, hq t' k⟩⟩
theorem get_bool : typeLookup (.type "bool") "__getitem__" = pure none := by rw [typeLookup_type, builtinLookup_eq_fast]; kernel_rfl
theorem fills_list_mod : fillsNumberSlot (.type "list") "mod" = pure false := by
  have a : typeLookup (.type "list") (PySem.dunder "mod") = pure none := by rw [typeLookup_type, builtinLookup_eq_fast]; kernel_rfl
  have b : typeLookup (.type "list") (PySem.dunderR "mod") = pure none := by rw [typeLookup_type, builtinLookup_eq_fast]; kernel_rfl
  unfold fillsNumberSlot
  simp [a, b]
theorem fills_dict_mod : fillsNumberSlot (.type "dict") "mod" = pure false := by
  have a : typeLookup (.type "dict") (PySem.dunder "mod") = pure none := by rw [typeLookup_type, builtinLookup_eq_fast]; kernel_rfl
  have b : typeLookup (.type "dict") (PySem.dunderR "mod") = pure none := by rw [typeLookup_type, builtinLookup_eq_fast]; kernel_rfl
  unfold fillsNumberSlot
  simp [a, b]
theorem sub_list_tuple : isSubtype (.type "list") (.type "tuple") = pure false := by rw [isSubtype_type]; kernel_rfl
theorem sub_dict_tuple : isSubtype (.type "dict") (.type "tuple") = pure false := by rw [isSubtype_type]; kernel_rfl
theorem sub_bool_tuple : isSubtype (.type "bool") (.type "tuple") = pure false := by rw [isSubtype_type]; kernel_rfl
theorem sub_bool_str : isSubtype (.type "bool") (.type "str") = pure false := by rw [isSubtype_type]; kernel_rfl

/-- repr on the way through a text: a scalar's -/
theorem under_sc {M : Model} {A : Around} {E : Value → Shared → Prop} {s : Shared} {v : Value} {T id : String} {b : Nat} {Q : Value → Shared → Prop} (hu : A.units < cLine) (hT : s.TypeIs v T) (h : Slot T (Str.ofString "__repr__") id)
    (htw : reprUnder? (.builtin id) = none) (hc : wpAny M A (call (.builtin id) [v]) (fun v s' => (∃ x u, v = .str x u) ∧ Q v s') E s) : wpAny M A (pyReprObjUnder b v) Q E s := by
  unfold pyReprObjUnder pyReprObjBy
  refine wpAny_bind (wpAny_cRoomFor hu ?_)
  refine wpAny_bind (wpAny_specialOf (name := Str.ofString "__repr__") hT h.lookup ?_)
  refine wpAny_bind (wpAny_callSpecialIfBoundBy?_slotG (name := Str.ofString "__repr__") hT h.toG ?_)
  simp only [htw]
  refine wpAny_mono hc (fun v s' hv => ?_) fun _ _ x => x
  obtain ⟨⟨x, u, rfl⟩, hq⟩ := hv
  exact wpAny_bind (wpAny_isInstance (T := "str") (b := true) rfl isSubtype_str_str (wpAny_pure hq))
section
variable {g : Gl} {c : Cx} {st : AS} {Q : AV → AS → Prop} {X : String → AS → Prop}
theorem under1 {σ : Nat → Addr} {s : Shared} {u : Value} {A : Around} {E : Value → Shared → Prop} {a : AV} {d : PyData} {P : Value → Shared → Prop} (H : Rep g c σ st s) (V : VR σ st.nx a u) (hg : A.guards = some []) (hu : A.units + 15 < cLine) (D : D1 st.hp a d) (hs : d.showable = true) (hdep : d.depth ≤ 3)
    (hi : ∀ i, d = .int i → i.natAbs.log2 < 1920) (hsz : d.shown.length ≤ sizeLine) (hnn : d ≠ .none) (hns : ∀ x, d ≠ .str x) (hd : (∃ es, d = .dict es) ∨ d.hasDict = false)
    (q : ∀ h' u tk, (∀ b o, s.heap.get? b = some o → h'.get? b = some o) → P (.str d.shown u) { s with heap := h', toks := tk }) : wpAny (model g.prog g.w) A (pyReprObjUnder 0 u) P E s := by
  obtain ⟨⟨m, news, r⟩, z⟩ := id H
  cases D with
  | sc D =>
    cases a with
    | none => cases D; exact absurd rfl hnn
    | bool b =>
      cases D; cases V
      exact under_sc (T := "bool") (by omega) rfl PySem.F.slot_bool_repr rfl (call_gives PySem.F.slot_bool_repr rfl PySem.F.entry_bool_repr (PySem.F.args_bool_repr_1 _) (gives_bool_repr b) ⟨by cases b <;> decide +kernel, ⟨_, _, rfl⟩, by cases b <;> exact q s.heap _ _ fun _ _ e => e⟩)
    | int i =>
      cases D; obtain ⟨t, rfl⟩ := V
      have h' := hi i rfl
      exact under_sc (T := "int") (by omega) (typeIs_int _ _ _) PySem.F.slot_int_repr rfl (call_gives PySem.F.slot_int_repr (typeIs_int _ _ _) PySem.F.entry_int_repr (PySem.F.args_int_repr_1 _) (gives_int_repr i t h') ⟨int_text_fits h', ⟨_, _, rfl⟩, q s.heap _ _ fun _ _ e => e⟩)
    | str x => cases D; exact absurd rfl (hns x)
    | ref i => exact D.elim
    | con v => exact D.elim
  | @list i vs ds hi' D =>
    obtain ⟨lt, rfl⟩ := V
    obtain ⟨us, n, hm, ⟨ob, ho, hc, k, hda⟩, W⟩ := r.list hi'
    have RA := scs_reads (h := s.heap) W D
    have hz' : (listText (PyData.shownAll ds)).length ≤ sizeLine := by simpa only [PyData.shown] using hsz
    obtain ⟨as, ha, hk⟩ := ReprAllK.of_readsAll (prog := g.prog) (w := g.w) RA (by simpa [PyData.showable] using hs) (fun _ hm => nomatch hm) (fun x hx => Nat.le_trans (listText_mem_le hx) hz')
    have RL : Reads s.heap (.ref (σ i)) (.list ds) (σ i :: []) := .list ho hc hda (by simpa using RA)
    simp only [PyData.depth] at hdep
    have hna : σ i ∉ as := not_mem_of_deeper RL (by simp only [PyData.depth]; omega) ha
    simp only [PyData.shown] at q
    cases us with
    | nil =>
      have hda' : ob.data = .seq #[] k := hda
      cases RA
      simp only [PyData.shownAll, listText_nil] at q
      exact wpAny_pyReprObjUnder_list_empty ⟨ob, ho, hc⟩ (by omega) ho hda' (q s.heap _ _ fun _ _ e => e)
    | cons x l =>
      exact wpAny_pyReprObjUnder_listK (g := []) ho hc hda hna (by simpa using hk.length_eq) (fun i y e => hk.item i y (by simpa using e)) hg (fun b _ => Clear.nil b) (by omega) (fun _ _ e => e) (fun h' u tk hk' => q h' u tk hk') (by omega)
  | @dict i es ds hi' D =>
    obtain ⟨lt, rfl⟩ := V
    obtain ⟨ob, hm, ho, es', n, rfl, W⟩ := r.obj hi'
    obtain ⟨h1, h2⟩ := kvs_reads (h := s.heap) W D
    have RL : Reads s.heap (.ref (σ i)) (.dict ds) (σ i :: [] ++ []) := .dict (n := n) (as := []) (bs := []) ho rfl rfl (by simpa using h1) (by simpa using h2)
    have hz' : (dictText (PyData.shownKv ds)).length ≤ sizeLine := by simpa only [PyData.shown] using hsz
    obtain ⟨hs1, hs2⟩ := PyData.showableKv_split ds (by simpa [PyData.showable] using hs)
    obtain ⟨b1, hb1, k1⟩ := ReprAllK.of_readsAll (prog := g.prog) (w := g.w) h1 hs1 (fun _ hm => nomatch hm) (fun t ht => let ⟨p, hp, hl⟩ := PyData.shownKv_key_le ds t ht; Nat.le_trans hl (Nat.le_trans (dictText_mem_le hp) hz'))
    obtain ⟨b2, hb2, k2⟩ := ReprAllK.of_readsAll (prog := g.prog) (w := g.w) h2 hs2 (fun _ hm => nomatch hm) (fun t ht => let ⟨p, hp, hl⟩ := PyData.shownKv_val_le ds t ht; Nat.le_trans hl (Nat.le_trans (dictText_mem_le hp) hz'))
    have hb : ReadAtMost s.heap (PyData.depthKv ds) (b1 ++ b2) := (hb1.mono (PyData.depthAll_keys_le ds)).append (hb2.mono (PyData.depthAll_vals_le ds))
    simp only [PyData.depth] at hdep
    have hna : σ i ∉ b1 ++ b2 := not_mem_of_deeper RL (by simp only [PyData.depth]; omega) hb
    have lo := r.lo i _ hi' rfl
    have hsys : (σ i == sysModules) = false := beq_eq_false_iff_ne.mpr (show σ i ≠ 1 from Nat.ne_of_gt lo)
    simp only [PyData.shown, PyData.shownKv_eq] at q
    exact wpAny_pyReprObjUnder_dictK (g := []) ho rfl rfl hsys hna (ReprEntriesK.of_two _ _ _
      (k1.more_le (fun b hb => List.mem_append_left _ hb) (PyData.depthAll_keys_le ds)) (k2.more_le (fun b hb => List.mem_append_right _ hb) (PyData.depthAll_vals_le ds))) hg (fun b _ => Clear.nil b) (by omega) (fun _ _ e => e) (fun h' u tk hk' => q h' u tk hk') (by rw [← PyData.shownKv_eq]; omega)
end

theorem entry_is_b (F : PySem.Str) (b : Bool) (t : Tok) : «str.__mod__» ⟨[.str F t, .bool b], []⟩ = percentFormat (.str F t) F (.bool b) := by kernel_rfl
theorem fills_getitem {M : Model} {A : Around} {E : Value → Shared → Prop} {s : Shared} {v : Value} {T id : String} {Q : Bool → Shared → Prop} (hT : s.TypeIs v T) (h : Slot T "__getitem__" id) (q : ∀ b, Q b s) : wpAny M A (fillsMappingSlot v) Q E s := by
  unfold fillsMappingSlot
  refine wpAny_bind (wpAny_specialOf hT h.lookup ?_)
  exact wpAny_pure (q _)
section
variable {g : Gl} {c : Cx} {st : AS} {Q : AV → AS → Prop} {X : String → AS → Prop}
theorem op_modr {f : Str} {a : AV} {d : PyData} (hf : f = Str.mk #[37, 114]) (hg : c.A.guards = some []) (hu : c.A.units + 20 < cLine) (D : D1 st.hp a d) (hs : d.showable = true) (hdep : d.depth ≤ 3)
    (hi : ∀ i, d = .int i → i.natAbs.log2 < 1920) (hsz : d.shown.length ≤ 1000000) (hnn : d ≠ .none) (hns : ∀ x, d ≠ .str x) (hd : (∃ es, d = .dict es) ∨ d.hasDict = false)
    (q : ∀ x, Q (.str x) st) : Op2 g c (binaryOp .Mod) (.str f) a st Q X := by
  rintro σ s w u H ⟨t, rfl⟩ V
  have hsz' : d.shown.length ≤ sizeLine := Nat.le_trans hsz (by decide +kernel)
  have U : wpAny (model g.prog g.w) c.A.in1 (pyReprObjUnder 0 u) (fun v s' => ∃ x t, v = .str x t ∧ x.length ≤ 1000000 ∧ ∀ t' k, PostOk g c VR σ st.nx Q (.str x t') { s' with toks := k }) (PostX g c σ st.nx X) s :=
    under1 H V hg (by show c.A.units + 1 + 15 < cLine; omega) D hs hdep hi hsz' hnn hns hd fun h' u tk hk => ⟨_, _, rfl, hsz, fun t' k => here (q _) (H.grown' hk) ⟨_, rfl⟩⟩
  obtain ⟨⟨m, news, r⟩, z⟩ := id H
  cases D with
  | sc D =>
    cases a with
    | none => cases D; exact absurd rfl hnn
    | bool b =>
      cases D; cases V
      exact wpAny_binaryOp_two (T := "str") (U := "bool") (op := .Mod) (by decide) (typeIs_str _ _ _) (fun _ => rfl) F.fills_str_mod F.fills_bool_mod sub_bool_str F.slot_str_mod F.slot_bool_rmod
        (wpAny_mono (mod_start (T := "bool") hf (fun _ _ => rfl) sub_bool_tuple (fun q => wpAny_of_eq (a := none) rfl q) (fun q => by
          have e : specialOf (.bool b) "__getitem__" = typeLookup (.type "bool") "__getitem__" := rfl
          unfold fillsMappingSlot
          rw [e, get_bool]
          exact wpAny_pure (q _)) (entry_is_b _ b t) U) (fun _ _ h => .inl h) fun _ _ e => e)
    | int i =>
      cases D; obtain ⟨t', rfl⟩ := V
      exact wpAny_binaryOp_two (T := "str") (U := "int") (op := .Mod) (by decide) (typeIs_str _ _ _) (fun _ => typeIs_int _ _ _) F.fills_str_mod F.fills_int_mod F.sub_int_str F.slot_str_mod F.slot_int_rmod
        (wpAny_mono (mod_start (T := "int") hf (fun _ _ => typeIs_int _ _ _) F.sub_int_tuple (fun q => wpAny_of_eq (a := none) rfl q) (fun q => wpAny_of_eq (KPc.fills _ _) (q _)) (KPc.entry_is _ i t t') U) (fun _ _ h => .inl h) fun _ _ e => e)
    | str x => cases D; exact absurd rfl (hns x)
    | ref i => exact D.elim
    | con v => exact D.elim
  | @list i vs ds hi' D =>
    obtain ⟨lt, rfl⟩ := V
    obtain ⟨us, n, hm, ⟨ob, ho, hc, k, hda⟩, W⟩ := r.list hi'
    exact KPt.bin_left (T := "str") (U := "list") (op := .Mod) (by decide) (typeIs_str _ _ _) ⟨ob, ho, hc⟩ F.fills_str_mod fills_list_mod F.slot_str_mod
      (mod_start (T := "list") hf (fun s' e => ⟨ob, by rw [e]; exact ho, hc⟩) sub_list_tuple (fun q => KPt.asStr_ref ho hda q) (fun q => fills_getitem ⟨ob, ho, hc⟩ slot_list_getitem q) (KPt.entry_is_r _ _ t) U)
  | @dict i es ds hi' D =>
    obtain ⟨lt, rfl⟩ := V
    obtain ⟨ob, hm, ho, es', n, rfl, W⟩ := r.obj hi'
    exact KPt.bin_left (T := "str") (U := "dict") (op := .Mod) (by decide) (typeIs_str _ _ _) ⟨_, ho, rfl⟩ F.fills_str_mod fills_dict_mod F.slot_str_mod
      (mod_start (T := "dict") hf (fun s' e => ⟨_, by rw [e]; exact ho, rfl⟩) sub_dict_tuple (fun q => by simp only [asStr?]; exact wpAny_bind (wpAny_load ho (wpAny_pure q))) (fun q => fills_getitem ⟨_, ho, rfl⟩ F.slot_dict_getitem q) (KPt.entry_is_r _ _ t) U)

/-! raise -/
theorem ke_raise : ExcRaiseFacts "KeyError" := ⟨by rw [isSubtype_type]; kernel_rfl, by decide +kernel⟩
end
end Sx

end
namespace Sx
section
variable {prog : Program} {w : World} {A : Around}
theorem exc_new {cls newId owner : String} {R : Result → Shared → Prop} {rest : List Value} {s : Shared} (hrest : rest.length ≤ sizeLine) (hends : newId.endsWith ".__new__" = true) (howner : newId.dropRight 8 = owner) (hentry : entryFor table newId = some Builtin.«BaseException.__new__»)
    (hsub : isSubtype (.type cls) (.type owner) = pure true) (hna : isSubtype (.type cls) (.type "AttributeError") = pure false) (hnn : isSubtype (.type cls) (.type "NameError") = pure false) (hmade : Bind.madeHere "BaseException.__new__" (.type cls) = pure ())
    (h : R (.ok (.ret (.ref (s.heap.objs.size + 1)))) { s with heap := (s.heap.push { cls := .type "tuple", data := .seq rest.toArray }).push { cls := .type cls, data := .fields #[.ref s.heap.objs.size, .none, .none, .none, .bool false, .none] } }) :
    codeAny (model prog w) A (.builtin newId ⟨.type cls :: rest, []⟩) R s := by
  obtain ⟨hp, g, d, tk, os⟩ := s
  refine codeAny_builtinAt hentry ?_
  unfold Builtin.«BaseException.__new__»
  refine PySem.wpAt_bind ?_
  show PySem.wpAt _ _ _ (stack >>= _) _ _ _
  refine PySem.wpAt_bind (PySem.wpAt_stack fun p below => PySem.wpAt_of_wpAny ?_)
  wp_walk
  refine PySem.wpAt_of_wpAny ?_
  rw [howner]
  wp_walk
  show R _ _
  rw [Heap.size_push]
  exact h
theorem ke_new {R : Result → Shared → Prop} {rest : List Value} {s : Shared} (hrest : rest.length ≤ sizeLine)
    (h : R (.ok (.ret (.ref (s.heap.objs.size + 1)))) { s with heap := (s.heap.push { cls := .type "tuple", data := .seq rest.toArray }).push { cls := .type "KeyError", data := .fields #[.ref s.heap.objs.size, .none, .none, .none, .bool false, .none] } }) :
    codeAny (model prog w) A (.builtin "LookupError.__new__" ⟨.type "KeyError" :: rest, []⟩) R s :=
  exc_new (cls := "KeyError") (newId := "LookupError.__new__") (owner := "LookupError") hrest (by decide +kernel) (by decide +kernel)
    (entryFor_alias (id' := "BaseException.__new__") (by rw [fastTable_eq_tree]; kernel_rfl) (by first | rfl | decide +kernel) (by decide +kernel) (by rw [fastTable_eq_tree]; kernel_rfl))
    (by rw [isSubtype_type]; kernel_rfl) (by rw [isSubtype_type]; kernel_rfl) (by rw [isSubtype_type]; kernel_rfl) (by kernel_rfl) h
theorem ke_init : Slot "KeyError" "__init__" "KeyError.__init__" := .of (owner := "KeyError") (n := "__init__") (by rw [typeLookup_type, builtinLookup_eq_fast]; kernel_rfl) (by decide +kernel) (by decide +kernel) (by decide +kernel)
    (by first | exact .inl (by decide +kernel) | exact .inr (by decide +kernel)) (by rw [isSubtype_type]; kernel_rfl)
theorem ke_check {M : Model} {self : Value} {rest : List Value} {E : Value → Shared → Prop} {Q : Unit → Shared → Prop} {hp : Heap} {g : Array GenState} {d : Drawn} {tk : Nat} {os : OsState} (hT : Shared.TypeIs ⟨hp, g, d, tk, os⟩ self "KeyError") (h : Q () ⟨hp, g, d, tk, os⟩) :
    wpAny M A (checkBuiltinCall "KeyError.__init__" ⟨self :: rest, []⟩) Q E ⟨hp, g, d, tk, os⟩ := by
  have hsub : isSubtype (.type "KeyError") (.type "KeyError") = pure true := by rw [isSubtype_type]; kernel_rfl
  have hshort : ("KeyError" != "*") = true := by decide +kernel
  have k1 : builtinKind "KeyError.__init__" = some .slot := by kernel_rfl
  have k2 : splitId "KeyError.__init__" = some ("KeyError", "__init__") := by kernel_rfl
  have k3 : Manifest.signature? "KeyError.__init__" = some ⟨.positional, "*", "KeyError", .self, [⟨"args", .varPos, false⟩]⟩ := by kernel_rfl
  simp only [checkBuiltinCall, k1, k2, k3]
  wp_walk
  refine wpAny_onRaise ?_
  exact wpAny_of_eq (a := ()) (check_star_args _ _ _ _ _ _) h
theorem exc_type {cls newId initId : String} {m : List Value} {rest : List Value} {E : Value → Shared → Prop} {Q : Fin → Shared → Prop} {hp : Heap} {g : Array GenState} {d : Drawn} {tk : Nat} {os : OsState} (hrest : rest.length ≤ sizeLine)
    (hnt : (Value.type cls == Value.type "type") = false)
    (hcan : ((Manifest.find? cls).bind fun x => List.findSome? (fun t => (Manifest.find? t).bind fun b =>
      if b.noNew = true then some true else if (b.attrs.any fun x => x.fst == "__new__") = true then some false else none) x.mro).getD false = false)
    (hchk : checkTypeCall cls ⟨rest, []⟩ = pure ()) (hmro : mroOf (.type cls) = pure m) (hne : m.isEmpty = false) (hmade : Bind.madeBy (.type cls) = pure (some newId))
    (hq : newId.startsWith "lifetime." = false) (hok : checkBuiltinCall newId ⟨.type cls :: rest, []⟩ = pure ()) (hsub : isSubtype (.type cls) (.type cls) = pure true)
    (hin : Slot cls "__init__" initId) (hie : entryFor table initId = some Builtin.«BaseException.__init__»)
    (hnew : ∀ {A : Around} {R : Result → Shared → Prop} {s : Shared}, R (.ok (.ret (.ref (s.heap.objs.size + 1)))) { s with heap := (s.heap.push { cls := .type "tuple", data := .seq rest.toArray }).push { cls := .type cls, data := .fields #[.ref s.heap.objs.size, .none, .none, .none, .bool false, .none] } } →
      codeAny (model prog w) A (.builtin newId ⟨.type cls :: rest, []⟩) R s)
    (hck : ∀ {M : Model} {A : Around} {self : Value} {rest : List Value} {E : Value → Shared → Prop} {Q : Unit → Shared → Prop} {hp : Heap} {g : Array GenState} {d : Drawn} {tk : Nat} {os : OsState}, Shared.TypeIs ⟨hp, g, d, tk, os⟩ self cls → Q () ⟨hp, g, d, tk, os⟩ → wpAny M A (checkBuiltinCall initId ⟨self :: rest, []⟩) Q E ⟨hp, g, d, tk, os⟩)
    (h : ∀ h' e, Heap.MadeExc hp h' e cls rest → Q (.done (.ret (.ref e))) ⟨h', g, d, tk, os⟩) : wpAny (model prog w) A (Builtin.«type.__call__» ⟨.type cls :: rest, []⟩) Q E ⟨hp, g, d, tk, os⟩ := by
  wp_walk
  refine codeAny_call_builtin_code (Code.quiet_builtin _ hq) (wpAny_of_eq hok ?_)
  refine hnew ?_
  show wpAny _ _ _ _ _ _
  have hget : ((hp.push { cls := .type "tuple", data := .seq rest.toArray }).push { cls := .type cls, data := .fields #[.ref hp.objs.size, .none, .none, .none, .bool false, .none] }).get? (hp.objs.size + 1) = some
      { cls := .type cls, data := .fields #[.ref hp.objs.size, .none, .none, .none, .bool false, .none] } := by heap_get
  refine wpAny_bind (wpAny_isInstance ⟨_, hget, rfl⟩ hsub ?_)
  wp_step
  refine wpAny_bind (wpAny_holding (wpAny_callSpecial?_slot ⟨_, hget, rfl⟩ hin (wpAny_call (codeAny_call_builtin hin.plain hie (hck ⟨_, hget, rfl⟩ ?_)))))
  wp_walk
  refine h _ _ ⟨fun b o hb => ?_, Heap.get?_none_of_le (Nat.le_succ _), hp.objs.size + 2, ?_, Heap.get?_none_of_le (by omega), ?_⟩
  · rw [Heap.get?_update_other _ _ (Nat.ne_of_gt (Nat.lt_succ_of_lt (Heap.lt_size hb)))]
    exact Heap.get?_push_of_some _ (Heap.get?_push_of_some _ (Heap.get?_push_of_some _ hb))
  · rw [Heap.get?_update_self _ (Heap.get?_push_of_some _ hget) rfl]
    simp only [Heap.size_push]
    rfl
  · rw [Heap.get?_update_other _ _ (show hp.objs.size + 1 ≠ hp.objs.size + 2 by omega)]
    exact Heap.get?_push_at (by simp only [Heap.size_push]) rfl
theorem ke_type {rest : List Value} {E : Value → Shared → Prop} {Q : Fin → Shared → Prop} {hp : Heap} {g : Array GenState} {d : Drawn} {tk : Nat} {os : OsState} (hrest : rest.length ≤ sizeLine)
    (h : ∀ h' e, Heap.MadeExc hp h' e "KeyError" rest → Q (.done (.ret (.ref e))) ⟨h', g, d, tk, os⟩) : wpAny (model prog w) A (Builtin.«type.__call__» ⟨.type "KeyError" :: rest, []⟩) Q E ⟨hp, g, d, tk, os⟩ :=
  exc_type (cls := "KeyError") (newId := "LookupError.__new__") (initId := "KeyError.__init__") hrest (by decide +kernel) (by kernel_rfl) (by kernel_rfl) (m := [.type "KeyError", .type "LookupError", .type "Exception", .type "BaseException", .type "object"]) (by rw [mroOf_type]; kernel_rfl) rfl (by kernel_rfl) (by decide +kernel) (by kernel_rfl) (by rw [isSubtype_type]; kernel_rfl) ke_init
    (entryFor_alias (id' := "BaseException.__init__") (by rw [fastTable_eq_tree]; kernel_rfl) (by first | rfl | decide +kernel) (by decide +kernel) (by rw [fastTable_eq_tree]; kernel_rfl)) (fun hR => ke_new hrest hR) (fun hT hQ => ke_check hT hQ) h
theorem ke_call {rest : List Value} {E : Value → Shared → Prop} {Q : Value → Shared → Prop} {s : Shared} (hrest : rest.length ≤ sizeLine) (h : ∀ h' e, Heap.MadeExc s.heap h' e "KeyError" rest → Q (.ref e) { s with heap := h' }) : wpAny (model prog w) A (call (.type "KeyError") rest) Q E s := by
  refine wpAny_call (codeAny_of_tree ?_)
  show wpAny _ _ (again (.builtin "type.__call__" ⟨.type "KeyError" :: rest, []⟩)) _ _ _
  exact wpAny_pure ⟨Code.quiet_builtin _ (by decide +kernel), codeAny_builtin entry_typeCall (ke_type hrest (fun h' e hm => h h' e hm))⟩
end

/-! dicts refuse to be ordered -/
theorem dict_declines {prog : Program} {w : World} {A : Around} {E : Value → Shared → Prop} {s : Shared} {a b : Value} {nm : String} {Q : Value → Shared → Prop} (hT : s.TypeIs a "dict") (q : Q .notImplemented s) :
    wpAny (model prog w) A (do let _ ← Builtin.Dict.dictSlotArgs nm ⟨[a, b], []⟩; ret .notImplemented) (fun fin s' => ∃ v, fin = Fin.done (.ret v) ∧ Q v s') E s := by
  refine wpAny_bind ?_
  unfold Builtin.Dict.dictSlotArgs
  refine wpAny_bind (wpAny_notOrdered_dict hT ?_)
  exact wpAny_pure (wpAny_pure ⟨_, rfl, q⟩)
theorem declines_lt {prog : Program} {w : World} {A : Around} {E : Value → Shared → Prop} {s : Shared} {a b : Value} {Q : Value → Shared → Prop} (hT : s.TypeIs a "dict") (q : Q .notImplemented s) : wpAny (model prog w) A (call (.builtin "dict.__lt__") [a, b]) Q E s :=
  wpAny_call_entry F.slot_dict_lt hT F.entry_dict_lt (dict_declines (nm := "__lt__") hT q) (F.args_dict_lt_2 _ _)
theorem declines_gt {prog : Program} {w : World} {A : Around} {E : Value → Shared → Prop} {s : Shared} {a b : Value} {Q : Value → Shared → Prop} (hT : s.TypeIs a "dict") (q : Q .notImplemented s) : wpAny (model prog w) A (call (.builtin "dict.__gt__") [a, b]) Q E s :=
  wpAny_call_entry F.slot_dict_gt hT F.entry_dict_gt (dict_declines (nm := "__gt__") hT q) (F.args_dict_gt_2 _ _)
theorem declines_ge {prog : Program} {w : World} {A : Around} {E : Value → Shared → Prop} {s : Shared} {a b : Value} {Q : Value → Shared → Prop} (hT : s.TypeIs a "dict") (q : Q .notImplemented s) : wpAny (model prog w) A (call (.builtin "dict.__ge__") [a, b]) Q E s :=
  wpAny_call_entry F.slot_dict_ge hT F.entry_dict_ge (dict_declines (nm := "__ge__") hT q) (F.args_dict_ge_2 _ _)
theorem declines_le {prog : Program} {w : World} {A : Around} {E : Value → Shared → Prop} {s : Shared} {a b : Value} {Q : Value → Shared → Prop} (hT : s.TypeIs a "dict") (q : Q .notImplemented s) : wpAny (model prog w) A (call (.builtin "dict.__le__") [a, b]) Q E s :=
  wpAny_call_entry F.slot_dict_le hT F.entry_dict_le (dict_declines (nm := "__le__") hT q) (F.args_dict_le_2 _ _)
/-- a built-in error raised while another is handled -/
def RaisesTE (prog : Program) (w : World) (A : Around) (E : Value → Shared → Prop) (s : Shared) : Prop := ∀ (msg : String) (Q : Value → Shared → Prop), (Str.ofString msg).length ≤ sizeLine → wpAny (model prog w) A (raiseErrorMade "TypeError" msg : Sem Value) Q E s
theorem raisesTE0 {prog : Program} {w : World} {A : Around} {E : Value → Shared → Prop} {s : Shared} (hh : A.handled = none) (h : ∀ h' tk e, Heap.NewExc s.heap h' e "TypeError" → E (.ref e) { s with heap := h', toks := tk }) : RaisesTE prog w A E s := fun msg Q hm =>
  wpAny_raiseErrorMade plainExc_TypeError hh h hm
theorem entry_unchain : entryFor table "proto.unchain" = some Builtin.«proto.unchain» := entryFor_of_tree (by kernel_rfl)
theorem plain_unchain : plainId "proto.unchain" = true := by decide +kernel
theorem raisesTE1 {prog : Program} {w : World} {A : Around} {E : Value → Shared → Prop} {s : Shared} {eh : Addr} {oe : Obj} {vs : Array Value} (hh : A.handled = some (.ref eh)) (he : s.heap.get? eh = some oe) (hd : oe.data = .fields vs) (h2 : vs[2]? = some .none)
    (h : ∀ h' tk e, Heap.NewExcOf s.heap h' e "TypeError" → E (.ref e) { s with heap := h', toks := tk }) : RaisesTE prog w A E s := fun msg Q hm => by
  unfold raiseErrorMade
  refine wpAny_bind (wpAny_mkStr (wpAny_bind ?_) hm)
  unfold newExc newTuple
  refine wpAny_bind (wpAny_newObj_type ?_)
  refine wpAny_bind (m := firstArgMember _ _) (wpAny_of_eq (a := Value.none) (by simp only [firstArgMember, plainExc_TypeError.first]; rfl) ?_)
  rw [plainExc_TypeError.own]
  refine wpAny_newObj_type ?_
  unfold raiseNew
  refine wpAny_bind (wpAny_handled ?_)
  rw [hh]
  dsimp only
  have k1 : ∀ b o, s.heap.get? b = some o → (s.heap.push { cls := Value.type "tuple", dict := none, data := .seq [Value.str (Str.ofString msg) s.toks].toArray }).get? b = some o := fun b o e => Heap.get?_push_of_some _ e
  generalize hH : s.heap.push { cls := Value.type "tuple", dict := none, data := .seq [Value.str (Str.ofString msg) s.toks].toArray } = H1 at k1 ⊢
  have k2 : ∀ b o, H1.get? b = some o → (H1.push { cls := Value.type "TypeError", dict := none, data := .fields (#[Value.ref s.heap.objs.size, .none, .none, .none, .bool false, .none] ++ #[]) }).get? b = some o := fun b o e => Heap.get?_push_of_some _ e
  have hz : s.heap.objs.size ≤ H1.objs.size := by rw [← hH, Heap.size_push]; omega
  have hE := Heap.get?_push_size H1 (o := { cls := Value.type "TypeError", dict := none, data := .fields (#[Value.ref s.heap.objs.size, .none, .none, .none, .bool false, .none] ++ #[]) }) rfl
  generalize hH2 : H1.push { cls := Value.type "TypeError", dict := none, data := .fields (#[Value.ref s.heap.objs.size, .none, .none, .none, .bool false, .none] ++ #[]) } = H2 at k2 hE ⊢
  have lt : eh < s.heap.objs.size := Heap.lt_size he
  have hne : (Value.ref eh != Value.ref H1.objs.size) = true := by
    have : eh ≠ H1.objs.size := Nat.ne_of_lt (Nat.lt_of_lt_of_le lt hz)
    simpa using this
  have he2 := k2 _ _ (k1 _ _ he)
  refine wpAny_ite_split (fun _ => ?_) (fun hab => absurd hne hab)
  refine wpAny_bind (wpAny_holding (wpAny_runValue (codeAny_builtin entry_unchain ?_)))
  rw [Around.under_plainId plain_unchain _]
  unfold Builtin.«proto.unchain»
  dsimp only
  refine wpAny_bind (wpAny_field he2 hd h2 ?_)
  refine wpAny_ite_split (fun _ => ?_) (fun hab => absurd rfl hab)
  refine wpAny_pure ?_
  refine wpAny_bind (wpAny_setField (s := { s with heap := H2, toks := s.toks + 1 }) (a := H1.objs.size) (i := 2) (x := .ref eh) hE rfl (by show 2 < 6; decide) ?_)
  refine wpAny_throw (h _ _ _ ⟨fun b o e => ?_, Heap.get?_none_of_le hz, _, _, Heap.get?_update_self _ hE rfl, rfl, rfl, rfl⟩)
  rw [Heap.get?_update_other _ _ (Nat.ne_of_gt (Nat.lt_of_lt_of_le (Heap.lt_size e) hz))]
  exact k2 _ _ (k1 _ _ e)
section
variable {g : Gl} {c : Cx} {st : AS} {Q : AV → AS → Prop} {X : String → AS → Prop}
/-- raise X(text) -/
theorem st_raiseK {x : Str} {np cpos pos : Pos} {e : Expr} {Q : AF → AS → Prop} (G : g.Ok) (O : c.Ok) (hh : c.A.handled = none) (hn : nsIn g.K mainGlobals x = some none) (hv : bootBuiltins x = some (.type "KeyError"))
    (h : EV g c e st (fun _ st' => X "KeyError" st') X)
    (hb : c.env.builtins = builtinsNs := by rfl) (hx : x ≠ "__name__" := by decide) (hl : c.env.kindOf x = some .globalImplicit := by rfl) (hd : (x == ("__debug__" : Str)) = false := by decide)
    (hp : (backTo cpos (starEach [e] c.env)).any (·.1) = false := by rfl) (he : starEach [e] c.env = (false, eval e c.env) :: starEach [] c.env := by rfl) :
    ST g c (.Raise (some (.Call (.Name x np) [e] [] cpos)) none pos) st Q X := fun σ s H => by
  obtain ⟨⟨m, news, r⟩, z⟩ := id H
  refine wpAny_Raise_made ke_raise hh (wpAny_Call_ofName (Name_function_global O.kind hl (loadGlobal_builtin (by rw [O.globals]; exact G.T.g.keeps r.fr.keep) (mg_none_of G.X G.T.g hn) (by rw [hb]; exact G.T.b.keeps r.fr.keep) ((G.T.builtins x hx).trans hv) (callWith_excType hp ?_)) hd))
  have key : wpAny (model g.prog g.w) c.A (spliced (backTo cpos (starEach [e] c.env))) (fun vs s' => vs.length ≤ sizeLine ∧ ∀ h' e, Heap.MadeExc s'.heap h' e "KeyError" vs → PostX g c σ st.nx X (.ref e) { s' with heap := h' }) (PostX g c σ st.nx X) s := by
    refine wpAny_items_cons (seq h H fun u s1 a σ1 st1 h1 e1 H1 V1 => ?_) he
    refine wpAny_items_nil ⟨?_, fun h' ea hm => ?_⟩
    · show 1 ≤ sizeLine; decide
    · obtain ⟨t, ht, hn1, hn2⟩ := hm.there
      exact (raisedX O H1 (⟨hm.keeps, hm.new, _, _, ht, rfl, rfl, rfl⟩ : Heap.NewExcOf s1.heap h' ea "KeyError") h1).ext e1
  rw [he] at key ⊢
  refine evalArgs_plain (wpAny_mono key (fun vs s' hk => ?_) fun _ _ e => e)
  refine ke_call hk.1 fun h' ea hm => ?_
  obtain ⟨t, ht, _, _⟩ := id hm.there
  exact ⟨ea, t, rfl, ht, hk.2 h' ea hm⟩
end
end Sx

namespace Sx
section
variable {prog : Program} {w : World} {A : Around} {E : Value → Shared → Prop} {s : Shared} {a b : Value} {Q : Value → Shared → Prop}
theorem refuses_len {x y : String} (hx : x.length ≤ 1000) (hy : y.length ≤ 1000) (o : String) (ho : o.length ≤ 100) : (Str.ofString (toString "'" ++ toString o ++ toString "' not supported between instances of '" ++ toString x ++ toString "' and '" ++ toString y ++ toString "'")).length ≤ sizeLine := by
  rw [PySem.ofString_length, sizeLine_eq]
  simp only [String.length_append, toString]
  have e1 : "'".length ≤ 100 := by decide
  have e3 : "' not supported between instances of '".length ≤ 100 := by decide
  have e4 : "' and '".length ≤ 100 := by decide
  omega
theorem rc_dicts_lt (ha : s.TypeIs a "dict") (hb : s.TypeIs b "dict") (hu : A.units < cLine) (R : RaisesTE prog w A E s) : wpAny (model prog w) A (richCompare .Lt a b) Q E s := by
  have h1 := F.slot_dict_lt
  have h2 := F.slot_dict_gt_refl
  simp only [richCompare, cmpInfo, ha.oneThing_none] at h1 h2 ⊢
  refine wpAny_holding ?_
  refine wpAny_bind (wpAny_cRoomFor_or (.inr hu) ?_)
  refine wpAny_bind (wpAny_typeOf ha (wpAny_bind (wpAny_typeOf hb ?_)))
  refine wpAny_ite_split (fun hab => absurd hab (by decide)) (fun _ => ?_)
  refine wpAny_bind (wpAny_pure ?_)
  refine wpAny_ite_split (fun hab => absurd hab (by decide)) (fun _ => ?_)
  refine wpAny_bind (m := tryCompare a _ b) (wpAny_tryCompare_declines ha h1 (declines_lt ha ⟨rfl, ?_⟩))
  refine wpAny_ite_split (fun _ => ?_) (fun hab => absurd rfl hab)
  refine wpAny_bind (m := tryCompare b _ a) (wpAny_tryCompare_declines hb h2 (declines_gt hb ⟨rfl, ?_⟩))
  refine wpAny_bind (wpAny_rule (wpAny_bind (wpAny_typeNameOf' ha (by decide) (wpAny_bind (wpAny_typeNameOf' hb (by decide) ?_)))))
  exact R _ _ (refuses_len (by decide) (by decide) _ (by decide))
theorem rc_dicts_ge (ha : s.TypeIs a "dict") (hb : s.TypeIs b "dict") (hu : A.units < cLine) (R : RaisesTE prog w A E s) : wpAny (model prog w) A (richCompare .GtE a b) Q E s := by
  have h1 := F.slot_dict_ge
  have h2 := F.slot_dict_le_refl
  simp only [richCompare, cmpInfo, ha.oneThing_none] at h1 h2 ⊢
  refine wpAny_holding ?_
  refine wpAny_bind (wpAny_cRoomFor_or (.inr hu) ?_)
  refine wpAny_bind (wpAny_typeOf ha (wpAny_bind (wpAny_typeOf hb ?_)))
  refine wpAny_ite_split (fun hab => absurd hab (by decide)) (fun _ => ?_)
  refine wpAny_bind (wpAny_pure ?_)
  refine wpAny_ite_split (fun hab => absurd hab (by decide)) (fun _ => ?_)
  refine wpAny_bind (m := tryCompare a _ b) (wpAny_tryCompare_declines ha h1 (declines_ge ha ⟨rfl, ?_⟩))
  refine wpAny_ite_split (fun _ => ?_) (fun hab => absurd rfl hab)
  refine wpAny_bind (m := tryCompare b _ a) (wpAny_tryCompare_declines hb h2 (declines_le hb ⟨rfl, ?_⟩))
  refine wpAny_bind (wpAny_rule (wpAny_bind (wpAny_typeNameOf' ha (by decide) (wpAny_bind (wpAny_typeNameOf' hb (by decide) ?_)))))
  exact R _ _ (refuses_len (by decide) (by decide) _ (by decide))
end

/-! an exception met again: its own context stays unset -/
def Ctx0 (e : Value) (s : Shared) : Prop := ∃ a ob vs, e = .ref a ∧ s.heap.get? a = some ob ∧ ob.data = .fields vs ∧ vs[2]? = some .none
section
variable {M : Model} {A : Around} {E : Value → Shared → Prop} {s : Shared}
theorem flight {base : Heap} {e : Addr} {cls a0 f0 : Value} {fl : Option Addr} {Q : Unit → Shared → Prop} (ht : s.heap.TracedAtW base e cls a0 f0)
    (k : ∀ h' T, base.get? T = none → T ≠ e → (∀ b, b ≠ T → h'.get? b = s.heap.get? b) → (∃ ts oT, s.heap.get? T = some oT ∧ oT.data = .fields ts) → h'.TracedAtW base e cls a0 (fl.elim Value.none fun f => rawInt f) → Q () { s with heap := h' }) :
    wpAny M A (setFlight (.ref e) fl) Q E s := by
  obtain ⟨oe, vs, T, oT, ts, he, hcls, hd, h1, hnT, hTe, hT, hdT, h3⟩ := ht
  have hsz3 : 3 < ts.size := (Array.getElem?_eq_some_iff.mp h3).1
  have other : ∀ b, b ≠ T → (s.heap.update T (Obj.mapFields (·.setIfInBounds 3 (fl.elim Value.none fun f => rawInt f)))).get? b = s.heap.get? b := fun b hb => Heap.get?_update_other _ _ (Ne.symm hb)
  unfold setFlight
  refine wpAny_bind (wpAny_field he hd h1 ?_)
  rw [if_pos (show (Value.ref T != Value.none) = true from by simp)]
  refine wpAny_setField hT hdT hsz3 (k _ T hnT hTe other ⟨ts, oT, hT, hdT⟩ ?_)
  exact ⟨oe, vs, T, _, _, (other e (Ne.symm hTe)).trans he, hcls, hd, h1, hnT, hTe, Heap.get?_update_self _ hT (Obj.isFreed_of_fields (Obj.data_mapFields hdT _)), Obj.data_mapFields hdT _, by simp [hsz3]⟩
/-- a traceback's entry is laid; all else of the exception stays -/
theorem entry2 {base : Heap} {env : Env} {outer : List Env} {L e : Addr} {oe : Obj} {vs : Array Value} {head a0 x : Value} {hadNext : Bool} {Q : Unit → Shared → Prop}
    (hfr : A.frames = some (env :: outer)) (hl : s.heap.FunFrames base (env :: outer)) (hf : env.frame = some L)
    (he : s.heap.get? e = some oe) (hkb : base.StaysIn s.heap) (hen : base.get? e = none) (hd : oe.data = .fields vs) (hsz : 1 < vs.size) (h0 : vs[0]? = some a0) (hx : vs[2]? = some x)
    (h : ∀ h', base.StaysIn h' → h'.FunFrames base (env :: outer) → h'.TracedAtW base e oe.cls a0 (rawInt L) → s.heap.UpToSlots h' → (∃ ob ws, h'.get? e = some ob ∧ ob.data = .fields ws ∧ ws[2]? = some x) → Q () { s with heap := h' }) :
    wpAny M A (do let a ← frameOf env; let pl ← entryPlaceOf L hadNext; let b ← EntryCells.newEntry head a .none (rawInt L) .none pl; setField (.ref e) 1 b) Q E s := by
  have hene : e ∉ (env :: outer).filterMap (·.frame) := fun hm => by
    obtain ⟨_, o, ho, hnf⟩ := hl.mem hm
    rw [he] at ho; injection ho with ho; subst ho; exact hnf vs hd
  refine wpAny_bind (wpAny_frameOf_fun hfr hl hf fun h₁ hs₁ => ?_)
  refine wpAny_bind (wpAny_entryPlaceOf fun pl hpl => ?_)
  unfold EntryCells.newEntry newFields
  refine wpAny_bind (wpAny_newObj_type ?_ (hpl.sizeOk5 _ _ _ _ _))
  have hT : ([head, Value.ref L, .none, rawInt L, .none] ++ (if pl.isEmpty then List.replicate 6 Value.none else pl)).toArray[3]? = some (rawInt L) := by
    first | (simp; done) | (rcases hpl with rfl | ⟨_, _, _, _, _, _, _, rfl⟩ <;> simp)
  generalize ([head, Value.ref L, .none, rawInt L, .none] ++ (if pl.isEmpty then List.replicate 6 Value.none else pl)).toArray = fs at hT ⊢
  have he₁ : h₁.get? e = some oe := (hs₁.2.1 e hene).trans he
  have kb₁ : base.StaysIn h₁ := fun b o hbo => (hs₁.2.1 b fun hm => by rw [(hl.mem hm).1] at hbo; cases hbo).trans (hkb b o hbo)
  have keep0 : ∀ b o, h₁.get? b = some o → (h₁.push { cls := .type "traceback", dict := none, data := .fields fs }).get? b = some o := fun b o e => Heap.get?_push_of_some _ e
  have hTn := Heap.get?_push_size h₁ (o := { cls := .type "traceback", dict := none, data := .fields fs }) rfl
  have hTe : h₁.objs.size ≠ e := Nat.ne_of_gt (Heap.lt_size he₁)
  have frT : base.get? h₁.objs.size = none := kb₁.fresh
  generalize h₁.push { cls := .type "traceback", dict := none, data := .fields fs } = h₂ at keep0 hTn ⊢
  have he₂ := keep0 _ _ he₁
  refine wpAny_setField he₂ hd hsz ?_
  have hd₃ := Obj.data_mapFields hd (·.setIfInBounds 1 (Value.ref h₁.objs.size))
  have he₃ := Heap.get?_update_self (Obj.mapFields (·.setIfInBounds 1 (Value.ref h₁.objs.size))) he₂ (Obj.isFreed_of_fields hd₃)
  have other : ∀ b, b ≠ e → (h₂.update e (Obj.mapFields (·.setIfInBounds 1 (Value.ref h₁.objs.size)))).get? b = h₂.get? b := fun b hb => Heap.get?_update_other _ _ (Ne.symm hb)
  generalize h₂.update e (Obj.mapFields (·.setIfInBounds 1 (Value.ref h₁.objs.size))) = h₃ at he₃ other ⊢
  have noRec : ∀ b o, s.heap.get? b = some o → (∀ vs, o.data ≠ .fields vs) → b ≠ e := fun b o hb hnf q => by
    rw [q, he] at hb; injection hb with hb; subst hb; exact hnf vs hd
  have stay : ∀ b o, b ≠ e → h₁.get? b = some o → h₃.get? b = some o := fun b o n hb => (other b n).trans (keep0 b o hb)
  refine h h₃ (fun b o hbo => stay b o (fun q => by rw [q, hen] at hbo; cases hbo) (kb₁ b o hbo)) (hl.of_keeps fun b o hb hnf => ?_) ?_ (fun b o hb hnf => ?_) ⟨_, _, he₃, hd₃, by rw [Array.getElem?_setIfInBounds_ne (by decide)]; exact hx⟩
  · obtain ⟨sl, hs⟩ := hs₁.2.2 b o hb
    exact ⟨_, stay b _ (noRec b o hb hnf) hs, rfl⟩
  · exact ⟨_, _, h₁.objs.size, _, _, he₃, ⟨Obj.cls_mapFields _ _, by rw [Array.getElem?_setIfInBounds_ne (by decide)]; exact h0⟩, hd₃, by simp [hsz], frT, hTe, (other _ hTe).trans hTn, rfl, hT⟩
  · obtain ⟨sl, hs⟩ := hs₁.2.2 b o hb
    exact ⟨sl, stay b _ (noRec b o hb hnf) hs⟩
end
end Sx

namespace Sx
section
variable {g : Gl} {c : Cx} {σ : Nat → Addr} {st : AS} {s : Shared} {cls : String} {e : Value}
theorem noteX2 {A : Around} {F : Unit → Shared → Prop} {E : Value → Shared → Prop} (O : c.Ok) (hA : A.frames = some (c.fenv :: c.outer)) (x : RepX g c σ st cls e s) (x0 : Ctx0 e s)
    (k : ∀ h', RepE g c σ st (Held c cls) e { s with heap := h' } → Ctx0 e { s with heap := h' } → F () { s with heap := h' }) : wpAny (model g.prog g.w) A (noteFrame e c.fenv) F E s := by
  obtain ⟨⟨m, news, r, a, B, a0, rfl, hB, hk, P⟩, z⟩ := x
  obtain ⟨a', oc, vc, ea, hc0, hcd, hc2⟩ := x0
  cases ea
  cases P with
  | new kb n f t =>
    obtain ⟨ob, vs, he, hc, hd, h1, h0⟩ := t
    have : ob = oc := by rw [he] at hc0; exact Option.some.inj hc0
    subst this
    rw [hd] at hcd
    cases hcd
    unfold noteFrame
    simp only [O.frame]
    refine wpAny_bind (wpAny_field he hd h1 ?_)
    rw [if_neg (by decide)]
    refine entry2 hA f O.frame he kb n hd (Array.getElem?_eq_some_iff.mp h1).1 h0 hc2 fun h' k1 k2 k3 k4 k5 => ?_
    obtain ⟨ob', ws, k5a, k5b, k5c⟩ := k5
    exact k h' (r.moved z hB hk k1 k4 ⟨k1, n, k2, hc ▸ k3⟩) ⟨a, ob', ws, rfl, k5a, k5b, k5c⟩
  | fly x =>
    obtain ⟨f1, f2, f3, oe, vs, T, oT, ts, he, ⟨hcls, h0⟩, hd, h1, hnT, hTe, hT, hdT, h3⟩ := x
    have : oe = oc := by rw [he] at hc0; exact Option.some.inj hc0
    subst this
    rw [hd] at hcd
    cases hcd
    unfold noteFrame
    simp only [O.frame]
    refine wpAny_bind (wpAny_field he hd h1 ?_)
    rw [if_pos (show (Value.ref T != Value.none) = true from by simp)]
    refine wpAny_bind (wpAny_field hT hdT h3 ?_)
    rw [if_neg (show ¬ ((Value.none == rawInt c.L) = true) from by simp [rawInt])]
    refine wpAny_bind (wpAny_setField hT hdT (Array.getElem?_eq_some_iff.mp h3).1 ?_)
    have other : ∀ b, b ≠ T → (s.heap.update T (Obj.mapFields (·.setIfInBounds 3 Value.none))).get? b = s.heap.get? b := fun b hb => Heap.get?_update_other _ _ (Ne.symm hb)
    have noRec : ∀ b o, s.heap.get? b = some o → (∀ vs, o.data ≠ .fields vs) → b ≠ T := fun b o hb hnf q => by
      rw [q, hT] at hb; injection hb with hb; subst hb; exact hnf ts hdT
    refine entry2 hA (f3.of_keeps fun b o hb hnf => ⟨o, (other b (noRec b o hb hnf)).trans hb, rfl⟩) O.frame ((other a (Ne.symm hTe)).trans he)
      (fun b o hbo => (other b fun q => by rw [q, hnT] at hbo; cases hbo).trans (f1 b o hbo)) f2 hd (Array.getElem?_eq_some_iff.mp h1).1 h0 hc2 fun h' k1 k2 k3 k4 k5 => ?_
    obtain ⟨ob', ws, k5a, k5b, k5c⟩ := k5
    exact k h' (r.moved z hB hk k1 (fun b o hb hnf => k4 b o ((other b (noRec b o hb hnf)).trans hb) hnf) ⟨k1, f2, k2, hcls ▸ k3⟩) ⟨a, ob', ws, rfl, k5a, k5b, k5c⟩
  | held x =>
    refine wpAny_noteFrame_againW O.frame x.2.2.2 ?_
    exact k s.heap ⟨⟨m, news, r, a, B, a0, rfl, hB, hk, x⟩, z⟩ ⟨a, oc, vc, rfl, hc0, hcd, hc2⟩
theorem flightX {A : Around} {E : Value → Shared → Prop} {F : Unit → Shared → Prop} {f0 : Value} {fl : Option Addr} {ph : Heap → Addr → Value → Heap → Prop} (O : c.Ok) (x : RepE g c σ st (fun B a a0 h => B.StaysIn h ∧ B.get? a = none ∧ h.FunFrames B (c.fenv :: c.outer) ∧ h.TracedAtW B a (.type cls) a0 f0) e s) (x0 : Ctx0 e s)
    (hph : ∀ B a a0 h, B.StaysIn h → B.get? a = none → h.FunFrames B (c.fenv :: c.outer) → h.TracedAtW B a (.type cls) a0 (fl.elim Value.none fun f => rawInt f) → ph B a a0 h)
    (k : ∀ h', RepE g c σ st ph e { s with heap := h' } → Ctx0 e { s with heap := h' } → F () { s with heap := h' }) : wpAny (model g.prog g.w) A (setFlight e fl) F E s := by
  obtain ⟨⟨m, news, r, a, B, a0, rfl, hB, hk, f1, f2, f3, f4⟩, z⟩ := x
  obtain ⟨a', oc, vc, ea, hc0, hcd, hc2⟩ := x0
  cases ea
  refine flight f4 fun h' T hnT hTe other hT ht => ?_
  obtain ⟨ts, oT, hT, hdT⟩ := hT
  have noRec : ∀ b o, s.heap.get? b = some o → (∀ vs, o.data ≠ .fields vs) → b ≠ T := fun b o hb hnf q => by
    rw [q, hT] at hb; injection hb with hb; subst hb; exact hnf ts hdT
  have k1 : B.StaysIn h' := fun b o hbo => (other b fun q => by rw [q, hnT] at hbo; cases hbo).trans (f1 b o hbo)
  exact k h' (r.moved z hB hk k1 (fun b o hb hnf => ⟨o.slots, (other b (noRec b o hb hnf)).trans hb⟩) (hph _ _ _ _ k1 f2 (f3.of_keeps fun b o hb hnf => ⟨o, (other b (noRec b o hb hnf)).trans hb, rfl⟩) ht)) ⟨a, oc, vc, rfl, (other a (Ne.symm hTe)).trans hc0, hcd, hc2⟩
theorem Ctx0.ref (x : Ctx0 e s) : ∃ a, e = .ref a := let ⟨a, _, _, h, _⟩ := x; ⟨a, h⟩
theorem cameX2 {A : Around} {E : Value → Shared → Prop} (O : c.Ok) (x : RepE g c σ st (Held c cls) e s) (x0 : Ctx0 e s) (k : ∀ h', RepE g c σ st (Held c cls) e { s with heap := h' } → Ctx0 e { s with heap := h' } → E e { s with heap := h' }) : cameBackBy (model g.prog g.w) A c.fenv E e s := by
  obtain ⟨⟨m, news, r, a, B, a0, rfl, hB, hk, P⟩, z⟩ := id x
  unfold cameBackBy
  obtain ⟨p1, p2, p3, oe, vs, T, oT, ts, he, hcls, hd, h1, hnT, hTe, hT, hdT, h3⟩ := P
  refine wpAny_bind (wpAny_field he hd h1 ?_)
  rw [if_neg (show ¬ ((Value.ref T == Value.none) = true) from by simp)]
  rw [O.frame]
  exact flightX (f0 := rawInt c.L) (fl := some c.L) (ph := Held c cls) O x x0 (fun B a a0 h k1 k2 k3 k4 => ⟨k1, k2, k3, k4⟩) k
end

/-- what an exception on its way says, its own context unset -/
def PostX0 (g : Gl) (c : Cx) (σ : Nat → Addr) (nx : Nat) (X : String → AS → Prop) : Value → Shared → Prop := fun e s' => PostX g c σ nx X e s' ∧ Ctx0 e s'
section
variable {g : Gl} {c : Cx} {st : AS} {pos : Pos}
theorem raisedX0 {σ : Nat → Addr} {s : Shared} {h' : Heap} {tk : Nat} {e : Addr} {cls : String} {X : String → AS → Prop} (O : c.Ok) (H : Rep g c σ st s) (x : Heap.NewExc s.heap h' e cls) (q : X cls st) : PostX0 g c σ st.nx X (.ref e) { s with heap := h', toks := tk } := by
  refine ⟨raisedX O H x.of q, ?_⟩
  obtain ⟨ob, t, he, hc, hd⟩ := x.there
  exact ⟨e, ob, _, rfl, he, hd, rfl⟩

/-- try: while t: .. raises in its first turn; the handler's suite with the exception in hand -/
theorem st_try_w {test : Expr} {wb suite : List Stmt} {b₀ : Stmt} {x : Str} {np wpos hpos : Pos} {T : String} {Q : AF → AS → Prop} {X : String → AS → Prop} (G : g.Ok) (O : c.Ok) (h0 : c.cd = none)
    (hn : nsIn g.K mainGlobals x = some none) (hv : bootBuiltins x = some (.type T))
    (h : TR g c test st (fun b st1 => b = true ∧ ∀ σ s, Rep g c σ st1 s → wpAny (model g.prog g.w) c.A (execs wb c.env) (fun _ _ => False) (PostX0 g c σ st1.nx (fun cls st' => Caught cls T ∧ ∀ a ob vs, ob.data = .fields vs → vs[2]? = some .none →
      SS g ((c.mark (.ref a)).pin (a, ob)) (b₀ :: suite) st' Q fun _ _ => False)) s) (fun _ _ => False))
    (hb : c.env.builtins = builtinsNs := by rfl) (hx : x ≠ "__name__" := by decide) (hl : c.env.kindOf x = some .globalImplicit := by rfl) (hd : (x == ("__debug__" : Str)) = false := by decide) :
    ST g c (.Try [.While test wb [] wpos] [.ExceptHandler (some (.Name x np)) none (b₀ :: suite) hpos] [] [] pos) st Q X := fun σ s H => by
  refine wpAny_Try_except ?_
  have key : ∀ (P : Value → Shared → Prop), (∀ e s', PostX0 g c σ st.nx (fun cls st' => Caught cls T ∧ ∀ a ob vs, ob.data = .fields vs → vs[2]? = some .none → SS g ((c.mark (.ref a)).pin (a, ob)) (b₀ :: suite) st' Q fun _ _ => False) e s' → (∃ cls σ' st', (Caught cls T ∧ ∀ a ob vs, ob.data = .fields vs → vs[2]? = some .none → SS g ((c.mark (.ref a)).pin (a, ob)) (b₀ :: suite) st' Q fun _ _ => False) ∧ Ext st.nx σ σ' st'.nx ∧ RepE g c σ' st' (Held c cls) e s') → P e s') →
      wpAny (model g.prog g.w) c.A (execs [.While test wb [] wpos] c.env) (fun f s₁ => match f with | .next => wpAny (model g.prog g.w) c.A (execs [] c.env) (PostOk g c FR σ st.nx Q) (PostX g c σ st.nx X) s₁ | f => PostOk g c FR σ st.nx Q f s₁) P s := fun P hP => by
    refine wpAny_execs_cons (wpAny_mono (wpAny_While (Q := fun _ _ => False) (codeAny_whileLoop (fun n s' => s' = s ∧ n = 0) ?_ 0 ⟨rfl, rfl⟩)) (fun _ _ h => h.elim) fun _ _ h => h)
    rintro n s1 ⟨rfl, rfl⟩
    refine wpAny_mono (h σ s1 H) (fun b s2 hb => ?_) fun _ _ x => postX_no x
    obtain ⟨b', σ2, st2, ⟨rfl, q⟩, e2, H2, rfl⟩ := hb
    refine wpAny_mono (q σ2 s2 H2) (fun _ _ h => h.elim) fun e s3 hx => ?_
    obtain ⟨⟨cl, σ', st', q3, ex, rx⟩, x0⟩ := hx
    rw [(O.own h0).1]
    exact noteX2 O O.frames rx x0 fun h' y y0 => cameX2 O y y0 fun h'' z z0 => hP _ _ ⟨⟨cl, σ', st', q3, e2.trans ex, z.up⟩, z0⟩ ⟨cl, σ', st', q3, e2.trans ex, z⟩
  refine key _ fun e s1 hx _ => ?_
  obtain ⟨⟨cls, σ', st', ⟨K, hs⟩, ex, rx⟩, x0⟩ := hx
  obtain ⟨a, rfl⟩ := x0.ref
  rw [(O.own h0).1]
  refine noteX2 O O.frames rx x0 fun h1 y1 y0 => flightX (f0 := rawInt c.L) (fl := none) (ph := Flies c cls) O y1 y0 (fun B a a0 h k1 k2 k3 k4 => ⟨k1, k2, k3, k4⟩) fun h2 y2 y0' => ?_
  rw [← (O.own h0).1]
  refine wpAny_handleBy_builtin (X := cls) (T := T) (b := true) K.exc K.nt K.sub ?_
  obtain ⟨⟨m, news, r, a', B, a0, ea, hB, hk, P⟩, z⟩ := id y2
  cases ea
  obtain ⟨ob, hob, hobc⟩ := P.there
  refine Name_function_global O.kind hl (loadGlobal_builtin (by rw [O.globals]; exact G.T.g.keeps r.fr.keep) (mg_none_of G.X G.T.g hn) (by rw [hb]; exact G.T.b.keeps r.fr.keep) ((G.T.builtins x hx).trans hv) ⟨rfl, ⟨ob, hob, hobc⟩, ?_⟩) hd
  show wpAny _ _ (setFlight (.ref a) none) _ _ _
  refine flightX (f0 := .none) (fl := none) (ph := Flies c cls) O y2 y0' (fun B a a0 h k1 k2 k3 k4 => ⟨k1, k2, k3, k4⟩) fun h3 y3 y30 => ?_
  obtain ⟨a2, oc, vc, ea, hc0, hcd, hc2⟩ := y30
  cases ea
  obtain ⟨⟨m3, news3, r3, a3, B3, a03, ea, hB3, hk3, P3⟩, z3⟩ := y3
  cases ea
  -- the exception is none of the state's own
  have nB : B3.get? a = none := P3.2.1
  have off : ∀ i, st'.hp i ≠ none → σ' i ≠ a := fun i hi => by
    obtain ⟨o, ho⟩ := Option.ne_none_iff_exists'.mp hi
    obtain ⟨_, ob, hm, _⟩ := r3.hp i o ho
    have := hk3 _ hm (fun p hp => r3.sep i hi p hp)
    intro e
    rw [e, nB] at this; cases this
  have offO : ∀ q ∈ c.outs, a ≠ q.1 := fun q hq e => by
    obtain ⟨o, hm, es, ep, hda, _⟩ := r3.outs q hq
    have := (r3.nw _ hm).1
    rw [← e] at this
    have : o = oc := Option.some.inj (this.symm.trans hc0)
    subst this
    rw [hcd] at hda; cases hda
  have offL : a ≠ c.L := fun e => by
    obtain ⟨oL, es, ep, hoL, hda, _⟩ := r3.fr.ns
    rw [← e] at hoL
    have : oL = oc := Option.some.inj (hoL.symm.trans hc0)
    subst this
    rw [hcd] at hda; cases hda
  have gb : g.base.get? a = none := by
    cases q : g.base.get? a with
    | none => rfl
    | some o => have := hB3 a o q; rw [nB] at this; cases this
  have R3 : Rep g ((c.mark (.ref a)).pin (a, oc)) σ' st' { heap := h3, gens := s1.gens, drawn := s1.drawn, toks := s1.toks, os := s1.os } := by
    refine ⟨⟨m3, (a, oc) :: news3, { fr := r3.fr, nw := fun p hp => ?_, loc := r3.loc, hp := fun i o hi => ?_, inj := r3.inj, lo := r3.lo, outs := fun p hp => ?_, sep := r3.sep, cids := r3.cids, pins := fun p hp => ?_ }⟩, z3⟩
    · rcases List.mem_cons.mp hp with rfl | hp
      · exact ⟨hc0, offL, gb⟩
      · exact r3.nw p hp
    · obtain ⟨lt, ob, hm, ho⟩ := r3.hp i o hi
      exact ⟨lt, ob, .tail _ hm, ho⟩
    · obtain ⟨o, hm, hn⟩ := r3.outs p hp
      exact ⟨o, .tail _ hm, hn⟩
    · rcases List.mem_cons.mp hp with rfl | hp
      · exact ⟨.head _, off, offO⟩
      · obtain ⟨x1, x2, x3⟩ := r3.pins p hp
        exact ⟨.tail _ x1, x2, x3⟩
  refine wpAny_mono (hs a oc vc hcd hc2 σ' _ R3) (fun f s4 hq => ?_) fun _ _ ⟨_, _, _, hf, _⟩ => hf.elim
  obtain ⟨b, σ4, st4, q, ex4, r4, V⟩ := hq
  exact ⟨b, σ4, st4, q, ex.trans ex4, rep_unmark r4.unpin, V⟩
end
end Sx

namespace Sx
noncomputable abbrev HK : Params → Frag := hd2.heap_39

def addOf {α : Type} (fi : List α → α → Nat) (eq : α → α → Bool) (vs : List α) (x : α) : List α := match vs[fi vs x]? with
  | some y => if eq y x then vs else insAt vs (fi vs x) x
  | none => vs ++ [x]
structure Th (g : Gl) (α : Type) where
  em : α → AV
  ok : HP → α → Prop
  uses : α → Nat → Prop
  good : List α → Prop
  fi : List α → α → Nat
  eq : α → α → Bool
  d : Nat
  stays : ∀ {hp hp' : HP} {a : α}, ok hp a → (∀ i, uses a i → hp' i = hp i) → ok hp' a
  okUses : ∀ {hp : HP} {a : α} {i : Nat}, ok hp a → uses a i → hp i ≠ none
  okKind : ∀ {hp : HP} {a : α} {i : Nat} {v : Option AV}, ok hp a → uses a i → hp i ≠ some (.sdict v)
  goodNil : good []
  goodLen : ∀ {vs : List α}, good vs → vs.length ≤ 100
  goodAdd : ∀ {hp : HP} {vs : List α} {x : α}, good vs → (∀ y ∈ vs, ok hp y) → ok hp x → good (addOf fi eq vs x)
  addMem : ∀ {vs : List α} {x : α}, good vs → x ∈ vs → addOf fi eq vs x = vs
  addFilter : ∀ {vs : List α} (p : α → Bool), good vs → (vs.filter p).foldl (addOf fi eq) [] = vs.filter p
  fiOk : ∀ {s dd l : Nat} {hp : HP} {nx : Nat} {vs : List α} {x : α}, hp s = some (.inst 306 dd) → hp dd = some (.sdict (some (.ref l))) → hp l = some (.list (vs.map em)) → good vs → (∀ y ∈ vs, ok hp y) → ok hp x →
    Fn g d 303 [.ref s, em x] hp nx (fun a hp' nx' => a = .int (fi vs x) ∧ hp' = hp ∧ nx' = nx) (fun _ _ _ => False)
  eqOk : ∀ {c : Cx} {st : AS} {a b : α} {Q : AV → AS → Prop} {X : String → AS → Prop}, ok st.hp a → ok st.hp b → c.Ok → Room c.A 8 → Q (.bool (eq a b)) st → Op2 g c (compareOp .Eq) (em a) (em b) st Q X
  neOk : ∀ {c : Cx} {st : AS} {a b : α} {Q : AV → AS → Prop} {X : String → AS → Prop}, ok st.hp a → ok st.hp b → c.Ok → Room c.A 8 → Q (.bool (!eq a b)) st → Op2 g c (compareOp .NotEq) (em a) (em b) st Q X

section
variable {g : Gl} {α : Type} (T : Th g α)
def Th.mem (vs : List α) (x : α) : Bool := match vs[T.fi vs x]? with
  | some y => T.eq y x
  | none => false
def Th.add (vs : List α) (x : α) : List α := addOf T.fi T.eq vs x
theorem Th.le {hp hp' : HP} {a : α} (h : T.ok hp a) (l : HP.Le hp hp') : T.ok hp' a := T.stays h fun i u => by
  obtain ⟨o, e⟩ := Option.ne_none_iff_exists'.mp (T.okUses h u)
  rw [e, l i o e]
theorem Th.put {hp : HP} {a : α} {i : Nat} {o : AO} (h : T.ok hp a) (n : ¬ T.uses a i) : T.ok (HP.put hp i o) a := T.stays h fun j u => HP.put_ne fun z => n (z ▸ u)

/-- a set s with its dict d and its list l holds vs -/
structure IsSet (T : Th g α) (hp : HP) (s d l : Nat) (vs : List α) : Prop where
  hi : hp s = some (.inst 306 d)
  hd : hp d = some (.sdict (some (.ref l)))
  hl : hp l = some (.list (vs.map T.em))
  good : T.good vs
  ok : ∀ y ∈ vs, T.ok hp y
  apart : ∀ y ∈ vs, ¬ T.uses y l
variable {T}
theorem IsSet.len {hp : HP} {s d l : Nat} {vs : List α} (S : IsSet T hp s d l vs) : vs.length ≤ 100 := T.goodLen S.good
theorem IsSet.le {hp hp' : HP} {s d l : Nat} {vs : List α} (S : IsSet T hp s d l vs) (h : HP.Le hp hp') : IsSet T hp' s d l vs :=
  ⟨h _ _ S.hi, h _ _ S.hd, h _ _ S.hl, S.good, fun y hy => T.le (S.ok y hy) h, S.apart⟩
theorem IsSet.sl {hp : HP} {s d l : Nat} {vs : List α} (S : IsSet T hp s d l vs) : s ≠ l := fun e => by have := S.hi; rw [e, S.hl] at this; cases this
theorem IsSet.dl {hp : HP} {s d l : Nat} {vs : List α} (S : IsSet T hp s d l vs) : d ≠ l := fun e => by have := S.hd; rw [e, S.hl] at this; cases this
theorem IsSet.sd {hp : HP} {s d l : Nat} {vs : List α} (S : IsSet T hp s d l vs) : s ≠ d := fun e => by have := S.hd; rw [← e, S.hi] at this; cases this
theorem IsSet.put {hp : HP} {s d l : Nat} {vs us : List α} (S : IsSet T hp s d l vs) (hg : T.good us) (ho : ∀ y ∈ us, T.ok hp y) (ha : ∀ y ∈ us, ¬ T.uses y l) : IsSet T (HP.put hp l (.list (us.map T.em))) s d l us :=
  ⟨(HP.put_ne S.sl).trans S.hi, (HP.put_ne S.dl).trans S.hd, HP.put_eq, hg, fun y hy => T.put (ho y hy) (ha y hy), ha⟩
theorem add_mem {vs : List α} {x y : α} (h : y ∈ T.add vs x) : y ∈ vs ∨ y = x := by
  unfold Th.add addOf at h
  split at h
  · split at h
    · exact .inl h
    · unfold insAt at h
      rcases List.mem_append.mp h with h | h
      · exact .inl (List.mem_of_mem_take h)
      · rcases List.mem_cons.mp h with h | h
        · exact .inr h
        · exact .inl (List.mem_of_mem_drop h)
  · rcases List.mem_append.mp h with h | h
    · exact .inl h
    · exact .inr (by simpa using h)
theorem IsSet.add {hp : HP} {s d l : Nat} {vs : List α} {x : α} (S : IsSet T hp s d l vs) (hx : T.ok hp x) (hu : ¬ T.uses x l) : IsSet T (HP.put hp l (.list ((T.add vs x).map T.em))) s d l (T.add vs x) :=
  S.put (T.goodAdd S.good S.ok hx) (fun y hy => (add_mem hy).elim (S.ok y) fun e => e ▸ hx) fun y hy => (add_mem hy).elim (S.apart y) fun e => e ▸ hu

theorem cls_ok (hg : g.K = HK g.w.params) : ClsOk g 306 := by
  constructor <;> rw [hg] <;> rfl

/-- the method at its address -/
structure Meth (g : Gl) (name : Str) (f : Addr) : Prop where
  find : findIn g.K (.ref 306) name = some (some (.ref f))
  fn : isFn g.K (.ref f) = true
  keep : keepIn g.K (.ref f) = true
theorem ev_m {c : Cx} {st : AS} {Q : AV → AS → Prop} {X : String → AS → Prop} {pos : Pos} {es : List Expr} {o : Expr} {name : Str} {f : Addr} {apos : Pos} {pl : Sem Bool} (G : g.Ok) (K : ClsOk g 306) (M : Meth g name f)
    (hv : EV g c o st (fun a st1 => ∃ i d v, a = .ref i ∧ st1.hp i = some (.inst 306 d) ∧ st1.hp d = some (.sdict v) ∧ Args g c pos es st1 (fun as st2 => CallV g c (.ref f) (.ref i :: as) st2 Q X) X) X)
    (hn : ((Str.ofString "_items") == name) = false := by decide)
    (hp : (backTo pos (starEach es c.env)).any (·.1) = false := by rfl)
    (he : es = [] ∨ ∃ e r, es = e :: r ∧ starEach (e :: r) c.env = (false, eval e c.env) :: starEach r c.env := by first | exact .inl rfl | exact .inr ⟨_, _, rfl, rfl⟩)
    (hc : eval (.Call (.Attribute o name apos) es [] pos) c.env = (do
      let ov ← eval o c.env
      standAt apos.atName
      let (f, first) ← holding [ov] (getMethod ov name pl)
      callWith pos f first (backTo pos (starEach es c.env)) []) := by rfl) : EV g c (.Call (.Attribute o name apos) es [] pos) st Q X :=
  ev_imeth G K M.find M.fn M.keep hn hv hp he hc
theorem ev_len {c : Cx} {st : AS} {Q : AV → AS → Prop} {X : String → AS → Prop} {pos np : Pos} {es : List Expr} (G : g.Ok) (O : c.Ok) (hn : nsIn g.K mainGlobals "len" = some none) (h : Args g c pos es st (fun as st2 => CallV g c (.builtin "len") as st2 Q X) X)
    (hb : c.env.builtins = builtinsNs := by rfl) (hl : c.env.kindOf "len" = some .globalImplicit := by rfl)
    (hp : (backTo pos (starEach es c.env)).any (·.1) = false := by rfl)
    (he : es = [] ∨ ∃ e r, es = e :: r ∧ starEach (e :: r) c.env = (false, eval e c.env) :: starEach r c.env := by first | exact .inl rfl | exact .inr ⟨_, _, rfl, rfl⟩)
    (hc : eval (.Call (.Name "len" np) es [] pos) c.env = (do callWith pos (← eval (.Name "len" np) c.env) [] (backTo pos (starEach es c.env)) (backToKw pos (keywordEach [] c.env))) := by rfl) : EV g c (.Call (.Name "len" np) es [] pos) st Q X :=
  ev_call G (ev_bltn G O hn rfl ⟨rfl, h⟩ hb (by decide) hl) keep_builtin hp he hc
theorem fn_d1 {d : Nat} {hp : HP} {nx : Nat} {Q : AV → HP → Nat → Prop} {X : String → HP → Nat → Prop} {f : Addr} {name qual : Str} {params : Arguments} {body : List Stmt} {scope : Scope} {dV kV doc pm cdv ct oc : Value} {an od : Option Addr} {osl : Array (Option Value)} {a1 : AV} (G : g.Ok) (hg : g.K = HK g.w.params) (p1 : Str)
    (hK : (HK g.w.params).lookup f = some ⟨oc, od, .func (fnOf name qual params body scope dV kV doc pm an cdv ct), osl⟩)
    (hbody : ∀ A L outer outs pins, (mkC qual scope f cdv [] (fun _ => none) A L outer outs pins).Ok → Room A d → (∀ j, nx ≤ j → hp j = none) →
      SS g (mkC qual scope f cdv [] (fun _ => none) A L outer outs pins) body ⟨fun x => ([p1].zip [a1]).reverse.lookup x, hp, nx⟩ (fun fl st' => Q (retOf fl) st'.hp st'.nx) (fun cls st' => X cls st'.hp st'.nx))
    (hcd : codeIn (HK g.w.params) cdv qual = true := by rfl)
    (hbind : ∀ u1, bindArgs (fnOf name qual params body scope dV kV doc pm an cdv ct) ⟨[u1], []⟩ = pure ([p1].zip [u1]) := by intros; rfl)
    (hloc : [p1].all (fun y => scope.names.lookup y == some .local) = true := by rfl) (hcell : ∀ x ∈ scope.names, x.2 ≠ .cell := by decide) (hco : scope.isCoroutine = false := by rfl) (hgen : scope.isGenerator = false := by rfl) (hk : scope.kind = .function := by rfl) :
    Fn g (d + 1) f [a1] hp nx Q X := fn_of G (by rw [hg]; exact hK) (by rw [hg]; exact hcd) [p1] (fun s us h => by match us, h with | [u1], _ => exact .of_eq (hbind u1)) hloc hcell hco hgen hk hbody
theorem fn_d2 {d : Nat} {hp : HP} {nx : Nat} {Q : AV → HP → Nat → Prop} {X : String → HP → Nat → Prop} {f : Addr} {name qual : Str} {params : Arguments} {body : List Stmt} {scope : Scope} {dV kV doc pm cdv ct oc : Value} {an od : Option Addr} {osl : Array (Option Value)} {a1 a2 : AV} (G : g.Ok) (hg : g.K = HK g.w.params) (p1 p2 : Str)
    (hK : (HK g.w.params).lookup f = some ⟨oc, od, .func (fnOf name qual params body scope dV kV doc pm an cdv ct), osl⟩)
    (hbody : ∀ A L outer outs pins, (mkC qual scope f cdv [] (fun _ => none) A L outer outs pins).Ok → Room A d → (∀ j, nx ≤ j → hp j = none) →
      SS g (mkC qual scope f cdv [] (fun _ => none) A L outer outs pins) body ⟨fun x => ([p1, p2].zip [a1, a2]).reverse.lookup x, hp, nx⟩ (fun fl st' => Q (retOf fl) st'.hp st'.nx) (fun cls st' => X cls st'.hp st'.nx))
    (hcd : codeIn (HK g.w.params) cdv qual = true := by rfl)
    (hbind : ∀ u1 u2, bindArgs (fnOf name qual params body scope dV kV doc pm an cdv ct) ⟨[u1, u2], []⟩ = pure ([p1, p2].zip [u1, u2]) := by intros; rfl)
    (hloc : [p1, p2].all (fun y => scope.names.lookup y == some .local) = true := by rfl) (hcell : ∀ x ∈ scope.names, x.2 ≠ .cell := by decide) (hco : scope.isCoroutine = false := by rfl) (hgen : scope.isGenerator = false := by rfl) (hk : scope.kind = .function := by rfl) :
    Fn g (d + 1) f [a1, a2] hp nx Q X := fn_of G (by rw [hg]; exact hK) (by rw [hg]; exact hcd) [p1, p2] (fun s us h => by match us, h with | [u1, u2], _ => exact .of_eq (hbind u1 u2)) hloc hcell hco hgen hk hbody
theorem fn_d3 {d : Nat} {hp : HP} {nx : Nat} {Q : AV → HP → Nat → Prop} {X : String → HP → Nat → Prop} {f : Addr} {name qual : Str} {params : Arguments} {body : List Stmt} {scope : Scope} {dV kV doc pm cdv ct oc : Value} {an od : Option Addr} {osl : Array (Option Value)} {a1 a2 a3 : AV} (G : g.Ok) (hg : g.K = HK g.w.params) (p1 p2 p3 : Str)
    (hK : (HK g.w.params).lookup f = some ⟨oc, od, .func (fnOf name qual params body scope dV kV doc pm an cdv ct), osl⟩)
    (hbody : ∀ A L outer outs pins, (mkC qual scope f cdv [] (fun _ => none) A L outer outs pins).Ok → Room A d → (∀ j, nx ≤ j → hp j = none) →
      SS g (mkC qual scope f cdv [] (fun _ => none) A L outer outs pins) body ⟨fun x => ([p1, p2, p3].zip [a1, a2, a3]).reverse.lookup x, hp, nx⟩ (fun fl st' => Q (retOf fl) st'.hp st'.nx) (fun cls st' => X cls st'.hp st'.nx))
    (hcd : codeIn (HK g.w.params) cdv qual = true := by rfl)
    (hbind : ∀ u1 u2 u3, bindArgs (fnOf name qual params body scope dV kV doc pm an cdv ct) ⟨[u1, u2, u3], []⟩ = pure ([p1, p2, p3].zip [u1, u2, u3]) := by intros; rfl)
    (hloc : [p1, p2, p3].all (fun y => scope.names.lookup y == some .local) = true := by rfl) (hcell : ∀ x ∈ scope.names, x.2 ≠ .cell := by decide) (hco : scope.isCoroutine = false := by rfl) (hgen : scope.isGenerator = false := by rfl) (hk : scope.kind = .function := by rfl) :
    Fn g (d + 1) f [a1, a2, a3] hp nx Q X := fn_of G (by rw [hg]; exact hK) (by rw [hg]; exact hcd) [p1, p2, p3] (fun s us h => by match us, h with | [u1, u2, u3], _ => exact .of_eq (hbind u1 u2 u3)) hloc hcell hco hgen hk hbody
section
variable (hg : g.K = HK g.w.params)
include hg
theorem n_len : nsIn g.K mainGlobals "len" = some none := by rw [hg]; rfl
theorem n_list : nsIn g.K mainGlobals "list" = some none := by rw [hg]; rfl
theorem n_iter : nsIn g.K mainGlobals "iter" = some none := by rw [hg]; rfl
theorem n_set : nsIn g.K mainGlobals "sortedset" = some (some (.ref 306)) := by rw [hg]; rfl
theorem m_fi : Meth g "_find_insertion" 303 := by constructor <;> rw [hg] <;> rfl
theorem m_add : Meth g "add" 198 := by constructor <;> rw [hg] <;> rfl
theorem m_update : Meth g "update" 205 := by constructor <;> rw [hg] <;> rfl
theorem m_len : Meth g "__len__" 44 := by constructor <;> rw [hg] <;> rfl
theorem m_iter : Meth g "__iter__" 58 := by constructor <;> rw [hg] <;> rfl
theorem m_init : Meth g "__init__" 37 := by constructor <;> rw [hg] <;> rfl
theorem m_contains : Meth g "__contains__" 184 := by constructor <;> rw [hg] <;> rfl
theorem m_copy : Meth g "copy" 219 := by constructor <;> rw [hg] <;> rfl
theorem m_diff : Meth g "_diff" 289 := by constructor <;> rw [hg] <;> rfl
theorem m_inter : Meth g "_intersect" 296 := by constructor <;> rw [hg] <;> rfl
theorem m_inters : Meth g "intersection" 268 := by constructor <;> rw [hg] <;> rfl
theorem m_differ : Meth g "difference" 275 := by constructor <;> rw [hg] <;> rfl
theorem m_symm : Meth g "symmetric_difference" 282 := by constructor <;> rw [hg] <;> rfl
theorem m_iand : Meth g "__iand__" 128 := by constructor <;> rw [hg] <;> rfl
theorem m_ior : Meth g "__ior__" 142 := by constructor <;> rw [hg] <;> rfl
theorem m_isub : Meth g "__isub__" 163 := by constructor <;> rw [hg] <;> rfl
theorem m_ixor : Meth g "__ixor__" 177 := by constructor <;> rw [hg] <;> rfl
theorem m_union : Meth g "union" 261 := by constructor <;> rw [hg] <;> rfl
end

set_option maxHeartbeats 4000000 in
theorem contains_spec (G : g.Ok) (hg : g.K = HK g.w.params) {hp : HP} {nx s d l : Nat} {vs : List α} {x : α} (S : IsSet T hp s d l vs) (hx : T.ok hp x) :
    Fn g (T.d + 10) 184 [.ref s, T.em x] hp nx (fun a hp' nx' => a = .bool (T.mem vs x) ∧ hp' = hp ∧ nx' = nx) (fun _ _ _ => False) := by
  refine fn_d2 G hg "self" "item" rfl ?body
  case body =>
    intro A L outer outs pins O R hb
    have K := cls_ok hg
    refine ss_cons (st_assign (ev_m G K (m_fi hg) (ev_local O rfl ⟨_, _, _, rfl, S.hi, S.hd, ar_cons (ev_local O rfl (ar_nil (call_f O (R.less (by omega) : Room A T.d) ((T.fiOk S.hi S.hd S.hl S.good S.ok hx).mono ?_ fun _ _ _ h => h.elim))))⟩)))
    rintro a hp' nx' ⟨rfl, rfl, rfl⟩
    refine sn_local O rfl ?_
    refine ss_cons (st_ret (ev_boolop (bo_and (ev_cmp (ev_local O rfl (ev_len G O (n_len hg) (ar_cons (ev_items G K (ev_local O rfl ⟨_, _, _, rfl, S.hi, S.hd, ar_nil (len_l S.hl (op_lt (tr1_bool ?_)) ?_)⟩)))))))))
    · by_cases hlt : T.fi vs x < vs.length
      · rw [if_pos (by simp; omega)]
        refine bo_one (ev_cmp (ev_sub (ev_items G K (ev_local O rfl ⟨_, _, _, rfl, S.hi, S.hd, ev_local O rfl (op_item (a := T.em vs[T.fi vs x]) S.hl (by omega) ?_ (ev_local O rfl (T.eqOk (S.ok _ (List.getElem_mem _)) hx O (R.less (by omega)) ?_)) (by have := S.len; omega))⟩))))
        · rw [Int.toNat_natCast, List.getElem?_map, List.getElem?_eq_getElem hlt]; rfl
        · refine ⟨?_, rfl, rfl⟩
          unfold Th.mem
          rw [List.getElem?_eq_getElem hlt]; rfl
      · rw [if_neg (by simp; omega)]
        refine ⟨?_, rfl, rfl⟩
        unfold Th.mem
        rw [List.getElem?_eq_none (by omega)]
        show AV.bool _ = AV.bool _
        congr 1
        simp; omega
    · have := S.len; simp; omega

set_option maxHeartbeats 4000000 in
theorem add_spec (G : g.Ok) (hg : g.K = HK g.w.params) {hp : HP} {nx s d l : Nat} {vs : List α} {x : α} (S : IsSet T hp s d l vs) (hx : T.ok hp x) :
    Fn g (T.d + 10) 198 [.ref s, T.em x] hp nx (fun a hp' nx' => a = .none ∧ hp' = HP.put hp l (.list ((T.add vs x).map T.em)) ∧ nx' = nx) (fun _ _ _ => False) := by
  refine fn_d2 G hg "self" "item" rfl ?body
  case body =>
    intro A L outer outs pins O R hb
    have K := cls_ok hg
    have hlen := S.len
    refine ss_cons (st_assign (ev_m G K (m_fi hg) (ev_local O rfl ⟨_, _, _, rfl, S.hi, S.hd, ar_cons (ev_local O rfl (ar_nil (call_f O (R.less (by omega) : Room A T.d) ((T.fiOk S.hi S.hd S.hl S.good S.ok hx).mono ?_ fun _ _ _ h => h.elim))))⟩)))
    rintro a hp' nx' ⟨rfl, rfl, rfl⟩
    refine sn_local O rfl ?_
    refine ss_cons (st_if (tr_cmp (ev_local O rfl (ev_len G O (n_len hg) (ar_cons (ev_items G K (ev_local O rfl ⟨_, _, _, rfl, S.hi, S.hd, ar_nil (len_l S.hl (op_lt (tr1_bool ?_)) ?_)⟩)))))))
    · by_cases hlt : T.fi vs x < vs.length
      · rw [if_pos (by simp; omega)]
        refine ss_cons (st_if (tr_cmp (ev_sub (ev_items G K (ev_local O rfl ⟨_, _, _, rfl, S.hi, S.hd, ev_local O rfl (op_item (a := T.em vs[T.fi vs x]) S.hl (by omega) ?_ (ev_local O rfl (T.neOk (S.ok _ (List.getElem_mem _)) hx O (R.less (by omega)) (tr1_bool ?_))) (by omega))⟩)))))
        · rw [Int.toNat_natCast, List.getElem?_map, List.getElem?_eq_getElem hlt]; rfl
        · cases hq : T.eq vs[T.fi vs x] x with
          | true =>
            rw [if_neg (by decide)]
            refine ss_nil (ss_nil (ss_nil ⟨rfl, ?_, rfl⟩))
            have e : T.add vs x = vs := by
              unfold Th.add addOf
              rw [List.getElem?_eq_getElem hlt]
              exact if_pos hq
            rw [e, HP.put_same S.hl]; rfl
          | false =>
            rw [if_pos (by decide)]
            have e : T.add vs x = insAt vs (T.fi vs x) x := by
              unfold Th.add addOf
              rw [List.getElem?_eq_getElem hlt]
              exact if_neg (by rw [hq]; decide)
            refine ss_cons (st_expr (ev_lmeth G PySem.F.slot_list_insert PySem.F.type_list_insert (ev_items G K (ev_local O rfl ⟨_, _, _, rfl, S.hi, S.hd, _, _, rfl, S.hl, ar_cons (ev_local O rfl (ar_cons (ev_local O rfl (ar_nil (insert_l S.hl (by simp; omega) ?_ (by simp; omega))))))⟩))))
            refine ss_nil (ss_nil (ss_nil ⟨rfl, ?_, rfl⟩))
            rw [e]
            show HP.put hp' l (.list (insAt (vs.map T.em) _ _)) = _
            unfold insAt
            rw [List.map_append, List.map_cons, List.map_take, List.map_drop]
      · rw [if_neg (by simp; omega)]
        have e : T.add vs x = vs ++ [x] := by
          unfold Th.add addOf
          rw [List.getElem?_eq_none (by omega)]
        refine ss_cons (st_expr (ev_lmeth G PySem.F.slot_list_append PySem.F.type_list_append (ev_items G K (ev_local O rfl ⟨_, _, _, rfl, S.hi, S.hd, _, _, rfl, S.hl, ar_cons (ev_local O rfl (ar_nil (append_l S.hl ?_ (by simp; omega))))⟩))))
        refine ss_nil (ss_nil ⟨rfl, ?_, rfl⟩)
        rw [e, List.map_append]; rfl
    · simp; omega
end
end Sx

namespace Sx
theorem Ok.fresh {α β : Type} {g : Gl} {c : Cx} {R : (Nat → Addr) → Nat → β → α → Prop} {t : Sem α} {st : AS} {Q : β → AS → Prop} {X : String → AS → Prop} (h : (∀ j, st.nx ≤ j → st.hp j = none) → Ok g c R t st Q X) : Ok g c R t st Q X := fun σ s H => by
  refine h (fun j hj => ?_) σ s H
  obtain ⟨⟨m, news, r⟩, z⟩ := H
  cases q : st.hp j with
  | none => rfl
  | some o => exact absurd (r.hp j o q).1 (Nat.not_lt.mpr hj)
theorem callv_fresh {g : Gl} {c : Cx} {f : Value} {as : List AV} {st : AS} {Q : AV → AS → Prop} {X : String → AS → Prop} (h : (∀ j, st.nx ≤ j → st.hp j = none) → CallV g c f as st Q X) : CallV g c f as st Q X := fun σ s us H => by
  refine h (fun j hj => ?_) σ s us H
  obtain ⟨⟨m, news, r⟩, z⟩ := H
  cases q : st.hp j with
  | none => rfl
  | some o => exact absurd (r.hp j o q).1 (Nat.not_lt.mpr hj)

section
variable {g : Gl} {α : Type} {T : Th g α}
set_option maxHeartbeats 4000000 in
theorem len_spec (G : g.Ok) (hg : g.K = HK g.w.params) {hp : HP} {nx s d l : Nat} {vs : List α} (S : IsSet T hp s d l vs) :
    Fn g 2 44 [.ref s] hp nx (fun a hp' nx' => a = .int vs.length ∧ hp' = hp ∧ nx' = nx) (fun _ _ _ => False) := by
  refine fn_d1 G hg "self" rfl ?body
  intro A L outer outs pins O R hb
  have K := cls_ok hg
  have hlen := S.len
  refine ss_cons (st_ret (ev_len G O (n_len hg) (ar_cons (ev_items G K (ev_local O rfl ⟨_, _, _, rfl, S.hi, S.hd, ar_nil (len_l S.hl ?_ (by simp; omega))⟩)))))
  exact ⟨by simp [retOf], rfl, rfl⟩
theorem len_set {c : Cx} {st : AS} {s d l : Nat} {vs : List α} {Q : AV → AS → Prop} {X : String → AS → Prop} (G : g.Ok) (hg : g.K = HK g.w.params) (O : c.Ok) (R : Room c.A 4) (S : IsSet T st.hp s d l vs) (q : Q (.int vs.length) st) : CallV g c (.builtin "len") [.ref s] st Q X := by
  have hlen := S.len
  refine len_inst G S.hi S.hd (m_len hg).find (m_len hg).fn (call_f O.one (R.one.less (by omega)) ((len_spec G hg S).mono ?_ fun _ _ _ h => h.elim))
  rintro a hp' nx' ⟨rfl, rfl, rfl⟩
  exact ⟨_, rfl, by omega, q⟩
theorem n_bool (hg : g.K = HK g.w.params) : findIn g.K (.ref 306) "__bool__" = some none := by rw [hg]; rfl
theorem tr1_set {c : Cx} {st : AS} {s d l : Nat} {vs : List α} {Q : Bool → AS → Prop} {X : String → AS → Prop} (G : g.Ok) (hg : g.K = HK g.w.params) (O : c.Ok) (R : Room c.A 4) (S : IsSet T st.hp s d l vs) (q : Q (!vs.isEmpty) st) : Tr1 g c (.ref s) st Q X := by
  have hlen := S.len
  refine tr1_inst G S.hi S.hd (n_bool hg) (m_len hg).find (m_len hg).fn (call_f O.one (R.one.less (by omega)) ((len_spec G hg S).mono ?_ fun _ _ _ h => h.elim))
  rintro a hp' nx' ⟨rfl, rfl, rfl⟩
  refine ⟨_, rfl, by omega, ?_⟩
  cases vs with
  | nil => exact q
  | cons => exact q

set_option maxHeartbeats 4000000 in
theorem iter_spec (G : g.Ok) (hg : g.K = HK g.w.params) {hp : HP} {nx s d l : Nat} {vs : List α} (S : IsSet T hp s d l vs) :
    Fn g 2 58 [.ref s] hp nx (fun a hp' nx' => a = .ref nx ∧ hp' = (fun j => if j = nx then some (.iter false l 0) else hp j) ∧ nx' = nx + 1) (fun _ _ _ => False) := by
  refine fn_d1 G hg "self" rfl ?body
  intro A L outer outs pins O R hb
  have K := cls_ok hg
  refine ss_cons (st_ret (ev_call G (ev_bltn G O (n_iter hg) rfl ⟨rfl, ar_cons (ev_items G K (ev_local O rfl ⟨_, _, _, rfl, S.hi, S.hd, ar_nil (call_iter (pi_seq (T := false) S.hl ?_))⟩))⟩) keep_builtin))
  exact ⟨rfl, rfl, rfl⟩
theorem pi_set {c : Cx} {st : AS} {s d l : Nat} {vs : List α} {Q : AV → AS → Prop} {X : String → AS → Prop} (G : g.Ok) (hg : g.K = HK g.w.params) (O : c.Ok) (R : Room c.A 4) (S : IsSet T st.hp s d l vs) (q : Q (.ref st.nx) (st.new (.iter false l 0))) : PI g c (.ref s) st Q X := by
  refine pi_inst G S.hi S.hd (m_iter hg).find (m_iter hg).fn (call_f O (R.less (by omega)) ((iter_spec G hg S).mono ?_ fun _ _ _ h => h.elim))
  rintro a hp' nx' ⟨rfl, rfl, rfl⟩
  exact ⟨_, _, _, _, rfl, if_pos rfl, q⟩

/-- o is gone through as the list or tuple l' -/
def Itr (g : Gl) (hp0 : HP) (o : AV) (B : Bool) (l' : Nat) : Prop := ∀ {c : Cx} {st : AS} {Q : AV → AS → Prop} {X : String → AS → Prop}, c.Ok → Room c.A 4 → HP.Le hp0 st.hp → Q (.ref st.nx) (st.new (.iter B l' 0)) → PI g c o st Q X
theorem Itr.le {hp hp' : HP} {o : AV} {B : Bool} {l' : Nat} (h : Itr g hp o B l') (k : HP.Le hp hp') : Itr g hp' o B l' := fun O R L q => h O R (k.trans L) q
theorem itr_list {hp : HP} {l : Nat} {vs : List AV} (h : hp l = some (.list vs)) : Itr g hp (.ref l) false l := fun O R L q => pi_seq (T := false) (L _ _ h) q
theorem itr_tup {hp : HP} {l : Nat} {vs : List AV} (h : hp l = some (.tup vs)) : Itr g hp (.ref l) true l := fun O R L q => pi_seq (T := true) (L _ _ h) q
theorem itr_set {hp : HP} {s d l : Nat} {vs : List α} (G : g.Ok) (hg : g.K = HK g.w.params) (S : IsSet T hp s d l vs) : Itr g hp (.ref s) false l := fun O R L q => pi_set G hg O R (S.le L) q

def Th.adds (T : Th g α) (vs xs : List α) : List α := xs.foldl T.add vs
theorem IsSet.adds {hp : HP} {s d l : Nat} {vs xs : List α} (S : IsSet T hp s d l vs) (hx : ∀ x ∈ xs, T.ok hp x ∧ ¬ T.uses x l) : IsSet T (HP.put hp l (.list ((T.adds vs xs).map T.em))) s d l (T.adds vs xs) := by
  induction xs generalizing hp vs with
  | nil => show IsSet T (HP.put hp l (.list (vs.map T.em))) s d l vs; rw [HP.put_same S.hl]; exact S
  | cons x xs ih =>
    have S1 := S.add (hx x (.head _)).1 (hx x (.head _)).2
    have := ih S1 fun y hy => ⟨T.put (hx y (.tail _ hy)).1 (hx y (.tail _ hy)).2, (hx y (.tail _ hy)).2⟩
    rw [HP.put_put] at this
    exact this
theorem adds_mem {vs xs : List α} {y : α} (h : y ∈ T.adds vs xs) : y ∈ vs ∨ y ∈ xs := by
  induction xs generalizing vs with
  | nil => exact .inl h
  | cons x xs ih =>
    rcases ih (vs := T.add vs x) h with h | h
    · rcases add_mem h with h | h
      · exact .inl h
      · exact .inr (h ▸ .head _)
    · exact .inr (.tail _ h)
theorem adds_take {vs xs : List α} {k : Nat} (h : k < xs.length) : T.adds vs (xs.take (k + 1)) = T.add (T.adds vs (xs.take k)) xs[k] := by
  unfold Th.adds
  rw [List.take_succ_eq_append_getElem h, List.foldl_append]; rfl

set_option maxHeartbeats 4000000 in
theorem update_spec (G : g.Ok) (hg : g.K = HK g.w.params) {hp : HP} {nx s d l : Nat} {vs xs : List α} {o : AV} {B : Bool} {l' : Nat} (S : IsSet T hp s d l vs) (hit : Itr g hp o B l') (hx : ∀ x ∈ xs, T.ok hp x ∧ ¬ T.uses x l)
    (hq : ∀ k, HP.put hp l (.list ((T.adds vs (xs.take k)).map T.em)) l' = some (if B then .tup (xs.map T.em) else .list (xs.map T.em))) :
    Fn g (T.d + 12) 205 [.ref s, o] hp nx (fun a hp' nx' => a = .none ∧ hp' = HP.put hp l (.list ((T.adds vs xs).map T.em)) ∧ nx' = nx + 1) (fun _ _ _ => False) := by
  refine fn_d2 G hg "self" "iterable" rfl ?body
  intro A L outer outs pins O R hb
  have K := cls_ok hg
  refine ss_cons (st_for O rfl R.handled (ev_local O rfl (hit O (R.less (by omega)) .refl ⟨nx, B, l', xs.map T.em, fun k st => st.loc "self" = some (.ref s) ∧ st.nx = nx + 1 ∧ st.hp = HP.put hp l (.list ((T.adds vs (xs.take k)).map T.em)), rfl, if_pos rfl, ?start, ?keeps, ?turn, ?done⟩)))
  case start =>
    refine ⟨rfl, rfl, ?_⟩
    show (fun j => if j = nx then none else if j = nx then _ else hp j) = HP.put hp l (.list (vs.map T.em))
    rw [HP.put_same S.hl]
    funext j
    by_cases e : j = nx
    · rw [if_pos e, e, hb nx (Nat.le_refl _)]
    · rw [if_neg e, if_neg e]
  case keeps =>
    rintro k st ⟨_, _, e⟩
    unfold Seq
    rw [e]; exact hq k
  case turn =>
    rintro k v ⟨loc, hp1, nx1⟩ p hk ⟨e1, e2, e3⟩
    dsimp only at e1 e2 e3
    subst e2 e3
    rw [List.getElem?_map] at hk
    obtain ⟨x, hkx, rfl⟩ := Option.map_eq_some_iff.mp hk
    obtain ⟨lk, rfl⟩ := List.getElem?_eq_some_iff.mp hkx
    have Sk := S.adds (xs := xs.take k) fun x h => hx x (List.mem_of_mem_take h)
    have ok := hx _ (List.getElem_mem lk)
    refine sn_local (Cx.Ok.pin O p) rfl (ss_cons (st_expr (ev_m G K (m_add hg) (ev_local (Cx.Ok.pin O p) (a := .ref s) (by exact e1) ⟨_, _, _, rfl, Sk.hi, Sk.hd, ar_cons (ev_local (Cx.Ok.pin O p) rfl (ar_nil (call_f (Cx.Ok.pin O p) (R.less (by omega) : Room A (T.d + 10)) ((add_spec G hg Sk (T.put ok.1 ok.2)).mono ?_ fun _ _ _ h => h.elim))))⟩))))
    rintro a hp' nx' ⟨rfl, rfl, rfl⟩
    refine ss_nil ⟨e1, rfl, ?_⟩
    show HP.put (HP.put _ _ _) _ _ = _
    rw [HP.put_put, adds_take lk]
  case done =>
    rintro st ⟨e1, e2, e3⟩
    refine ss_nil ⟨rfl, ?_, e2⟩
    rw [e3, List.length_map, List.take_length]
end
end Sx

namespace Sx
section
variable {g : Gl} {α : Type} {T : Th g α}
/-- a new set that holds vs; what stood stands -/
def NewSet (T : Th g α) (hp : HP) (vs : List α) (a : AV) (hp' : HP) : Prop := ∃ s d l, a = .ref s ∧ hp s = none ∧ hp d = none ∧ hp l = none ∧ IsSet T hp' s d l vs ∧ HP.Le hp hp'

theorem nouse {hp : HP} {x : α} {l : Nat} (h : T.ok hp x) (n : hp l = none) : ¬ T.uses x l := fun u => T.okUses h u n

theorem okm_makes (hg : g.K = HK g.w.params) : makesIn g.K 306 = true := by rw [hg]; rfl

abbrev hp3 (hp : HP) (nx : Nat) (o : AO) : HP := fun j => if j = nx + 2 then some o else if j = nx + 1 then some (.inst 306 nx) else if j = nx then some (.sdict (some (.ref (nx + 2)))) else hp j
theorem hp3_le {hp : HP} {nx : Nat} {o : AO} (hb : ∀ j, nx ≤ j → hp j = none) : HP.Le hp (hp3 hp nx o) := fun i x e => by
  have h : ¬ nx ≤ i := fun z => by rw [hb i z] at e; cases e
  show (if i = nx + 2 then _ else if i = nx + 1 then _ else if i = nx then _ else hp i) = _
  rw [if_neg (by omega), if_neg (by omega), if_neg (by omega)]; exact e
theorem hp3_set {hp : HP} {nx : Nat} {vs : List α} (hb : ∀ j, nx ≤ j → hp j = none) (hgd : T.good vs) (ho : ∀ y ∈ vs, T.ok hp y) : IsSet T (hp3 hp nx (.list (vs.map T.em))) (nx + 1) nx (nx + 2) vs :=
  ⟨by show (if nx + 1 = nx + 2 then _ else if nx + 1 = nx + 1 then _ else _) = _; rw [if_neg (by omega), if_pos rfl], by show (if nx = nx + 2 then _ else if nx = nx + 1 then _ else if nx = nx then _ else _) = _; rw [if_neg (by omega), if_neg (by omega), if_pos rfl], if_pos rfl, hgd,
    fun y hy => T.le (ho y hy) (hp3_le hb), fun y hy => nouse (ho y hy) (hb _ (by omega))⟩
theorem hp3_put {hp : HP} {nx : Nat} {o o' : AO} : HP.put (hp3 hp nx o) (nx + 2) o' = hp3 hp nx o' := by
  funext j
  show (if j = nx + 2 then _ else if j = nx + 2 then _ else _) = (if j = nx + 2 then _ else _)
  split <;> rfl

set_option maxHeartbeats 4000000 in
theorem init_spec (G : g.Ok) (hg : g.K = HK g.w.params) {hp : HP} {nx : Nat} {xs : List α} {o : AV} {B : Bool} {l' : Nat} (hb : ∀ j, nx ≤ j → hp j = none) (hit : Itr g hp o B l') (hx : ∀ x ∈ xs, T.ok hp x)
    (hq : hp l' = some (if B then .tup (xs.map T.em) else .list (xs.map T.em))) :
    Fn g (T.d + 14) 37 [.ref (nx + 1), o] (fun j => if j = nx + 1 then some (.inst 306 nx) else if j = nx then some (.sdict none) else hp j) (nx + 2) (fun a hp' nx' => a = .none ∧ hp' = hp3 hp nx (.list ((T.adds [] xs).map T.em)) ∧ nx' = nx + 4) (fun _ _ _ => False) := by
  refine fn_dflt G (by rw [hg]; exact rfl) (by rw [hg]; exact rfl) ["self", "iterable"] [] (fun s us X h => by match us, h with | [u1, u2], _ => exact binds_K (K := HK g.w.params) (by rw [← hg]; exact X) rfl rfl rfl rfl rfl) rfl (by decide) rfl rfl rfl ?body
  intro A L outer outs pins O R hb'
  have K := cls_ok hg
  have S0 : IsSet T (hp3 hp nx (.list (([] : List α).map T.em))) (nx + 1) nx (nx + 2) [] := hp3_set hb T.goodNil (fun _ h => nomatch h)
  refine ss_cons (st_setitems G K (ev_list (ar_nil ⟨by simp, ev_local O rfl ⟨nx + 1, nx, none, rfl, ?_, ?_, ?_⟩⟩)))
  · show (if nx + 1 = nx + 2 then _ else if nx + 1 = nx + 1 then _ else _) = _
    rw [if_neg (by omega), if_pos rfl]
  · show (if nx = nx + 2 then _ else if nx = nx + 1 then _ else if nx = nx then _ else _) = _
    rw [if_neg (by omega), if_neg (by omega), if_pos rfl]
  have e2 : HP.put (fun j => if j = nx + 2 then some (.list []) else if j = nx + 1 then some (.inst 306 nx) else if j = nx then some (.sdict none) else hp j) nx (.sdict (some (.ref (nx + 2)))) = hp3 hp nx (.list []) := by
    funext j
    show (if j = nx then _ else if j = nx + 2 then _ else if j = nx + 1 then _ else if j = nx then _ else _) = (if j = nx + 2 then _ else if j = nx + 1 then _ else if j = nx then _ else _)
    by_cases h : j = nx
    · subst h; rw [if_pos rfl, if_neg (by omega), if_neg (by omega), if_pos rfl]
    · rw [if_neg h]; split
      · rfl
      · split
        · rfl
        · rfl
  show SS g _ _ ⟨_, HP.put (fun j => if j = nx + 2 then some (.list []) else if j = nx + 1 then some (.inst 306 nx) else if j = nx then some (.sdict none) else hp j) nx (.sdict (some (.ref (nx + 2)))), nx + 3⟩ _ _
  rw [e2]
  refine ss_cons (st_expr (ev_m G K (m_update hg) (ev_local O rfl ⟨_, _, _, rfl, S0.hi, S0.hd, ar_cons (ev_local O rfl (ar_nil (call_f O (R.less (by omega) : Room A (T.d + 12)) ((update_spec G hg S0 (hit.le (hp3_le hb)) (xs := xs) (fun x h => ⟨T.le (hx x h) (hp3_le hb), nouse (hx x h) (hb _ (by omega))⟩) (fun k => ?_)).mono ?_ fun _ _ _ h => h.elim))))⟩)))
  · rw [hp3_put]; exact hp3_le hb _ _ hq
  rintro a hp' nx' ⟨rfl, rfl, rfl⟩
  refine ss_nil ⟨rfl, ?_, rfl⟩
  rw [hp3_put]

theorem call_set {c : Cx} {st : AS} {Q : AV → AS → Prop} {X : String → AS → Prop} (G : g.Ok) (hg : g.K = HK g.w.params) (O : c.Ok) (R : Room c.A (T.d + 16)) {xs : List α} {o : AV} {B : Bool} {l' : Nat} (hit : Itr g st.hp o B l') (hx : ∀ x ∈ xs, T.ok st.hp x)
    (hq : st.hp l' = some (if B then .tup (xs.map T.em) else .list (xs.map T.em))) (q : ∀ a hp' nx', NewSet T st.hp (T.adds [] xs) a hp' → Q a ⟨st.loc, hp', nx'⟩) : CallV g c (.ref 306) [o] st Q X := by
  refine callv_fresh fun hb => call_new G O R (okm_makes hg) (m_init hg).find (m_init hg).fn (((init_spec (T := T) G hg hb hit hx hq).mono ?_ fun _ _ _ h => h.elim).less (by omega))
  rintro a hp' nx' ⟨rfl, rfl, rfl⟩
  have S0 : IsSet T (hp3 st.hp st.nx (.list (([] : List α).map T.em))) (st.nx + 1) st.nx (st.nx + 2) [] := hp3_set hb T.goodNil (fun _ h => nomatch h)
  have S := S0.adds (xs := xs) fun x h => ⟨T.le (hx x h) (hp3_le hb), nouse (hx x h) (hb _ (by omega))⟩
  rw [hp3_put] at S
  exact ⟨rfl, q _ _ _ ⟨_, _, _, rfl, hb _ (by omega), hb _ (by omega), hb _ (by omega), S, hp3_le hb⟩⟩

def K29 (g : Gl) : Prop := ∃ n, (HK g.w.params).lookup 29 = some { cls := .type "tuple", data := .seq #[] n }
set_option maxHeartbeats 4000000 in
theorem init0_spec (G : g.Ok) (hg : g.K = HK g.w.params) {hp : HP} {nx : Nat} (hb : ∀ j, nx ≤ j → hp j = none) :
    Fn g (T.d + 14) 37 [.ref (nx + 1)] (fun j => if j = nx + 1 then some (.inst 306 nx) else if j = nx then some (.sdict none) else hp j) (nx + 2) (fun a hp' nx' => a = .none ∧ hp' = hp3 hp nx (.list (([] : List α).map T.em)) ∧ nx' = nx + 3) (fun _ _ _ => False) := by
  refine fn_dflt G (by rw [hg]; exact rfl) (by rw [hg]; exact rfl) ["self", "iterable"] [.ref 29] (fun s us X h => by match us, h with | [u1], _ => exact binds_K (K := HK g.w.params) (by rw [← hg]; exact X) rfl rfl rfl rfl rfl) rfl (by decide) rfl rfl rfl ?body
  intro A L outer outs pins O R hb'
  have K := cls_ok hg
  have S0 : IsSet T (hp3 hp nx (.list (([] : List α).map T.em))) (nx + 1) nx (nx + 2) [] := hp3_set hb T.goodNil (fun _ h => nomatch h)
  refine ss_cons (st_setitems G K (ev_list (ar_nil ⟨by simp, ev_local O rfl ⟨nx + 1, nx, none, rfl, ?_, ?_, ?_⟩⟩)))
  · show (if nx + 1 = nx + 2 then _ else if nx + 1 = nx + 1 then _ else _) = _
    rw [if_neg (by omega), if_pos rfl]
  · show (if nx = nx + 2 then _ else if nx = nx + 1 then _ else if nx = nx then _ else _) = _
    rw [if_neg (by omega), if_neg (by omega), if_pos rfl]
  have e2 : HP.put (fun j => if j = nx + 2 then some (.list []) else if j = nx + 1 then some (.inst 306 nx) else if j = nx then some (.sdict none) else hp j) nx (.sdict (some (.ref (nx + 2)))) = hp3 hp nx (.list []) := by
    funext j
    show (if j = nx then _ else if j = nx + 2 then _ else if j = nx + 1 then _ else if j = nx then _ else _) = (if j = nx + 2 then _ else if j = nx + 1 then _ else if j = nx then _ else _)
    by_cases h : j = nx
    · subst h; rw [if_pos rfl, if_neg (by omega), if_neg (by omega), if_pos rfl]
    · rw [if_neg h]; split
      · rfl
      · split
        · rfl
        · rfl
  show SS g _ _ ⟨_, HP.put (fun j => if j = nx + 2 then some (.list []) else if j = nx + 1 then some (.inst 306 nx) else if j = nx then some (.sdict none) else hp j) nx (.sdict (some (.ref (nx + 2)))), nx + 3⟩ _ _
  rw [e2]
  have U : ∀ {d : Nat}, 1 ≤ d → Fn g d 205 [.ref (nx + 1), .con (.ref 29)] (hp3 hp nx (.list [])) (nx + 3) (fun a hp' nx' => a = .none ∧ hp' = hp3 hp nx (.list []) ∧ nx' = nx + 3) (fun _ _ _ => False) := fun {d} hd => by
    obtain ⟨d, rfl⟩ : ∃ d', d = d' + 1 := ⟨d - 1, by omega⟩
    refine fn_d2 G hg "self" "iterable" rfl ?_
    intro A L outer outs pins O R hb
    exact ss_cons (st_for0 (T := 29) G O rfl R.handled (by rw [hg]; exact rfl) rfl rfl (ev_local O rfl ⟨rfl, ss_nil ⟨rfl, rfl, rfl⟩⟩))
  refine ss_cons (st_expr (ev_m G K (m_update hg) (ev_local O rfl ⟨_, _, _, rfl, S0.hi, S0.hd, ar_cons (ev_local O rfl (ar_nil (call_f O (R.less (by omega) : Room A (T.d + 12)) ((U (by omega)).mono ?_ fun _ _ _ h => h.elim))))⟩)))
  rintro a hp' nx' ⟨rfl, rfl, rfl⟩
  exact ss_nil ⟨rfl, rfl, rfl⟩

theorem call_set0 {c : Cx} {st : AS} {Q : AV → AS → Prop} {X : String → AS → Prop} (G : g.Ok) (hg : g.K = HK g.w.params) (O : c.Ok) (R : Room c.A (T.d + 16)) (q : ∀ a hp' nx', NewSet T st.hp [] a hp' → Q a ⟨st.loc, hp', nx'⟩) : CallV g c (.ref 306) [] st Q X := by
  refine callv_fresh fun hb => call_new G O R (okm_makes hg) (m_init hg).find (m_init hg).fn (((init0_spec (T := T) G hg hb).mono ?_ fun _ _ _ h => h.elim).less (by omega))
  rintro a hp' nx' ⟨rfl, rfl, rfl⟩
  have S0 : IsSet T (hp3 st.hp st.nx (.list (([] : List α).map T.em))) (st.nx + 1) st.nx (st.nx + 2) [] := hp3_set hb T.goodNil (fun _ h => nomatch h)
  exact ⟨rfl, q _ _ _ ⟨_, _, _, rfl, hb _ (by omega), hb _ (by omega), hb _ (by omega), S0, hp3_le hb⟩⟩
end
end Sx

namespace Sx
section
variable {g : Gl} {α : Type} {T : Th g α}
theorem n_set_keep (hg : g.K = HK g.w.params) : keepIn g.K (.ref 306) = true := by rw [hg]; rfl
theorem ev_set0 {c : Cx} {st : AS} {Q : AV → AS → Prop} {X : String → AS → Prop} {pos np : Pos} (G : g.Ok) (hg : g.K = HK g.w.params) (O : c.Ok) (R : Room c.A (T.d + 16)) (q : ∀ s d l hp' nx', st.hp s = none → st.hp d = none → st.hp l = none → IsSet T hp' s d l [] → HP.Le st.hp hp' → Q (.ref s) ⟨st.loc, hp', nx'⟩)
    (hl : c.env.kindOf "sortedset" = some .globalImplicit := by rfl)
    (hp : (backTo pos (starEach [] c.env)).any (·.1) = false := by rfl)
    (hc : eval (.Call (.Name "sortedset" np) [] [] pos) c.env = (do callWith pos (← eval (.Name "sortedset" np) c.env) [] (backTo pos (starEach [] c.env)) (backToKw pos (keywordEach [] c.env))) := by rfl) : EV g c (.Call (.Name "sortedset" np) [] [] pos) st Q X := by
  refine ev_call G (ev_glob G O (n_set hg) ⟨rfl, ar_nil (call_set0 (T := T) G hg O R ?_)⟩ hl (by decide)) (keep_K (n_set_keep hg)) hp (.inl rfl) hc
  rintro a hp' nx' ⟨s, d, l, rfl, h1, h2, h3, S, L⟩
  exact q s d l hp' nx' h1 h2 h3 S L

structure InO (T : Th g α) (hp0 : HP) (o : AV) (P : α → Bool) : Prop where
  isin : ∀ {c : Cx} {st : AS} {x : α} {Q : AV → AS → Prop} {X : String → AS → Prop}, c.Ok → Room c.A (T.d + 12) → HP.Le hp0 st.hp → T.ok st.hp x → Q (.bool (P x)) st → Op2 g c (compareOp .In) (T.em x) o st Q X
  notin : ∀ {c : Cx} {st : AS} {x : α} {Q : AV → AS → Prop} {X : String → AS → Prop}, c.Ok → Room c.A (T.d + 12) → HP.Le hp0 st.hp → T.ok st.hp x → Q (.bool (!P x)) st → Op2 g c (compareOp .NotIn) (T.em x) o st Q X
theorem InO.le {hp hp' : HP} {o : AV} {P : α → Bool} (h : InO T hp o P) (k : HP.Le hp hp') : InO T hp' o P := ⟨fun O R L => h.isin O R (k.trans L), fun O R L => h.notin O R (k.trans L)⟩
theorem ino_set (G : g.Ok) (hg : g.K = HK g.w.params) {hp : HP} {s d l : Nat} {vs : List α} (S : IsSet T hp s d l vs) : InO T hp (.ref s) (T.mem vs) := ⟨fun O R L h q => by
    refine op_in_inst G (S.le L).hi (S.le L).hd (m_contains hg).find (m_contains hg).fn (call_f O (R.less (by omega)) ((contains_spec G hg (S.le L) h).mono ?_ fun _ _ _ h => h.elim))
    rintro a hp' nx' ⟨rfl, rfl, rfl⟩
    exact ⟨_, rfl, q⟩, fun O R L h q => by
    refine op_notin_inst G (S.le L).hi (S.le L).hd (m_contains hg).find (m_contains hg).fn (call_f O (R.less (by omega)) ((contains_spec G hg (S.le L) h).mono ?_ fun _ _ _ h => h.elim))
    rintro a hp' nx' ⟨rfl, rfl, rfl⟩
    exact ⟨_, rfl, q⟩⟩
/-- what refuses to be asked -/
structure NoIn (g : Gl) (o : AV) : Prop where
  isin : ∀ {c : Cx} {st : AS} {a : AV} {Q : AV → AS → Prop} {X : String → AS → Prop}, c.Ok → c.A.handled = none → X "TypeError" st → Op2 g c (compareOp .In) a o st Q X
  notin : ∀ {c : Cx} {st : AS} {a : AV} {Q : AV → AS → Prop} {X : String → AS → Prop}, c.Ok → c.A.handled = none → X "TypeError" st → Op2 g c (compareOp .NotIn) a o st Q X
theorem noin_int {k : Int} : NoIn g (.int k) := ⟨fun O h q => op_in_int O h q, fun O h q => op_notin_int O h q⟩

theorem adds_filter {vs : List α} (p : α → Bool) (h : T.good vs) : T.adds [] (vs.filter p) = vs.filter p := T.addFilter p h
theorem filter_take {vs : List α} {k : Nat} (p : α → Bool) (h : k < vs.length) : (vs.take (k + 1)).filter p = if p vs[k] then (vs.take k).filter p ++ [vs[k]] else (vs.take k).filter p := by
  rw [List.take_succ_eq_append_getElem h, List.filter_append]
  cases e : p vs[k] <;> simp [e]
theorem adds_snoc {us : List α} {x : α} : T.adds [] (us ++ [x]) = T.add (T.adds [] us) x := by unfold Th.adds; rw [List.foldl_append]; rfl

set_option maxHeartbeats 4000000 in
theorem diff_spec (G : g.Ok) (hg : g.K = HK g.w.params) {hp : HP} {nx s d l : Nat} {vs : List α} {o : AV} {P : α → Bool} (S : IsSet T hp s d l vs) (I : InO T hp o P) :
    Fn g (T.d + 18) 289 [.ref s, o] hp nx (fun a hp' nx' => NewSet T hp (vs.filter (fun x => !P x)) a hp') (fun _ _ _ => False) := by
  refine fn_d2 G hg "self" "other" rfl ?body
  intro A L outer outs pins O R hb
  have K := cls_ok hg
  refine ss_cons (st_assign (ev_set0 (T := T) G hg O (R.less (by omega)) fun s' d' l' hp1 nx1 n1 n2 n3 S1 L1 => ?_))
  refine sn_local O rfl ?_
  have S2 := S.le L1
  have key : ∀ k, IsSet T (HP.put hp1 l' (.list ((T.adds [] ((vs.take k).filter (fun x => !P x))).map T.em))) s' d' l' (T.adds [] ((vs.take k).filter (fun x => !P x))) := fun k =>
    S1.adds fun x h => ⟨T.le (S.ok x (List.mem_of_mem_take (List.mem_filter.mp h).1)) L1, nouse (S.ok x (List.mem_of_mem_take (List.mem_filter.mp h).1)) n3⟩
  have kl : ∀ {o' : AO}, HP.Le hp (HP.put hp1 l' o') := fun {o'} => L1.put n3
  refine ss_cons (Ok.fresh fun hb2 => st_for O rfl R.handled (ev_items G K (ev_local O rfl ⟨s, d, l, rfl, S2.hi, S2.hd, pi_seq (T := false) S2.hl ⟨nx1, false, l, vs.map T.em, fun k st => st.loc "self" = some (.ref s) ∧ st.loc "other" = some o ∧ st.loc "diff" = some (.ref s') ∧ st.hp = HP.put hp1 l' (.list ((T.adds [] ((vs.take k).filter (fun x => !P x))).map T.em)), rfl, if_pos rfl, ?start, ?keeps, ?turn, ?done⟩⟩)))
  case start =>
    refine ⟨rfl, rfl, rfl, ?_⟩
    show (fun j => if j = nx1 then none else if j = nx1 then _ else hp1 j) = HP.put hp1 l' (.list (([] : List α).map T.em))
    rw [HP.put_same S1.hl]
    funext j
    by_cases e : j = nx1
    · rw [if_pos e, e]; exact (hb2 nx1 (Nat.le_refl _)).symm
    · rw [if_neg e, if_neg e]
  case keeps =>
    rintro k st ⟨_, _, _, e⟩
    unfold Seq
    rw [e]; exact kl _ _ S.hl
  case turn =>
    rintro k v ⟨loc, hp2, nx2⟩ p hk ⟨e1, e2, e3, e4⟩
    dsimp only at e1 e2 e3 e4
    subst e4
    rw [List.getElem?_map] at hk
    obtain ⟨x, hkx, rfl⟩ := Option.map_eq_some_iff.mp hk
    obtain ⟨lk, rfl⟩ := List.getElem?_eq_some_iff.mp hkx
    have ok := S.ok _ (List.getElem_mem lk)
    have Op := Cx.Ok.pin O p
    refine sn_local Op rfl (ss_cons (st_if (tr_cmp (ev_local Op rfl (ev_local Op (a := o) (by exact e2) (I.notin Op (R.less (by omega)) kl (T.le ok kl) (tr1_bool ?_)))))))
    have ft := filter_take (fun x => !P x) lk
    cases hP : (!P vs[k]) with
    | true =>
      rw [hP, if_pos rfl] at ft
      rw [if_pos rfl]
      refine ss_cons (st_expr (ev_m G K (m_add hg) (ev_local Op (a := .ref s') (by exact e3) ⟨_, _, _, rfl, (key k).hi, (key k).hd, ar_cons (ev_local Op rfl (ar_nil (call_f Op (R.less (by omega) : Room A (T.d + 10)) ((add_spec G hg (key k) (T.le ok kl)).mono ?_ fun _ _ _ h => h.elim))))⟩)))
      rintro a hp' nx' ⟨rfl, rfl, rfl⟩
      refine ss_nil (ss_nil ⟨e1, e2, e3, ?_⟩)
      show HP.put (HP.put _ _ _) _ _ = _
      rw [HP.put_put, ft, adds_snoc]
    | false =>
      rw [hP, if_neg (by decide)] at ft
      rw [if_neg (by decide)]
      refine ss_nil (ss_nil ⟨e1, e2, e3, ?_⟩)
      rw [ft]; rfl
  case done =>
    rintro ⟨loc, hp2, nx2⟩ ⟨e1, e2, e3, e4⟩
    dsimp only at e1 e2 e3 e4
    subst e4
    refine ss_cons (st_ret (ev_local O (by exact e3) ?_))
    have := key vs.length
    rw [List.length_map]
    rw [List.take_length, adds_filter _ S.good] at this ⊢
    exact ⟨s', d', l', rfl, n1, n2, n3, this, kl⟩

set_option maxHeartbeats 4000000 in
theorem diff_no (G : g.Ok) (hg : g.K = HK g.w.params) {hp : HP} {nx s d l : Nat} {vs : List α} {o : AV} (S : IsSet T hp s d l vs) (I : NoIn g o) :
    Fn g (T.d + 18) 289 [.ref s, o] hp nx (fun a hp' nx' => vs = [] ∧ NewSet T hp [] a hp') (fun cls hp' _ => cls = "TypeError" ∧ vs ≠ [] ∧ HP.Le hp hp') := by
  refine fn_d2 G hg "self" "other" rfl ?body
  intro A L outer outs pins O R hb
  have K := cls_ok hg
  refine ss_cons (st_assign (ev_set0 (T := T) G hg O (R.less (by omega)) fun s' d' l' hp1 nx1 n1 n2 n3 S1 L1 => ?_))
  refine sn_local O rfl ?_
  have S2 := S.le L1
  refine ss_cons (Ok.fresh fun hb2 => st_for O rfl R.handled (ev_items G K (ev_local O rfl ⟨s, d, l, rfl, S2.hi, S2.hd, pi_seq (T := false) S2.hl ⟨nx1, false, l, vs.map T.em, fun k st => k = 0 ∧ st.loc "other" = some o ∧ st.loc "diff" = some (.ref s') ∧ st.hp = hp1, rfl, if_pos rfl, ?start, ?keeps, ?turn, ?done⟩⟩)))
  case start =>
    refine ⟨rfl, rfl, rfl, ?_⟩
    show (fun j => if j = nx1 then none else if j = nx1 then _ else hp1 j) = hp1
    funext j
    by_cases e : j = nx1
    · rw [if_pos e, e]; exact (hb2 nx1 (Nat.le_refl _)).symm
    · rw [if_neg e, if_neg e]
  case keeps =>
    rintro k st ⟨_, _, _, e⟩
    unfold Seq
    rw [e]; exact S2.hl
  case turn =>
    rintro k v ⟨loc, hp2, nx2⟩ p hk ⟨e1, e2, e3, e4⟩
    dsimp only at e1 e2 e3 e4
    subst e4 e1
    have Op := Cx.Ok.pin O p
    refine sn_local Op rfl (ss_cons (st_if (tr_cmp (ev_local Op rfl (ev_local Op (a := o) (by exact e2) (I.notin Op R.handled ⟨rfl, ?_, L1⟩))))))
    rintro rfl
    cases hk
  case done =>
    rintro ⟨loc, hp2, nx2⟩ ⟨e1, e2, e3, e4⟩
    dsimp only at e1 e2 e3 e4
    subst e4
    have e : vs = [] := by
      rw [List.length_map] at e1
      exact List.eq_nil_of_length_eq_zero e1
    refine ss_cons (st_ret (ev_local O (by exact e3) ?_))
    exact ⟨e, s', d', l', rfl, n1, n2, n3, S1, L1⟩

set_option maxHeartbeats 4000000 in
theorem inter_spec (G : g.Ok) (hg : g.K = HK g.w.params) {hp : HP} {nx s d l : Nat} {vs : List α} {o : AV} {P : α → Bool} (S : IsSet T hp s d l vs) (I : InO T hp o P) :
    Fn g (T.d + 18) 296 [.ref s, o] hp nx (fun a hp' nx' => NewSet T hp (vs.filter P) a hp') (fun _ _ _ => False) := by
  refine fn_d2 G hg "self" "other" rfl ?body
  intro A L outer outs pins O R hb
  have K := cls_ok hg
  refine ss_cons (st_assign (ev_set0 (T := T) G hg O (R.less (by omega)) fun s' d' l' hp1 nx1 n1 n2 n3 S1 L1 => ?_))
  refine sn_local O rfl ?_
  have S2 := S.le L1
  have key : ∀ k, IsSet T (HP.put hp1 l' (.list ((T.adds [] ((vs.take k).filter P)).map T.em))) s' d' l' (T.adds [] ((vs.take k).filter P)) := fun k =>
    S1.adds fun x h => ⟨T.le (S.ok x (List.mem_of_mem_take (List.mem_filter.mp h).1)) L1, nouse (S.ok x (List.mem_of_mem_take (List.mem_filter.mp h).1)) n3⟩
  have kl : ∀ {o' : AO}, HP.Le hp (HP.put hp1 l' o') := fun {o'} => L1.put n3
  refine ss_cons (Ok.fresh fun hb2 => st_for O rfl R.handled (ev_items G K (ev_local O rfl ⟨s, d, l, rfl, S2.hi, S2.hd, pi_seq (T := false) S2.hl ⟨nx1, false, l, vs.map T.em, fun k st => st.loc "self" = some (.ref s) ∧ st.loc "other" = some o ∧ st.loc "isect" = some (.ref s') ∧ st.hp = HP.put hp1 l' (.list ((T.adds [] ((vs.take k).filter P)).map T.em)), rfl, if_pos rfl, ?start, ?keeps, ?turn, ?done⟩⟩)))
  case start =>
    refine ⟨rfl, rfl, rfl, ?_⟩
    show (fun j => if j = nx1 then none else if j = nx1 then _ else hp1 j) = HP.put hp1 l' (.list (([] : List α).map T.em))
    rw [HP.put_same S1.hl]
    funext j
    by_cases e : j = nx1
    · rw [if_pos e, e]; exact (hb2 nx1 (Nat.le_refl _)).symm
    · rw [if_neg e, if_neg e]
  case keeps =>
    rintro k st ⟨_, _, _, e⟩
    unfold Seq
    rw [e]; exact kl _ _ S.hl
  case turn =>
    rintro k v ⟨loc, hp2, nx2⟩ p hk ⟨e1, e2, e3, e4⟩
    dsimp only at e1 e2 e3 e4
    subst e4
    rw [List.getElem?_map] at hk
    obtain ⟨x, hkx, rfl⟩ := Option.map_eq_some_iff.mp hk
    obtain ⟨lk, rfl⟩ := List.getElem?_eq_some_iff.mp hkx
    have ok := S.ok _ (List.getElem_mem lk)
    have Op := Cx.Ok.pin O p
    refine sn_local Op rfl (ss_cons (st_if (tr_cmp (ev_local Op rfl (ev_local Op (a := o) (by exact e2) (I.isin Op (R.less (by omega)) kl (T.le ok kl) (tr1_bool ?_)))))))
    have ft := filter_take P lk
    cases hP : (P vs[k]) with
    | true =>
      rw [hP, if_pos rfl] at ft
      rw [if_pos rfl]
      refine ss_cons (st_expr (ev_m G K (m_add hg) (ev_local Op (a := .ref s') (by exact e3) ⟨_, _, _, rfl, (key k).hi, (key k).hd, ar_cons (ev_local Op rfl (ar_nil (call_f Op (R.less (by omega) : Room A (T.d + 10)) ((add_spec G hg (key k) (T.le ok kl)).mono ?_ fun _ _ _ h => h.elim))))⟩)))
      rintro a hp' nx' ⟨rfl, rfl, rfl⟩
      refine ss_nil (ss_nil ⟨e1, e2, e3, ?_⟩)
      show HP.put (HP.put _ _ _) _ _ = _
      rw [HP.put_put, ft, adds_snoc]
    | false =>
      rw [hP, if_neg (by decide)] at ft
      rw [if_neg (by decide)]
      refine ss_nil (ss_nil ⟨e1, e2, e3, ?_⟩)
      rw [ft]; rfl
  case done =>
    rintro ⟨loc, hp2, nx2⟩ ⟨e1, e2, e3, e4⟩
    dsimp only at e1 e2 e3 e4
    subst e4
    refine ss_cons (st_ret (ev_local O (by exact e3) ?_))
    have := key vs.length
    rw [List.length_map]
    rw [List.take_length, adds_filter _ S.good] at this ⊢
    exact ⟨s', d', l', rfl, n1, n2, n3, this, kl⟩

set_option maxHeartbeats 4000000 in
theorem inter_no (G : g.Ok) (hg : g.K = HK g.w.params) {hp : HP} {nx s d l : Nat} {vs : List α} {o : AV} (S : IsSet T hp s d l vs) (I : NoIn g o) :
    Fn g (T.d + 18) 296 [.ref s, o] hp nx (fun a hp' nx' => vs = [] ∧ NewSet T hp [] a hp') (fun cls hp' _ => cls = "TypeError" ∧ vs ≠ [] ∧ HP.Le hp hp') := by
  refine fn_d2 G hg "self" "other" rfl ?body
  intro A L outer outs pins O R hb
  have K := cls_ok hg
  refine ss_cons (st_assign (ev_set0 (T := T) G hg O (R.less (by omega)) fun s' d' l' hp1 nx1 n1 n2 n3 S1 L1 => ?_))
  refine sn_local O rfl ?_
  have S2 := S.le L1
  refine ss_cons (Ok.fresh fun hb2 => st_for O rfl R.handled (ev_items G K (ev_local O rfl ⟨s, d, l, rfl, S2.hi, S2.hd, pi_seq (T := false) S2.hl ⟨nx1, false, l, vs.map T.em, fun k st => k = 0 ∧ st.loc "other" = some o ∧ st.loc "isect" = some (.ref s') ∧ st.hp = hp1, rfl, if_pos rfl, ?start, ?keeps, ?turn, ?done⟩⟩)))
  case start =>
    refine ⟨rfl, rfl, rfl, ?_⟩
    show (fun j => if j = nx1 then none else if j = nx1 then _ else hp1 j) = hp1
    funext j
    by_cases e : j = nx1
    · rw [if_pos e, e]; exact (hb2 nx1 (Nat.le_refl _)).symm
    · rw [if_neg e, if_neg e]
  case keeps =>
    rintro k st ⟨_, _, _, e⟩
    unfold Seq
    rw [e]; exact S2.hl
  case turn =>
    rintro k v ⟨loc, hp2, nx2⟩ p hk ⟨e1, e2, e3, e4⟩
    dsimp only at e1 e2 e3 e4
    subst e4 e1
    have Op := Cx.Ok.pin O p
    refine sn_local Op rfl (ss_cons (st_if (tr_cmp (ev_local Op rfl (ev_local Op (a := o) (by exact e2) (I.isin Op R.handled ⟨rfl, ?_, L1⟩))))))
    rintro rfl
    cases hk
  case done =>
    rintro ⟨loc, hp2, nx2⟩ ⟨e1, e2, e3, e4⟩
    dsimp only at e1 e2 e3 e4
    subst e4
    have e : vs = [] := by
      rw [List.length_map] at e1
      exact List.eq_nil_of_length_eq_zero e1
    refine ss_cons (st_ret (ev_local O (by exact e3) ?_))
    exact ⟨e, s', d', l', rfl, n1, n2, n3, S1, L1⟩

theorem copied {hp hp1 : HP} {s d l nx : Nat} {us vs : List α} (S : IsSet T hp1 s d l us) (hn : hp1 nx = none) (nd : hp d = none) (hgd : T.good vs) (ok : ∀ y ∈ vs, T.ok hp y) (L : HP.Le hp hp1) (nn : hp nx = none) :
    IsSet T (HP.put (fun j => if j = nx then some (.list (vs.map T.em)) else hp1 j) d (.sdict (some (.ref nx)))) s d nx vs := by
  have h1 : s ≠ nx := fun e => by have := S.hi; rw [e, hn] at this; cases this
  have h2 : d ≠ nx := fun e => by have := S.hd; rw [e, hn] at this; cases this
  refine ⟨?_, HP.put_eq, ?_, hgd, fun y hy => ?_, fun y hy => nouse (ok y hy) nn⟩
  · rw [HP.put_ne S.sd]; exact (if_neg h1).trans S.hi
  · rw [HP.put_ne h2.symm]; exact if_pos rfl
  · exact T.put (T.le (ok y hy) (L.trans (HP.le_new hn))) (nouse (ok y hy) nd)

set_option maxHeartbeats 4000000 in
theorem copy_spec (G : g.Ok) (hg : g.K = HK g.w.params) {hp : HP} {nx s d l : Nat} {vs : List α} (S : IsSet T hp s d l vs) :
    Fn g (T.d + 18) 219 [.ref s] hp nx (fun a hp' nx' => NewSet T hp vs a hp') (fun _ _ _ => False) := by
  refine fn_d1 G hg "self" rfl ?body
  intro A L outer outs pins O R hb
  have K := cls_ok hg
  have hlen := S.len
  refine ss_cons (st_assign (ev_set0 (T := T) G hg O (R.less (by omega)) fun s' d' l' hp1 nx1 n1 n2 n3 S1 L1 => ?_))
  refine sn_local O rfl ?_
  have S2 := S.le L1
  refine ss_cons (Ok.fresh fun hb2 => st_setitems G K (ev_call G (ev_bltn G O (n_list hg) rfl ⟨rfl, ar_cons (ev_items G K (ev_local O rfl ⟨_, _, _, rfl, S2.hi, S2.hd, ar_nil (copy_l S2.hl (ev_local O rfl ⟨s', d', some (.ref l'), rfl, ?_, ?_, ?_⟩) (by simp; omega))⟩))⟩) keep_type))
  · exact HP.le_new (hb2 _ (Nat.le_refl _)) _ _ S1.hi
  · exact HP.le_new (hb2 _ (Nat.le_refl _)) _ _ S1.hd
  refine ss_cons (st_ret (ev_local O rfl ?_))
  have nn : hp nx1 = none := by
    cases e : hp nx1 with
    | none => rfl
    | some o => exact absurd ((L1 _ _ e).symm.trans (hb2 nx1 (Nat.le_refl _))) (by simp)
  refine ⟨s', d', nx1, rfl, n1, n2, nn, copied S1 (hb2 nx1 (Nat.le_refl _)) n2 S.good (fun y hy => S.ok y hy) L1 nn, ?_⟩
  exact HP.Le.put (L1.trans (HP.le_new (hb2 _ (Nat.le_refl _)))) n2
end
end Sx

namespace Sx
section
variable {g : Gl} {α : Type} {T : Th g α}
/-- one of the others, and what it says of a thing and holds; none: it refuses -/
structure Oth (α : Type) where
  av : AV
  pl : Option (List α × (α → Bool))
inductive OthOk (T : Th g α) (hp : HP) : Oth α → Prop
  | seq {o : AV} {B : Bool} {l' : Nat} {xs : List α} {P : α → Bool} (it : Itr g hp o B l') (hl : hp l' = some (if B then .tup (xs.map T.em) else .list (xs.map T.em))) (hx : ∀ x ∈ xs, T.ok hp x) (io : InO T hp o P) : OthOk T hp ⟨o, some (xs, P)⟩
  | no {o : AV} (h : NoIn g o) (it : ∀ {c : Cx} {st : AS} {Q : AV → AS → Prop} {X : String → AS → Prop}, c.Ok → c.A.handled = none → X "TypeError" st → PI g c o st Q X) : OthOk T hp ⟨o, none⟩
theorem OthOk.le {hp hp' : HP} {o : Oth α} (h : OthOk T hp o) (k : HP.Le hp hp') : OthOk T hp' o := by
  cases h with
  | seq it hl hx io => exact .seq (it.le k) (k _ _ hl) (fun x h => T.le (hx x h) k) (io.le k)
  | no h it => exact .no h it
theorem oth_int {hp : HP} {k : Int} : OthOk T hp ⟨.int k, none⟩ := .no noin_int fun O h q => pi_int O h q
theorem oth_set {hp : HP} {s d l : Nat} {vs : List α} (G : g.Ok) (hg : g.K = HK g.w.params) (S : IsSet T hp s d l vs) : OthOk T hp ⟨.ref s, some (vs, T.mem vs)⟩ := .seq (itr_set G hg S) S.hl S.ok (ino_set G hg S)

def goD1 (f : (α → Bool) → α → Bool) (vs : List α) (o : Oth α) : Option (List α) := match o.pl with
  | none => if vs.isEmpty then some [] else none
  | some (_, P) => some (vs.filter (f P))
def goD (f : (α → Bool) → α → Bool) : List α → List (Oth α) → Option (List α)
  | vs, [] => some vs
  | vs, o :: r => match goD1 f vs o with
    | none => none
    | some us => if us.isEmpty then some [] else goD f us r
theorem goD_cons {f : (α → Bool) → α → Bool} {vs : List α} {o : Oth α} {r : List (Oth α)} : goD f vs (o :: r) = match goD1 f vs o with
    | none => none
    | some us => if us.isEmpty then some [] else goD f us r := rfl
def goU (T : Th g α) : List α → List (Oth α) → Option (List α)
  | vs, [] => some vs
  | _, ⟨_, none⟩ :: _ => none
  | vs, ⟨_, some (xs, _)⟩ :: r => goU T (T.adds vs xs) r
abbrev isnt (P : α → Bool) (x : α) : Bool := !P x
abbrev isin (P : α → Bool) (x : α) : Bool := P x

theorem interO (G : g.Ok) (hg : g.K = HK g.w.params) {hp : HP} {nx s d l : Nat} {vs : List α} {o : Oth α} (S : IsSet T hp s d l vs) (H : OthOk T hp o) :
    Fn g (T.d + 18) 296 [.ref s, o.av] hp nx (fun a hp' nx' => ∃ us, goD1 isin vs o = some us ∧ NewSet T hp us a hp') (fun cls hp' _ => cls = "TypeError" ∧ goD1 isin vs o = none ∧ HP.Le hp hp') := by
  cases H with
  | seq it hl hx io => exact (inter_spec G hg S io).mono (fun a hp' nx' N => ⟨_, rfl, N⟩) fun _ _ _ h => h.elim
  | no h it =>
    refine (inter_no G hg S h).mono ?_ ?_
    · rintro a hp4 nx4 ⟨rfl, N⟩
      exact ⟨_, rfl, N⟩
    · rintro cls hp4 nx4 ⟨rfl, hne, L3⟩
      refine ⟨rfl, ?_, L3⟩
      show (if vs.isEmpty then some [] else none) = none
      rw [if_neg (by simpa using hne)]
theorem diffO (G : g.Ok) (hg : g.K = HK g.w.params) {hp : HP} {nx s d l : Nat} {vs : List α} {o : Oth α} (S : IsSet T hp s d l vs) (H : OthOk T hp o) :
    Fn g (T.d + 18) 289 [.ref s, o.av] hp nx (fun a hp' nx' => ∃ us, goD1 isnt vs o = some us ∧ NewSet T hp us a hp') (fun cls hp' _ => cls = "TypeError" ∧ goD1 isnt vs o = none ∧ HP.Le hp hp') := by
  cases H with
  | seq it hl hx io => exact (diff_spec G hg S io).mono (fun a hp' nx' N => ⟨_, rfl, N⟩) fun _ _ _ h => h.elim
  | no h it =>
    refine (diff_no G hg S h).mono ?_ ?_
    · rintro a hp4 nx4 ⟨rfl, N⟩
      exact ⟨_, rfl, N⟩
    · rintro cls hp4 nx4 ⟨rfl, hne, L3⟩
      refine ⟨rfl, ?_, L3⟩
      show (if vs.isEmpty then some [] else none) = none
      rw [if_neg (by simpa using hne)]
set_option maxHeartbeats 4000000 in
theorem differ_spec (G : g.Ok) (hg : g.K = HK g.w.params) {hp : HP} {nx s d l : Nat} {vs : List α} {os : List (Oth α)} (S : IsSet T hp s d l vs) (H : ∀ o ∈ os, OthOk T hp o) (hn : os.length ≤ 100) :
    Fn g (T.d + 24) 275 ([.ref s] ++ os.map (·.av)) hp nx (fun a hp' nx' => ∃ us, goD isnt vs os = some us ∧ NewSet T hp us a hp') (fun cls hp' _ => cls = "TypeError" ∧ goD isnt vs os = none ∧ HP.Le hp hp') := by
  refine fn_star G (by rw [hg]; exact rfl) (by rw [hg]; exact rfl) ["self", "others"] (fun us ws h h' => by match us, h with | [u1], _ => exact ⟨fun t => pure [(("self" : Str), u1), (("others" : Str), t)], by cases ws <;> rfl, fun t => rfl⟩) (by simp; omega) rfl (by decide) rfl rfl rfl ?body
  intro A L outer outs pins O R hb
  have K := cls_ok hg
  have Lt : HP.Le hp (fun j => if j = nx then some (.tup (os.map (·.av))) else hp j) := HP.le_new (hb nx (Nat.le_refl _))
  have S' := S.le Lt
  refine ss_cons (st_assign (ev_m G K (m_copy hg) (ev_local O rfl ⟨s, d, _, rfl, S'.hi, S'.hd, ar_nil (call_f O (R.less (by omega) : Room A (T.d + 18)) ((copy_spec G hg S').mono ?_ fun _ _ _ h => h.elim))⟩)))
  rintro a hp1 nx1 ⟨s1, d1, l1, rfl, n1, n2, n3, S1, L1⟩
  refine sn_local O rfl ?_
  refine ss_cons (Ok.fresh fun hb2 => st_for O rfl R.handled (ev_local O (a := .ref nx) rfl (pi_seq (T := true) (vs := os.map (·.av)) (L1 _ _ (if_pos rfl)) ⟨nx1, true, nx, os.map (·.av), fun k st => ∃ cur s' d' l', st.loc "diff" = some (.ref s') ∧ hp s' = none ∧ hp d' = none ∧ hp l' = none ∧ IsSet T st.hp s' d' l' cur ∧ HP.Le (fun j => if j = nx then some (.tup (os.map (·.av))) else hp j) st.hp ∧ goD isnt vs os = goD isnt cur (os.drop k), rfl, if_pos rfl, ?start, ?keeps, ?turn, ?done⟩)))
  case start =>
    have e : (fun j => if j = nx1 then none else if j = nx1 then some (AO.iter true nx 0) else hp1 j) = hp1 := by
      funext j
      by_cases e : j = nx1
      · rw [if_pos e, e]; exact (hb2 nx1 (Nat.le_refl _)).symm
      · rw [if_neg e, if_neg e]
    refine ⟨vs, s1, d1, l1, rfl, HP.le_none Lt n1, HP.le_none Lt n2, HP.le_none Lt n3, ?_, ?_, rfl⟩
    · show IsSet T (fun j => if j = nx1 then none else if j = nx1 then some (AO.iter true nx 0) else hp1 j) s1 d1 l1 vs
      rw [e]; exact S1
    · show HP.Le _ (fun j => if j = nx1 then none else if j = nx1 then some (AO.iter true nx 0) else hp1 j)
      rw [e]; exact L1
  case keeps =>
    rintro k st ⟨cur, s', d', l', _, _, _, _, _, Lk, _⟩
    exact Lk _ _ (if_pos rfl)
  case turn =>
    rintro k v ⟨loc, hp2, nx2⟩ p hk ⟨cur, s', d', l', e1, m1, m2, m3, S2, L2, hgo⟩
    dsimp only at e1 S2 L2
    rw [List.getElem?_map] at hk
    obtain ⟨o, hko, rfl⟩ := Option.map_eq_some_iff.mp hk
    obtain ⟨lk, hoe⟩ := List.getElem?_eq_some_iff.mp hko
    have Hk := (H o (hoe ▸ List.getElem_mem lk)).le (Lt.trans L2)
    have hdrop : os.drop k = o :: os.drop (k + 1) := by rw [List.drop_eq_getElem_cons lk, hoe]
    rw [hdrop] at hgo
    rw [goD_cons] at hgo
    have Op := Cx.Ok.pin O p
    have L02 := Lt.trans L2
    refine sn_local Op rfl ?_
    refine ss_cons (st_assign (ev_m G K (m_diff hg) (ev_local Op (a := .ref s') (by exact e1) ⟨_, _, _, rfl, S2.hi, S2.hd, ar_cons (ev_local Op rfl (ar_nil (call_f Op (R.less (by omega) : Room A (T.d + 18)) ((diffO G hg S2 Hk).mono ?_ ?_))))⟩)))
    · rintro a hp3 nx3 ⟨us, hus, s3, d3, l3, rfl, r1, r2, r3, S3, L3⟩
      rw [hus] at hgo
      dsimp only at hgo
      refine sn_local Op rfl (ss_cons (st_if (tr_not (tr_val (ev_local Op rfl (tr1_set G hg Op (R.less (by omega)) S3 ?_))))))
      cases hu : us.isEmpty with
      | true =>
        rw [hu, if_pos rfl] at hgo
        rw [if_pos (by decide)]
        refine ss_cons (st_break (ss_cons (st_ret (ev_local O (a := .ref s3) rfl ?_))))
        have e : us = [] := by simpa using hu
        subst e
        exact ⟨[], hgo, s3, d3, l3, rfl, HP.le_none L02 r1, HP.le_none L02 r2, HP.le_none L02 r3, S3, L02.trans L3⟩
      | false =>
        rw [hu, if_neg (by decide)] at hgo
        rw [if_neg (by decide)]
        exact ss_nil (ss_nil ⟨us, s3, d3, l3, rfl, HP.le_none L02 r1, HP.le_none L02 r2, HP.le_none L02 r3, S3, L2.trans L3, hgo⟩)
    · rintro cls hp3 nx3 ⟨rfl, hn, L3⟩
      rw [hn] at hgo
      exact ⟨rfl, hgo, L02.trans L3⟩
  case done =>
    rintro ⟨loc, hp2, nx2⟩ ⟨cur, s', d', l', e1, m1, m2, m3, S2, L2, hgo⟩
    dsimp only at e1 S2 L2
    rw [List.drop_eq_nil_of_le (by simp)] at hgo
    exact ss_cons (st_ret (ev_local O (by exact e1) ⟨cur, hgo, s', d', l', rfl, m1, m2, m3, S2, Lt.trans L2⟩))
end
end Sx

namespace Sx
section
variable {g : Gl} {α : Type} {T : Th g α}
theorem goU_cons {vs : List α} {o : Oth α} {r : List (Oth α)} : goU T vs (o :: r) = match o.pl with
    | none => none
    | some (xs, _) => goU T (T.adds vs xs) r := by
  obtain ⟨a, pl⟩ := o
  cases pl with
  | none => rfl
  | some p => rfl

set_option maxHeartbeats 4000000 in
theorem union_spec (G : g.Ok) (hg : g.K = HK g.w.params) {hp : HP} {nx s d l : Nat} {vs : List α} {os : List (Oth α)} (S : IsSet T hp s d l vs) (H : ∀ o ∈ os, OthOk T hp o) (hn : os.length ≤ 100) :
    Fn g (T.d + 24) 261 ([.ref s] ++ os.map (·.av)) hp nx (fun a hp' nx' => ∃ us, goU T vs os = some us ∧ NewSet T hp us a hp') (fun cls hp' _ => cls = "TypeError" ∧ goU T vs os = none ∧ HP.Le hp hp') := by
  refine fn_star G (by rw [hg]; exact rfl) (by rw [hg]; exact rfl) ["self", "others"] (fun us ws h h' => by match us, h with | [u1], _ => exact ⟨fun t => pure [(("self" : Str), u1), (("others" : Str), t)], by cases ws <;> rfl, fun t => rfl⟩) (by simp; omega) rfl (by decide) rfl rfl rfl ?body
  intro A L outer outs pins O R hb
  have K := cls_ok hg
  have hlen := S.len
  have Lt : HP.Le hp (fun j => if j = nx then some (.tup (os.map (·.av))) else hp j) := HP.le_new (hb nx (Nat.le_refl _))
  have S' := S.le Lt
  refine ss_cons (st_assign (ev_set0 (T := T) G hg O (R.less (by omega)) fun s' d' l' hp1 nx1 n1 n2 n3 S1 L1 => ?_))
  refine sn_local O rfl ?_
  have S2 := S'.le L1
  refine ss_cons (Ok.fresh fun hb2 => st_setitems G K (ev_call G (ev_bltn G O (n_list hg) rfl ⟨rfl, ar_cons (ev_items G K (ev_local O rfl ⟨_, _, _, rfl, S2.hi, S2.hd, ar_nil (copy_l S2.hl (ev_local O rfl ⟨s', d', some (.ref l'), rfl, ?_, ?_, ?_⟩) (by simp; omega))⟩))⟩) keep_type))
  · exact HP.le_new (hb2 _ (Nat.le_refl _)) _ _ S1.hi
  · exact HP.le_new (hb2 _ (Nat.le_refl _)) _ _ S1.hd
  have nn : hp1 nx1 = none := hb2 nx1 (Nat.le_refl _)
  have nn' : hp nx1 = none := HP.le_none (Lt.trans L1) nn
  have C := copied S1 nn n2 S.good (fun y hy => T.le (S.ok y hy) Lt) L1 (HP.le_none L1 nn)
  have LC : HP.Le (fun j => if j = nx then some (.tup (os.map (·.av))) else hp j) (HP.put (fun j => if j = nx1 then some (.list (vs.map T.em)) else hp1 j) d' (.sdict (some (.ref nx1)))) := HP.Le.put (L1.trans (HP.le_new nn)) n2
  show SS g _ _ ⟨_, HP.put (fun j => if j = nx1 then some (.list (vs.map T.em)) else hp1 j) d' (.sdict (some (.ref nx1))), nx1 + 1⟩ _ _
  generalize HP.put (fun j => if j = nx1 then some (.list (vs.map T.em)) else hp1 j) d' (.sdict (some (.ref nx1))) = hp2 at C LC
  have m1 := HP.le_none Lt n1
  have m2 := HP.le_none Lt n2
  refine ss_cons (Ok.fresh fun hb3 => st_for O rfl R.handled (ev_local O (a := .ref nx) rfl (pi_seq (T := true) (vs := os.map (·.av)) (LC _ _ (if_pos rfl)) ⟨nx1 + 1, true, nx, os.map (·.av), fun k st => ∃ cur, st.loc "union" = some (.ref s') ∧ IsSet T st.hp s' d' nx1 cur ∧ HP.Le (fun j => if j = nx then some (.tup (os.map (·.av))) else hp j) st.hp ∧ goU T vs os = goU T cur (os.drop k), rfl, if_pos rfl, ?start, ?keeps, ?turn, ?done⟩)))
  case start =>
    refine ⟨vs, rfl, ?_, ?_, rfl⟩
    · show IsSet T (fun j => if j = nx1 + 1 then none else if j = nx1 + 1 then some (AO.iter true nx 0) else hp2 j) s' d' nx1 vs
      rw [del_new (hb3 _ (Nat.le_refl _))]; exact C
    · show HP.Le _ (fun j => if j = nx1 + 1 then none else if j = nx1 + 1 then some (AO.iter true nx 0) else hp2 j)
      rw [del_new (hb3 _ (Nat.le_refl _))]; exact LC
  case keeps =>
    rintro k st ⟨cur, _, _, Lk, _⟩
    exact Lk _ _ (if_pos rfl)
  case turn =>
    rintro k v ⟨loc, hp3, nx3⟩ p hk ⟨cur, e1, S3, L3, hgo⟩
    dsimp only at e1 S3 L3
    rw [List.getElem?_map] at hk
    obtain ⟨o, hko, rfl⟩ := Option.map_eq_some_iff.mp hk
    obtain ⟨lk, hoe⟩ := List.getElem?_eq_some_iff.mp hko
    have Hk := H o (hoe ▸ List.getElem_mem lk)
    have hdrop : os.drop k = o :: os.drop (k + 1) := by rw [List.drop_eq_getElem_cons lk, hoe]
    rw [hdrop, goU_cons] at hgo
    have Op := Cx.Ok.pin O p
    have L03 := Lt.trans L3
    refine sn_local Op rfl ?_
    cases Hk with
    | no h it =>
      exact ss_cons (st_for Op rfl R.handled (ev_local Op rfl (it Op R.handled ⟨rfl, hgo, L03⟩)))
    | @seq o B l2 xs P it hl hx io =>
      dsimp only at hgo
      have hx2 : ∀ x ∈ xs, ¬ T.uses x nx1 := fun x hx' => nouse (hx x hx') nn'
      refine ss_cons (Ok.fresh fun hb4 => st_for Op rfl R.handled (ev_local Op rfl (it Op (R.less (by omega)) L03 ⟨nx3, B, l2, xs.map T.em, fun j st => st.loc "union" = some (.ref s') ∧ IsSet T st.hp s' d' nx1 (T.adds cur (xs.take j)) ∧ HP.Le (fun j => if j = nx then some (.tup (os.map (·.av))) else hp j) st.hp, rfl, if_pos rfl, ?_, ?_, ?_, ?_⟩)))
      · have hb4' : hp3 nx3 = none := hb4 _ (Nat.le_refl _)
        refine ⟨e1, ?_, ?_⟩
        · show IsSet T (fun j => if j = nx3 then none else if j = nx3 then some (AO.iter B l2 0) else hp3 j) s' d' nx1 cur
          rw [del_new hb4']; exact S3
        · show HP.Le _ (fun j => if j = nx3 then none else if j = nx3 then some (AO.iter B l2 0) else hp3 j)
          rw [del_new hb4']; exact L3
      · rintro j st ⟨_, _, L5⟩
        exact L5 _ _ (Lt _ _ hl)
      · rintro j v ⟨loc5, hp5, nx5⟩ p2 hk2 ⟨e5, S5, L5⟩
        dsimp only at e5 S5 L5
        rw [List.getElem?_map] at hk2
        obtain ⟨x, hkx, rfl⟩ := Option.map_eq_some_iff.mp hk2
        obtain ⟨lj, rfl⟩ := List.getElem?_eq_some_iff.mp hkx
        have Op2 := Cx.Ok.pin Op p2
        have okx := T.le (hx _ (List.getElem_mem lj)) (Lt.trans L5)
        refine sn_local Op2 rfl (ss_cons (st_expr (ev_m G K (m_add hg) (ev_local Op2 (a := .ref s') (by exact e5) ⟨_, _, _, rfl, S5.hi, S5.hd, ar_cons (ev_local Op2 rfl (ar_nil (call_f Op2 (R.less (by omega) : Room A (T.d + 10)) ((add_spec G hg S5 okx).mono ?_ fun _ _ _ h => h.elim))))⟩))))
        rintro a hp' nx' ⟨rfl, rfl, rfl⟩
        refine ss_nil ⟨e5, ?_, L5.put (HP.le_none L1 nn)⟩
        rw [adds_take lj]
        exact S5.add okx (hx2 _ (List.getElem_mem lj))
      · rintro ⟨loc5, hp5, nx5⟩ ⟨e5, S5, L5⟩
        dsimp only at e5 S5 L5
        rw [List.length_map, List.take_length] at S5
        exact ss_nil ⟨T.adds cur xs, e5, S5, L5, hgo⟩
  case done =>
    rintro ⟨loc, hp3, nx3⟩ ⟨cur, e1, S3, L3, hgo⟩
    dsimp only at e1 S3 L3
    rw [List.drop_eq_nil_of_le (by simp)] at hgo
    exact ss_cons (st_ret (ev_local O (by exact e1) ⟨cur, hgo, s', d', nx1, rfl, m1, m2, nn', S3, Lt.trans L3⟩))
end
end Sx

namespace Sx
/-! lists kept by a key, in order or in the order they came -/
section
variable {α : Type} (k : α → Nat)
def cntK (vs : List α) (x : α) : Nat := (vs.filter fun y => decide (k y < k x)).length
def insK (x : α) : List α → List α
  | [] => [x]
  | y :: r => if k y < k x then y :: insK x r else if k y = k x then y :: r else x :: y :: r
def eqK (a b : α) : Bool := k a == k b
def addK (fi : List α → α → Nat) (vs : List α) (x : α) : List α := match vs[fi vs x]? with
  | some y => if eqK k y x then vs else insAt vs (fi vs x) x
  | none => vs ++ [x]
abbrev SrtK (vs : List α) : Prop := vs.Pairwise fun a b => k a < k b
variable {k}
theorem cntK_cons {y x : α} {r : List α} : cntK k (y :: r) x = if k y < k x then cntK k r x + 1 else cntK k r x := by
  unfold cntK
  by_cases h : k y < k x
  · rw [if_pos h, List.filter_cons_of_pos (by simpa using h)]; rfl
  · rw [if_neg h, List.filter_cons_of_neg (by simpa using h)]
theorem cntK_zero {x : α} {r : List α} (h : ∀ y ∈ r, k x ≤ k y) : cntK k r x = 0 := by
  unfold cntK
  rw [List.length_eq_zero_iff, List.filter_eq_nil_iff]
  intro y hy
  have := h y hy
  simp; omega
theorem cntK_le {vs : List α} {x : α} : cntK k vs x ≤ vs.length := List.length_filter_le _ _
theorem addK_ins {x : α} : ∀ {vs : List α}, SrtK k vs → addK k (cntK k) vs x = insK k x vs
  | [], _ => rfl
  | y :: r, h => by
    obtain ⟨h1, h2⟩ := List.pairwise_cons.mp h
    unfold addK insK
    rw [cntK_cons]
    by_cases hy : k y < k x
    · rw [if_pos hy, if_pos hy, List.getElem?_cons_succ]
      have ih := addK_ins (x := x) h2
      unfold addK at ih
      rw [← ih]
      cases q : r[cntK k r x]? with
      | none => rfl
      | some z =>
        dsimp only
        split
        · rfl
        · rfl
    · rw [if_neg hy, if_neg hy, cntK_zero (fun z hz => by have := h1 z hz; omega)]
      show (if eqK k y x then y :: r else insAt (y :: r) 0 x) = _
      by_cases e : k y = k x
      · rw [if_pos e, if_pos (by simp [eqK, e])]
      · rw [if_neg e, if_neg (by simpa [eqK] using e)]; rfl
theorem mem_insK {x y : α} : ∀ {vs : List α}, y ∈ insK k x vs → y = x ∨ y ∈ vs
  | [], h => .inl (by simpa [insK] using h)
  | z :: r, h => by
    unfold insK at h
    split at h
    · rcases List.mem_cons.mp h with h | h
      · exact .inr (h ▸ .head _)
      · exact (mem_insK h).imp id (.tail _)
    · split at h
      · exact .inr h
      · exact (List.mem_cons.mp h)
theorem pair_insK {x : α} : ∀ {vs : List α}, SrtK k vs → SrtK k (insK k x vs)
  | [], _ => List.pairwise_singleton _ _
  | y :: r, h => by
    obtain ⟨h1, h2⟩ := List.pairwise_cons.mp h
    unfold insK
    split
    · rename_i hy
      refine List.pairwise_cons.mpr ⟨fun z hz => ?_, pair_insK h2⟩
      rcases mem_insK hz with e | e
      · subst e; exact hy
      · exact h1 z e
    · split
      · exact h
      · refine List.pairwise_cons.mpr ⟨fun z hz => ?_, h⟩
        rcases List.mem_cons.mp hz with e | e
        · subst e; omega
        · have := h1 z e; omega
theorem insK_end {x : α} : ∀ {vs : List α}, (∀ y ∈ vs, k y < k x) → insK k x vs = vs ++ [x]
  | [], _ => rfl
  | y :: r, h => by
    unfold insK
    rw [if_pos (h y (.head _)), insK_end fun z hz => h z (.tail _ hz)]; rfl
theorem foldl_srt : ∀ {l vs : List α}, SrtK k (vs ++ l) → l.foldl (addK k (cntK k)) vs = vs ++ l
  | [], vs, _ => by simp
  | x :: l, vs, h => by
    obtain ⟨h1, h2, h3⟩ := List.pairwise_append.mp h
    rw [List.foldl_cons, addK_ins h1, insK_end fun y hy => h3 y hy x (.head _)]
    have e : vs ++ x :: l = (vs ++ [x]) ++ l := by simp
    rw [e] at h ⊢
    exact foldl_srt h
/-- where a thing is found, in an ordered list -/
theorem cntK_hit {x : α} : ∀ {vs : List α}, SrtK k vs → vs.any (fun y => eqK k y x) = true → ∃ h : cntK k vs x < vs.length, eqK k vs[cntK k vs x] x = true ∧ ∀ i (hi : i < vs.length), i < cntK k vs x → eqK k vs[i] x = false
  | [], _, h => by simp at h
  | y :: r, h, ha => by
    obtain ⟨h1, h2⟩ := List.pairwise_cons.mp h
    by_cases hy : k y < k x
    · have hr : r.any (fun y => eqK k y x) = true := by
        rw [List.any_cons] at ha
        have : eqK k y x = false := by simp [eqK]; omega
        rwa [this, Bool.false_or] at ha
      obtain ⟨l, e, n⟩ := cntK_hit h2 hr
      have hc : cntK k (y :: r) x = cntK k r x + 1 := by rw [cntK_cons, if_pos hy]
      refine ⟨by rw [hc, List.length_cons]; omega, ?_, fun i hi hlt => ?_⟩
      · simp only [hc, List.getElem_cons_succ]; exact e
      · cases i with
        | zero => simp [eqK]; omega
        | succ i => rw [List.getElem_cons_succ]; exact n i (by simpa using hi) (by omega)
    · have hc : cntK k (y :: r) x = 0 := by rw [cntK_cons, if_neg hy]; exact cntK_zero fun z hz => by have := h1 z hz; omega
      refine ⟨by rw [hc]; simp, ?_, fun i hi hlt => by omega⟩
      simp only [hc, List.getElem_cons_zero]
      rw [List.any_cons, Bool.or_eq_true] at ha
      rcases ha with ha | ha
      · exact ha
      · obtain ⟨z, hz, e⟩ := List.any_eq_true.mp ha
        have := h1 z hz
        have e : k z = k x := by simpa [eqK] using e
        omega
theorem addK_any {x : α} {fi : List α → α → Nat} {vs : List α} (hle : fi vs x ≤ vs.length) (hit : vs.any (fun y => eqK k y x) = true → ∃ h : fi vs x < vs.length, eqK k vs[fi vs x] x = true) : addK k fi vs x = if vs.any (fun y => eqK k y x) then vs else insAt vs (fi vs x) x := by
  unfold addK
  split
  · rename_i y hy
    obtain ⟨hl, rfl⟩ := List.getElem?_eq_some_iff.mp hy
    cases ha : vs.any fun y => eqK k y x with
    | true =>
      obtain ⟨_, e⟩ := hit ha
      rw [if_pos e, if_pos rfl]
    | false =>
      have := List.any_eq_false.mp ha _ (List.getElem_mem hl)
      rw [if_neg this, if_neg (by decide)]
  · rename_i hn
    have hn := List.getElem?_eq_none_iff.mp hn
    have e : fi vs x = vs.length := by omega
    cases ha : vs.any fun y => eqK k y x with
    | true => obtain ⟨h, _⟩ := hit ha; omega
    | false => rw [if_neg (by decide), e]; unfold insAt; simp

/-! the order they came -/
variable (k) in
def idxK (vs : List α) (x : α) : Nat := vs.findIdx fun y => eqK k y x
theorem idxK_le {vs : List α} {x : α} : idxK k vs x ≤ vs.length := List.findIdx_le_length
theorem idxK_hit {x : α} {vs : List α} (ha : vs.any (fun y => eqK k y x) = true) : ∃ h : idxK k vs x < vs.length, eqK k vs[idxK k vs x] x = true ∧ ∀ i (hi : i < vs.length), i < idxK k vs x → eqK k vs[i] x = false := by
  have h : idxK k vs x < vs.length := by
    obtain ⟨y, hy, e⟩ := List.any_eq_true.mp ha
    exact List.findIdx_lt_length_of_exists ⟨y, hy, e⟩
  exact ⟨h, List.findIdx_getElem (w := h), fun i hi hlt => by simpa using List.not_of_lt_findIdx hlt⟩
theorem idxK_no {x : α} {vs : List α} (ha : vs.any (fun y => eqK k y x) = false) : idxK k vs x = vs.length := by
  refine List.findIdx_eq_length.mpr fun y hy => ?_
  have := List.any_eq_false.mp ha y hy
  simpa using this
theorem addK_idx {x : α} {vs : List α} : addK k (idxK k) vs x = if vs.any (fun y => eqK k y x) then vs else vs ++ [x] := by
  rw [addK_any idxK_le fun ha => let ⟨h, e, _⟩ := idxK_hit ha; ⟨h, e⟩]
  cases ha : vs.any fun y => eqK k y x with
  | true => rfl
  | false => rw [if_neg (by decide), if_neg (by decide), idxK_no ha]; unfold insAt; simp
abbrev NdK (k : α → Nat) (vs : List α) : Prop := vs.Pairwise fun a b => k a ≠ k b
theorem foldl_nd : ∀ {l vs : List α}, NdK k (vs ++ l) → l.foldl (addK k (idxK k)) vs = vs ++ l
  | [], vs, _ => by simp
  | x :: l, vs, h => by
    obtain ⟨h1, h2, h3⟩ := List.pairwise_append.mp h
    have hn : vs.any (fun y => eqK k y x) = false := List.any_eq_false.mpr fun y hy => by
      have := h3 y hy x (.head _)
      simpa [eqK] using this
    rw [List.foldl_cons, addK_idx, hn, if_neg (by decide)]
    have e : vs ++ x :: l = (vs ++ [x]) ++ l := by simp
    rw [e] at h ⊢
    exact foldl_nd h
theorem addK_nd {x : α} {vs : List α} (h : NdK k vs) : NdK k (addK k (idxK k) vs x) := by
  rw [addK_idx]
  cases ha : vs.any fun y => eqK k y x with
  | true => rw [if_pos rfl]; exact h
  | false =>
    rw [if_neg (by decide)]
    refine List.pairwise_append.mpr ⟨h, List.pairwise_singleton _ _, fun y hy z hz => ?_⟩
    rw [List.mem_singleton.mp hz]
    have := List.any_eq_false.mp ha y hy
    simpa [eqK] using this
theorem nd_len : ∀ (n : Nat) {l : List Nat}, l.Nodup → (∀ x ∈ l, x < n) → l.length ≤ n
  | 0, l, _, h => by
    cases l with
    | nil => simp
    | cons x l => exact absurd (h x (.head _)) (Nat.not_lt_zero _)
  | n + 1, l, hn, h => by
    by_cases hm : n ∈ l
    · have h1 := List.length_erase_of_mem hm
      have h2 := nd_len n (hn.erase n) fun x hx => by
        have := (hn.mem_erase_iff).mp hx
        have := h x this.2
        omega
      omega
    · have := nd_len n hn fun x hx => by
        have h1 := h x hx
        have : x ≠ n := fun e => hm (e ▸ hx)
        omega
      omega
theorem ndK_len {vs : List α} {n : Nat} (h : NdK k vs) (hb : ∀ y ∈ vs, k y < n) : vs.length ≤ n := by
  have := nd_len n (l := vs.map k) (by unfold List.Nodup; rw [List.pairwise_map]; exact h) fun x hx => by
    obtain ⟨y, hy, rfl⟩ := List.mem_map.mp hx
    exact hb y hy
  rwa [List.length_map] at this
theorem SrtK.nd {vs : List α} (h : SrtK k vs) : NdK k vs := h.imp Nat.ne_of_lt
end
end Sx

namespace Sx
/-! the seven things of each world -/
def thN : Nat → AV
  | 0 => .int 0 | 1 => .bool false | 2 => .int 1 | 3 => .bool true | 4 => .int 2 | 5 => .int 3 | _ => .int (-1)
def thL : Nat → List AV
  | 0 => [.int 0] | 1 => [.int 1] | 2 => [.bool true] | 3 => [.int 1, .int 2] | 4 => [.int 1, .int 0] | 5 => [] | _ => [.int 2]
def thE : Nat → List (Str × AV)
  | 0 => [] | 1 => [("a", .int 1)] | 2 => [("a", .bool true)] | 3 => [("a", .int 2)] | 4 => [("b", .int 1)] | 5 => [("a", .int 1), ("b", .int 2)] | _ => [("b", .int 2), ("a", .int 1)]
def clsT (w t : Nat) : Nat := match w with
  | 0 => (match t with | 0 => 1 | 1 => 2 | 2 => 2 | 3 => 4 | 4 => 3 | 5 => 0 | _ => 5)
  | 1 => (match t with | 0 => 0 | 1 => 1 | 2 => 1 | 3 => 2 | 4 => 3 | _ => 4)
  | _ => (match t with | 0 => 1 | 1 => 1 | 2 => 2 | 3 => 2 | 4 => 3 | 5 => 4 | _ => 0)
def pyS : AV → PyData
  | .int i => .int i
  | .bool b => .bool b
  | .str x => .str x
  | _ => .none
def thEs (g : Gl) (t : Nat) : List (Int × Str × AV) := (thE t).map fun p => (hashStr g.w p.1, p.1, p.2)
def objT (g : Gl) (w t : Nat) : AO := if w = 0 then .list (thL t) else .dict (thEs g t)
def datT (w t : Nat) : PyData := match w with
  | 0 => .list ((thL t).map pyS)
  | 1 => .dict ((thE t).map fun p => (.str p.1, pyS p.2))
  | _ => pyS (thN t)
def emT (w : Nat) (x : Nat × Nat) : AV := if w = 2 then thN x.2 else .ref x.1
def okT (g : Gl) (w : Nat) (hp : HP) (x : Nat × Nat) : Prop := x.2 < 7 ∧ (w ≠ 2 → hp x.1 = some (objT g w x.2))
theorem all7 {P : Nat → Prop} (h : ∀ t : Fin 7, P t) : ∀ t, t < 7 → P t := fun t ht => h ⟨t, ht⟩
theorem thN_num (t : Nat) : Numb (thN t) := by unfold thN; split <;> trivial
theorem thL_num (t : Nat) : ∀ a ∈ thL t, Numb a := by unfold thL; split <;> simp [Numb]
theorem thE_num (t : Nat) : ∀ p ∈ thE t, Numb p.2 := by unfold thE; split <;> simp [Numb]
theorem scs_map {as : List AV} (h : ∀ a ∈ as, Numb a) : ScDs as (as.map pyS) := by
  induction as with
  | nil => rfl
  | cons a as ih =>
    refine ⟨_, _, rfl, ?_, ih fun b hb => h b (.tail _ hb)⟩
    have := h a (.head _)
    cases a <;> first | rfl | exact this.elim
theorem kvs_map {g : Gl} {es : List (Str × AV)} (h : ∀ p ∈ es, Numb p.2) : KVs (es.map fun p => (hashStr g.w p.1, p.1, p.2)) (es.map fun p => (.str p.1, pyS p.2)) := by
  induction es with
  | nil => rfl
  | cons a as ih =>
    refine ⟨_, _, rfl, ?_, ih fun b hb => h b (.tail _ hb)⟩
    have := h a (.head _)
    obtain ⟨x, a⟩ := a
    cases a <;> first | rfl | exact this.elim
section
variable {g : Gl} {w : Nat} {hp : HP} {x y : Nat × Nat}
theorem okT_d1 (hw : w < 3) (h : okT g w hp x) : D1 hp (emT w x) (datT w x.2) := by
  obtain ⟨h7, ho⟩ := h
  have : w = 0 ∨ w = 1 ∨ w = 2 := by omega
  rcases this with rfl | rfl | rfl
  · exact .list (ho (by decide)) (scs_map (thL_num _))
  · exact .dict (ho (by decide)) (kvs_map (thE_num _))
  · refine .sc ?_
    show ScD (thN x.2) (pyS (thN x.2))
    have := thN_num x.2
    cases q : thN x.2 <;> rw [q] at this <;> first | rfl | exact this.elim
theorem esOk_th (t : Nat) : EsOk g (thEs g t) := by
  refine ⟨fun e he => ?_, fun e he => ?_, ?_⟩
  · obtain ⟨p, _, rfl⟩ := List.mem_map.mp he; rfl
  · obtain ⟨p, hp, rfl⟩ := List.mem_map.mp he; exact thE_num t p hp
  · unfold thEs
    rw [List.map_map]
    show ((thE t).map fun p => p.1).Nodup
    unfold thE
    split <;> decide +kernel
def dEqS : List (Str × AV) → List (Str × AV) → Bool
  | [], _ => true
  | (k, a) :: r, fs => match fs.find? (fun e => decide (e.1 = k)) with
    | none => false
    | some e => (valN a == valN e.2) && dEqS r fs
theorem dEq_S (es fs : List (Str × AV)) : dEq (es.map fun p => (hashStr g.w p.1, p.1, p.2)) (fs.map fun p => (hashStr g.w p.1, p.1, p.2)) = dEqS es fs := by
  induction es with
  | nil => rfl
  | cons p es ih =>
    obtain ⟨k, a⟩ := p
    rw [List.map_cons]
    unfold dEq dEqS
    rw [List.find?_map]
    have e : (fun e : Int × Str × AV => decide (e.2.1 = k)) ∘ (fun p : Str × AV => (hashStr g.w p.1, p.1, p.2)) = fun e => decide (e.1 = k) := rfl
    rw [e]
    cases q : fs.find? (fun e => decide (e.1 = k)) with
    | none => rfl
    | some e => rw [← ih]; rfl
theorem eq_tabE : ∀ a b : Fin 7, ((thE a).length == (thE b).length && dEqS (thE a) (thE b)) = (clsT 1 a == clsT 1 b) := by decide +kernel
theorem eq_tabN : ∀ a b : Fin 7, (valN (thN a) == valN (thN b)) = (clsT 2 a == clsT 2 b) := by decide +kernel
theorem lt_tabN : ∀ a b : Fin 7, decide (valN (thN a) < valN (thN b)) = decide (clsT 2 a < clsT 2 b) := by decide +kernel
theorem lt_tabL : ∀ a b : Fin 7, lexV (thL a) (thL b) = decide (clsT 0 a < clsT 0 b) := by decide +kernel
theorem eq_tabL : ∀ a b : Fin 7, PyData.eqv (datT 0 a) (datT 0 b) = (clsT 0 a == clsT 0 b) := by decide +kernel
theorem lay_tabL : ∀ a : Fin 7, (datT 0 a).canLay0 = true ∧ (datT 0 a).depth ≤ 3 := by decide +kernel
theorem dEq_th {a b : Nat} (ha : a < 7) (hb : b < 7) : ((thEs g a).length == (thEs g b).length && dEq (thEs g a) (thEs g b)) = (clsT 1 a == clsT 1 b) := by
  unfold thEs
  rw [dEq_S, List.length_map, List.length_map]
  exact eq_tabE ⟨a, ha⟩ ⟨b, hb⟩
theorem eqdT (hw : w < 3) (hx : okT g w hp x) (hy : okT g w hp y) : EqD g hp (emT w x) (emT w y) (eqK (fun z => clsT w z.2) x y) := by
  have : w = 0 ∨ w = 1 ∨ w = 2 := by omega
  rcases this with rfl | rfl | rfl
  · have h : EqD g hp (emT 0 x) (emT 0 y) (PyData.eqv (datT 0 x.2) (datT 0 y.2)) := eqd_flat (okT_d1 hw hx) (okT_d1 hw hy) (lay_tabL ⟨_, hx.1⟩).1 (lay_tabL ⟨_, hy.1⟩).1 (lay_tabL ⟨_, hx.1⟩).2
    have e := eq_tabL ⟨_, hx.1⟩ ⟨_, hy.1⟩
    dsimp only at e
    rw [e] at h; exact @h
  · have h : EqD g hp (.ref x.1) (.ref y.1) ((thEs g x.2).length == (thEs g y.2).length && dEq (thEs g x.2) (thEs g y.2)) := eqd_dict (hx.2 (by decide)) (hy.2 (by decide)) (esOk_th x.2) (esOk_th y.2) (fun e => by
      have h1 := hx.2 (by decide)
      have h2 := hy.2 (by decide)
      rw [e, h2] at h1
      have h1 : AO.dict (thEs g y.2) = AO.dict (thEs g x.2) := Option.some.inj h1
      injection h1 with h1
      rw [h1, dEq_th hx.1 hx.1]; simp)
    rw [dEq_th hx.1 hy.1] at h; exact @h
  · have e := eq_tabN ⟨_, hx.1⟩ ⟨_, hy.1⟩
    dsimp only at e
    show EqD g hp (thN x.2) (thN y.2) (clsT 2 x.2 == clsT 2 y.2)
    rw [← e]
    intro c σ st s u v A hh H V W hu
    exact num_eq (thN_num _) (thN_num _) V W g.prog g.w
theorem rcdT (hw : w < 3) (hx : okT g w hp x) (hy : okT g w hp y) : RcD g hp (emT w x) (emT w y) (eqK (fun z => clsT w z.2) x y) := by
  have : w = 0 ∨ w = 1 ∨ w = 2 := by omega
  rcases this with rfl | rfl | rfl
  · have h : RcD g hp (emT 0 x) (emT 0 y) (PyData.eqv (datT 0 x.2) (datT 0 y.2)) := rcd_flat (okT_d1 hw hx) (okT_d1 hw hy) (lay_tabL ⟨_, hx.1⟩).1 (lay_tabL ⟨_, hy.1⟩).1 (lay_tabL ⟨_, hx.1⟩).2
    have e := eq_tabL ⟨_, hx.1⟩ ⟨_, hy.1⟩
    dsimp only at e
    rw [e] at h; exact @h
  · have h : RcD g hp (.ref x.1) (.ref y.1) ((thEs g x.2).length == (thEs g y.2).length && dEq (thEs g x.2) (thEs g y.2)) := rcd_dict (hx.2 (by decide)) (hy.2 (by decide)) (esOk_th x.2) (esOk_th y.2)
    rw [dEq_th hx.1 hy.1] at h; exact @h
  · have e := eq_tabN ⟨_, hx.1⟩ ⟨_, hy.1⟩
    dsimp only at e
    show RcD g hp (thN x.2) (thN y.2) (clsT 2 x.2 == clsT 2 y.2)
    rw [← e]
    intro c σ st s u v A hh H V W hu
    exact num_rc (thN_num _) (thN_num _) V W g.prog g.w
theorem rndT (hw : w < 3) (hx : okT g w hp x) (hy : okT g w hp y) : RnD g hp (emT w x) (emT w y) (eqK (fun z => clsT w z.2) x y) := by
  have : w = 0 ∨ w = 1 ∨ w = 2 := by omega
  rcases this with rfl | rfl | rfl
  · have h : RnD g hp (emT 0 x) (emT 0 y) (PyData.eqv (datT 0 x.2) (datT 0 y.2)) := rnd_flat (okT_d1 hw hx) (okT_d1 hw hy) (lay_tabL ⟨_, hx.1⟩).1 (lay_tabL ⟨_, hy.1⟩).1 (lay_tabL ⟨_, hx.1⟩).2
    have e := eq_tabL ⟨_, hx.1⟩ ⟨_, hy.1⟩
    dsimp only at e
    rw [e] at h; exact @h
  · have h : RnD g hp (.ref x.1) (.ref y.1) ((thEs g x.2).length == (thEs g y.2).length && dEq (thEs g x.2) (thEs g y.2)) := rnd_dict (hx.2 (by decide)) (hy.2 (by decide)) (esOk_th x.2) (esOk_th y.2)
    rw [dEq_th hx.1 hy.1] at h; exact @h
  · have e := eq_tabN ⟨_, hx.1⟩ ⟨_, hy.1⟩
    dsimp only at e
    show RnD g hp (thN x.2) (thN y.2) (clsT 2 x.2 == clsT 2 y.2)
    rw [← e]
    intro c σ st s u v A hh H V W hu
    exact num_ne (thN_num _) (thN_num _) V W g.prog g.w
theorem ltdT (hw : w = 0 ∨ w = 2) (hx : okT g w hp x) (hy : okT g w hp y) : LtD g hp (emT w x) (emT w y) (decide (clsT w x.2 < clsT w y.2)) := by
  rcases hw with rfl | rfl
  · have h : LtD g hp (.ref x.1) (.ref y.1) (lexV (thL x.2) (thL y.2)) := ltd_list (hx.2 (by decide)) (hy.2 (by decide)) (thL_num x.2) (thL_num y.2)
    have e := lt_tabL ⟨_, hx.1⟩ ⟨_, hy.1⟩
    dsimp only at e
    rw [e] at h; exact @h
  · have e := lt_tabN ⟨_, hx.1⟩ ⟨_, hy.1⟩
    dsimp only at e
    show LtD g hp (thN x.2) (thN y.2) (decide (clsT 2 x.2 < clsT 2 y.2))
    rw [← e]
    exact ltd_num (thN_num _) (thN_num _)
/-! what is shown of a thing -/
theorem show_tab0 : ∀ a : Fin 7, (datT 0 a).showable = true ∧ (datT 0 a).depth ≤ 3 ∧ (datT 0 a).shown.length ≤ 20 ∧ (datT 0 a).hasDict = false := by decide +kernel
theorem show_tab1 : ∀ a : Fin 7, (datT 1 a).showable = true ∧ (datT 1 a).depth ≤ 3 ∧ (datT 1 a).shown.length ≤ 20 := by decide +kernel
theorem show_tab2 : ∀ a : Fin 7, (datT 2 a).showable = true ∧ (datT 2 a).depth ≤ 3 ∧ (datT 2 a).shown.length ≤ 20 ∧ (datT 2 a).hasDict = false := by decide +kernel
end
end Sx

namespace Sx
abbrev kT (w : Nat) : Nat × Nat → Nat := fun z => clsT w z.2
def gap (st : AS) : Nat := match st.loc "lo", st.loc "hi" with
  | some (.int a), some (.int b) => (b - a).toNat
  | _, _ => 0
theorem gap_eq {st : AS} {a b : Int} (h1 : st.loc "lo" = some (.int a)) (h2 : st.loc "hi" = some (.int b)) : gap st = (b - a).toNat := by
  unfold gap; rw [h1, h2]
theorem cntK_of {α : Type} {k : α → Nat} {ns : List α} {x : α} {j : Nat} (hk : j ≤ ns.length) (b1 : ∀ i y, i < j → ns[i]? = some y → k y < k x) (b2 : ∀ i y, j ≤ i → ns[i]? = some y → k x ≤ k y) : cntK k ns x = j := by
  unfold cntK
  induction ns generalizing j with
  | nil => simp at hk; simp [hk]
  | cons y ns ih =>
    cases j with
    | zero =>
      have h0 : ¬ k y < k x := by have := b2 0 y (Nat.le_refl _) rfl; omega
      rw [List.filter_cons_of_neg (by simpa using h0)]
      exact ih (Nat.zero_le _) (fun i y h => absurd h (Nat.not_lt_zero _)) fun i z h e => b2 (i + 1) z (Nat.zero_le _) e
    | succ j =>
      have h0 : k y < k x := b1 0 y (Nat.succ_pos _) rfl
      rw [List.filter_cons_of_pos (by simpa using h0), List.length_cons]
      rw [ih (by simpa using hk) (fun i z h e => b1 (i + 1) z (by omega) e) fun i z h e => b2 (i + 1) z (by omega) e]
section
variable {g : Gl}
theorem Room.cl {A : Around} {d : Nat} (R : Room A d) : A.units + 8 * d < cLine := R.units
set_option maxHeartbeats 4000000 in
theorem fi_ord {w : Nat} (hw : w = 0 ∨ w = 2) (G : g.Ok) (hg : g.K = HK g.w.params) {s d l : Nat} {ns : List (Nat × Nat)} {x : Nat × Nat} {hp : HP} {nx : Nat} (h1 : hp s = some (.inst 306 d)) (h2 : hp d = some (.sdict (some (.ref l)))) (h3 : hp l = some (.list (ns.map (emT w)))) (hs : SrtK (kT w) ns) (ho : ∀ y ∈ ns, okT g w hp y) (hx : okT g w hp x) (hsz : ns.length ≤ 100) :
    Fn g 8 303 [.ref s, emT w x] hp nx (fun a hp' nx' => a = .int (cntK (kT w) ns x) ∧ hp' = hp ∧ nx' = nx) (fun _ _ _ => False) := by
  refine' fn_of G ?k1 ?k2 ["self", "x"] ?k3 ?k4 ?k5 ?k6 ?k7 ?k8 ?k9
  case k1 => rw [hg]; exact rfl
  case k2 => rw [hg]; exact rfl
  case k3 => intro s us h; match us, h with | [u1, u2], _ => exact .of_eq rfl
  case k4 => rfl
  case k5 => decide
  case k6 => rfl
  case k7 => rfl
  case k8 => rfl
  intro A L outer outs pins O R hb
  have hu : A.units + 10 < cLine := by have := R.units; omega
  refine ss_cons (st_assign (ev_items G (cls_ok hg) (ev_local O rfl ⟨_, _, _, rfl, h1, h2, sn_local O rfl ?_⟩)))
  refine ss_cons (st_assign (ev_int (sn_local O rfl ?_)))
  refine ss_cons (st_assign (ev_call G (ev_bltn G O (by rw [hg]; rfl) rfl ⟨rfl, ar_cons (ev_local O rfl (ar_nil (len_l h3 (sn_local O rfl ?_) (by simp; omega))))⟩) keep_builtin))
  refine ss_cons (st_try G O rfl (by rw [hg]; rfl) rfl ?_)
  refine ss_cons ?_
  refine st_while O rfl (fun st => ∃ lo hi : Nat, st.loc "lo" = some (.int lo) ∧ st.loc "hi" = some (.int hi) ∧ st.loc "a" = some (.ref l) ∧ st.loc "x" = some (emT w x) ∧ st.hp = hp ∧ st.nx = nx ∧ lo ≤ hi ∧ hi ≤ ns.length ∧ (∀ i y, i < lo → ns[i]? = some y → kT w y < kT w x) ∧ (∀ i y, hi ≤ i → ns[i]? = some y → kT w x ≤ kT w y)) gap ?_ ?_
  · refine ⟨0, ns.length, rfl, ?_, rfl, rfl, rfl, rfl, Nat.zero_le _, Nat.le_refl _, fun i y h => absurd h (Nat.not_lt_zero _), fun i y h e => ?_⟩
    · show some _ = some _; simp
    · rw [List.getElem?_eq_none h] at e; cases e
  · rintro ⟨loc, hp', nx'⟩ ⟨lo, hi, e1, e2, e3, e4, e5, e6, le1, le2, b1, b2⟩
    dsimp only at e1 e2 e3 e4 e5 e6
    subst e5 e6
    refine tr_cmp (ev_local O e1 (ev_local O e2 (op_lt (tr1_bool ?_))))
    by_cases hlt : lo < hi
    · have : decide ((lo : Int) < (hi : Int)) = true := by simp; omega
      rw [this, if_pos rfl]
      refine ss_cons (st_assign (ev_binop (ev_binop (ev_local O e1 (ev_local O e2 (op_add (ev_int (op_fdiv (sn_local O rfl ?_)))))))))
      have hm : ((lo : Int) + hi).fdiv 2 = (((lo + hi) / 2 : Nat) : Int) := by
        rw [Int.fdiv_eq_ediv_of_nonneg _ (by decide)]; omega
      rw [hm]
      have lm : (lo + hi) / 2 < ns.length := by omega
      have hsort : ∀ i j y z, i ≤ j → ns[i]? = some y → ns[j]? = some z → kT w y ≤ kT w z := fun i j y z h ei ej => by
        rcases Nat.lt_or_eq_of_le h with h | rfl
        · obtain ⟨li, rfl⟩ := List.getElem?_eq_some_iff.mp ei
          obtain ⟨lj, rfl⟩ := List.getElem?_eq_some_iff.mp ej
          exact Nat.le_of_lt (List.pairwise_iff_getElem.mp hs i j li lj h)
        · rw [ei] at ej; cases ej; exact Nat.le_refl _
      refine ss_cons (st_if (tr_cmp (ev_sub (ev_local O e3 (ev_local O rfl (op_item (vs := ns.map (emT w)) (a := emT w ns[(lo + hi) / 2]) h3 (by omega) ?_ (ev_local O e4 (op_lt_d (ltdT hw (ho _ (List.getElem_mem lm)) hx) hu (tr1_bool ?_))) (by omega)))))))
      · rw [Int.toNat_natCast, List.getElem?_map, List.getElem?_eq_getElem lm]; rfl
      by_cases hx' : kT w ns[(lo + hi) / 2] < kT w x
      · rw [decide_eq_true hx', if_pos rfl]
        refine ss_cons (st_assign (ev_binop (ev_local O rfl (ev_int (op_add (sn_local O rfl (ss_nil (ss_nil ?_))))))))
        refine ⟨⟨(lo + hi) / 2 + 1, hi, ?_, e2, e3, e4, rfl, rfl, by omega, le2, ?_, b2⟩, ?_⟩
        · show some _ = some _; simp
        · intro i y hi' ey
          have := hsort i ((lo + hi) / 2) y _ (by omega) ey (List.getElem?_eq_getElem lm)
          omega
        · rw [gap_eq (a := (((lo + hi) / 2 : Nat) : Int) + 1) (b := hi) rfl e2, gap_eq e1 e2]
          omega
      · rw [decide_eq_false hx', if_neg (by decide)]
        refine ss_cons (st_assign (ev_local O rfl (sn_local O rfl (ss_nil (ss_nil ?_)))))
        refine ⟨⟨lo, (lo + hi) / 2, e1, ?_, e3, e4, rfl, rfl, by omega, by omega, b1, ?_⟩, ?_⟩
        · show some _ = some _; simp
        · intro i y hi' ey
          have := hsort ((lo + hi) / 2) i _ y (by omega) (List.getElem?_eq_getElem lm) ey
          omega
        · rw [gap_eq (a := lo) (b := (((lo + hi) / 2 : Nat) : Int)) e1 rfl, gap_eq e1 e2]
          omega
    · have : decide ((lo : Int) < (hi : Int)) = false := by simp; omega
      rw [this, if_neg (by decide)]
      obtain rfl : lo = hi := by omega
      refine ss_nil (ss_cons (st_ret (ev_local O e1 ?_)))
      exact ⟨by rw [cntK_of le2 b1 b2]; rfl, rfl, rfl⟩

theorem op_ge_dict {c : Cx} {st : AS} {Q : AV → AS → Prop} {X : String → AS → Prop} {i j : Nat} {es fs : List (Int × Str × AV)} {eh : Addr} {oe : Obj} {vs : Array Value} (O : c.Ok) (hu : c.A.units < cLine) (hp : (eh, oe) ∈ c.pins) (hh : c.A.handled = some (.ref eh)) (hd : oe.data = .fields vs) (h2 : vs[2]? = some .none)
    (hi : st.hp i = some (.dict es)) (hj : st.hp j = some (.dict fs)) (q : X "TypeError" st) : Op2 g c (compareOp .GtE) (.ref i) (.ref j) st Q X := by
  rintro σ s u v H ⟨li, rfl⟩ ⟨lj, rfl⟩
  obtain ⟨⟨m, news, r⟩, z⟩ := id H
  obtain ⟨o1, m1, g1, ds1, n1, rfl, _⟩ := r.obj hi
  obtain ⟨o2, m2, g2, ds2, n2, rfl, _⟩ := r.obj hj
  have he := (r.nw _ (r.pins _ hp).1).1
  exact rc_dicts_ge ⟨_, g1, rfl⟩ ⟨_, g2, rfl⟩ hu (raisesTE1 hh he hd h2 fun h' tk e x => raisedX O H x q)
theorem lt_dict_raw {c : Cx} {st : AS} {X : String → AS → Prop} {σ : Nat → Addr} {s : Shared} {i j : Nat} {es fs : List (Int × Str × AV)} {u v : Value} {F : Value → Shared → Prop} (O : c.Ok) (hu : c.A.units < cLine) (hh : c.A.handled = none) (hi : st.hp i = some (.dict es)) (hj : st.hp j = some (.dict fs)) (q : X "TypeError" st)
    (H : Rep g c σ st s) (V : VR σ st.nx (.ref i) u) (W : VR σ st.nx (.ref j) v) : wpAny (model g.prog g.w) c.A (compareOp .Lt u v) F (PostX0 g c σ st.nx X) s := by
  obtain ⟨li, rfl⟩ := V
  obtain ⟨lj, rfl⟩ := W
  obtain ⟨⟨m, news, r⟩, z⟩ := id H
  obtain ⟨o1, m1, g1, ds1, n1, rfl, _⟩ := r.obj hi
  obtain ⟨o2, m2, g2, ds2, n2, rfl, _⟩ := r.obj hj
  exact rc_dicts_lt ⟨_, g1, rfl⟩ ⟨_, g2, rfl⟩ hu (raisesTE0 hh fun h' tk e x => raisedX0 O H x q)
end
end Sx

namespace Sx
theorem caught_TE : Caught "TypeError" "TypeError" := by constructor <;> (first | rfl | (rw [isSubtype_type]; kernel_rfl) | kernel_rfl | decide)
theorem caught_KE : Caught "KeyError" "KeyError" := by constructor <;> (first | rfl | (rw [isSubtype_type]; kernel_rfl) | kernel_rfl | decide)
section
variable {g : Gl}
theorem n_TE (hg : g.K = HK g.w.params) : nsIn g.K mainGlobals "TypeError" = some none := by rw [hg]; rfl
theorem n_KE (hg : g.K = HK g.w.params) : nsIn g.K mainGlobals "KeyError" = some none := by rw [hg]; rfl
theorem idx_at {α : Type} {k : α → Nat} {ns : List α} {x : α} {j : Nat} (h : j < ns.length) (e : eqK k ns[j] x = true) (n : ∀ i (hi : i < ns.length), i < j → eqK k ns[i] x = false) : idxK k ns x = j :=
  (List.findIdx_eq h).mpr ⟨e, fun i hi => n i (by omega) hi⟩
theorem idx_end {α : Type} {k : α → Nat} {ns : List α} {x : α} (n : ∀ i (hi : i < ns.length), eqK k ns[i] x = false) : idxK k ns x = ns.length :=
  List.findIdx_eq_length.mpr fun y hy => by
    obtain ⟨i, hi, rfl⟩ := List.mem_iff_getElem.mp hy
    exact n i hi
theorem raw_ev {c : Cx} {e : Expr} {st : AS} {Q : AV → AS → Prop} {σ : Nat → Addr} {s : Shared} {F : Value → Shared → Prop} {E : Value → Shared → Prop} (h : EV g c e st Q fun _ _ => False) (H : Rep g c σ st s) (k : ∀ u s' a σ' st', Q a st' → Ext st.nx σ σ' st'.nx → Rep g c σ' st' s' → VR σ' st'.nx a u → F u s') :
    wpAny (model g.prog g.w) c.A (eval e c.env) F E s := wpAny_mono (h σ s H) (fun u s' ⟨a, σ', st', q, e, r, V⟩ => k u s' a σ' st' q e r V) fun _ _ x => postX_no x
theorem raw_st {c : Cx} {e : Stmt} {st : AS} {Q : AF → AS → Prop} {σ : Nat → Addr} {s : Shared} {F : Flow → Shared → Prop} {E : Value → Shared → Prop} (h : ST g c e st Q fun _ _ => False) (H : Rep g c σ st s) (k : ∀ u s' a σ' st', Q a st' → Ext st.nx σ σ' st'.nx → Rep g c σ' st' s' → FR σ' st'.nx a u → F u s') :
    wpAny (model g.prog g.w) c.A (exec e c.env) F E s := wpAny_mono (h σ s H) (fun u s' ⟨a, σ', st', q, e, r, V⟩ => k u s' a σ' st' q e r V) fun _ _ x => postX_no x
set_option maxHeartbeats 8000000 in
theorem fi_dct (G : g.Ok) (hg : g.K = HK g.w.params) {s d l : Nat} {ns : List (Nat × Nat)} {x : Nat × Nat} {hp : HP} {nx : Nat} (h1 : hp s = some (.inst 306 d)) (h2 : hp d = some (.sdict (some (.ref l)))) (h3 : hp l = some (.list (ns.map (emT 1)))) (ho : ∀ y ∈ ns, okT g 1 hp y) (hx : okT g 1 hp x) (hsz : ns.length ≤ 100) :
    Fn g 8 303 [.ref s, emT 1 x] hp nx (fun a hp' nx' => a = .int (idxK (kT 1) ns x) ∧ hp' = hp ∧ nx' = nx) (fun _ _ _ => False) := by
  refine' fn_of G ?k1 ?k2 ["self", "x"] ?k3 ?k4 ?k5 ?k6 ?k7 ?k8 ?k9
  case k1 => rw [hg]; exact rfl
  case k2 => rw [hg]; exact rfl
  case k3 => intro s us h; match us, h with | [u1, u2], _ => exact .of_eq rfl
  case k4 => rfl
  case k5 => decide
  case k6 => rfl
  case k7 => rfl
  case k8 => rfl
  intro A L outer outs pins O R hb
  have hu : A.units + 10 < cLine := by have := R.units; omega
  refine ss_cons (st_assign (ev_items G (cls_ok hg) (ev_local O rfl ⟨_, _, _, rfl, h1, h2, sn_local O rfl ?_⟩)))
  refine ss_cons (st_assign (ev_int (sn_local O rfl ?_)))
  refine ss_cons (st_assign (ev_call G (ev_bltn G O (by rw [hg]; rfl) rfl ⟨rfl, ar_cons (ev_local O rfl (ar_nil (len_l h3 (sn_local O rfl ?_) (by simp; omega))))⟩) keep_builtin))
  by_cases hne : ns = []
  · subst hne
    refine ss_cons (st_try G O rfl (n_TE hg) rfl ?_)
    refine ss_cons (st_while O rfl (fun st => st.loc "lo" = some (.int 0) ∧ st.loc "hi" = some (.int 0) ∧ st.hp = hp ∧ st.nx = nx) (fun _ => 0) ⟨rfl, rfl, rfl, rfl⟩ ?_)
    rintro ⟨loc, hp', nx'⟩ ⟨e1, e2, e5, e6⟩
    dsimp only at e1 e2 e5 e6
    subst e5 e6
    refine tr_cmp (ev_local O e1 (ev_local O e2 (op_lt (tr1_bool ?_))))
    rw [if_neg (by decide)]
    exact ss_nil (ss_cons (st_ret (ev_local O e1 ⟨rfl, rfl, rfl⟩)))
  have hpos : 0 < ns.length := List.length_pos_iff.mpr hne
  have hx1 := hx.2 (by decide)
  refine ss_cons (st_try_w (T := "TypeError") G O rfl (n_TE hg) rfl ?_)
  refine tr_cmp (ev_local O rfl (ev_local O rfl (op_lt (tr1_bool ⟨by simp; omega, ?_⟩))))
  intro σ s0 H0
  have lm : ns.length / 2 < ns.length := by omega
  refine wpAny_execs_cons (raw_st (Q := fun f st' => f = .next ∧ st'.loc "mid" = some (.int (ns.length / 2 : Nat)) ∧ st'.loc "a" = some (.ref l) ∧ st'.loc "x" = some (emT 1 x) ∧ st'.loc "hi" = some (.int ns.length) ∧ st'.hp = hp ∧ st'.nx = nx)
    (st_assign (ev_binop (ev_binop (ev_local O rfl (ev_local O rfl (op_add (ev_int (op_fdiv (sn_local O rfl ?_))))))))) H0 ?_)
  · refine ⟨rfl, ?_, rfl, rfl, ?_, rfl, rfl⟩
    · show some (AV.int (((0 : Int) + ((ns.map (emT 1)).length : Nat)).fdiv 2)) = _
      rw [Int.fdiv_eq_ediv_of_nonneg _ (by decide), List.length_map]
      congr 2; omega
    · show some (AV.int ((ns.map (emT 1)).length : Nat)) = _
      rw [List.length_map]
  rintro _ s1 _ σ1 ⟨loc, hp1, nx1⟩ ⟨rfl, m1, m2, m3, m3h, rfl, rfl⟩ e1 H1 rfl
  dsimp only at m1 m2 m3 m3h
  refine wpAny_execs_cons (wpAny_If (wpAny_isTrue_Compare1 (raw_ev (Q := fun a st' => a = emT 1 ns[ns.length / 2] ∧ st' = ⟨loc, hp1, nx1⟩)
    (ev_sub (ev_local O m2 (ev_local O m1 (op_item (vs := ns.map (emT 1)) (a := emT 1 ns[ns.length / 2]) h3 (by omega) (by rw [Int.toNat_natCast, List.getElem?_map, List.getElem?_eq_getElem lm]; rfl) ⟨rfl, rfl⟩ (by omega))))) H1 ?_) (by with_unfolding_all rfl)))
  rintro u s2 _ σ2 _ ⟨rfl, rfl⟩ e2 H2 V2
  refine raw_ev (Q := fun a st' => a = emT 1 x ∧ st' = ⟨loc, hp1, nx1⟩) (ev_local O m3 ⟨rfl, rfl⟩) H2 ?_
  rintro v s3 _ σ3 _ ⟨rfl, rfl⟩ e3 H3 V3
  have hy := ho _ (List.getElem_mem lm)
  have e13 : Ext nx1 σ σ3 nx1 := (e1.trans e2).trans e3
  have fin := lt_dict_raw (X := fun cls st' => cls = "TypeError" ∧ st' = ⟨loc, hp1, nx1⟩) (F := fun _ _ => False) O (by show A.units < cLine; omega) R.handled (hy.2 (by decide)) hx1 ⟨rfl, rfl⟩ H3 (V2.mono e3) V3
  refine wpAny_mono fin (fun _ _ h => h.elim) fun e s4 hx4 => ?_
  obtain ⟨⟨cls, σ4, st4, ⟨rfl, rfl⟩, ex4, rx⟩, x0⟩ := hx4
  refine ⟨⟨"TypeError", σ4, ⟨loc, hp1, nx1⟩, ⟨caught_TE, ?_⟩, e13.trans ex4, rx⟩, x0⟩
  intro ea ob ovs hod ho2
  have O' := (O.mark (.ref ea)).pin (ea, ob)
  refine ss_cons (st_assign (ev_int (sn_local O' rfl ?_)))
  refine ss_cons (st_assign (ev_bool (sn_local O' rfl ?_)))
  refine ss_cons (st_while O' rfl (fun st => ∃ k : Nat, st.loc "lo" = some (.int k) ∧ st.loc "hi" = some (.int ns.length) ∧ st.loc "a" = some (.ref l) ∧ st.loc "x" = some (emT 1 x) ∧ st.loc "compared_one" = some (.bool false) ∧ st.hp = hp1 ∧ st.nx = nx1 ∧ k ≤ ns.length ∧ ∀ i (hi : i < ns.length), i < k → eqK (kT 1) ns[i] x = false) gap ?_ ?_)
  · exact ⟨0, rfl, m3h, m2, m3, rfl, rfl, rfl, Nat.zero_le _, fun i hi h => absurd h (Nat.not_lt_zero _)⟩
  rintro ⟨loc5, hp5, nx5⟩ ⟨k, a1, a2, a3, a4, a5, a6, a7, kl, kn⟩
  dsimp only at a1 a2 a3 a4 a5 a6 a7
  subst a6 a7
  refine tr_cmp (ev_local O' a1 (ev_local O' a2 (op_lt (tr1_bool ?_))))
  by_cases hlt : k < ns.length
  · have : decide ((k : Int) < (ns.length : Int)) = true := by simp; omega
    rw [this, if_pos rfl]
    have hk := ho _ (List.getElem_mem hlt)
    refine ss_cons (st_try G O' rfl (n_TE hg) rfl ?_)
    refine ss_cons (st_if (tr_bool (ta_or (tr_cmp (ev_sub (ev_local O' a3 (ev_local O' a1 (op_item (vs := ns.map (emT 1)) (a := emT 1 ns[k]) h3 (by omega) ?_ (ev_local O' a4 (op_eq_d (@rcdT _ _ _ _ _ (by decide) hk hx) hu (tr1_bool ?_))) (by omega)))))))))
    · rw [Int.toNat_natCast, List.getElem?_map, List.getElem?_eq_getElem hlt]; rfl
    cases he : eqK (kT 1) ns[k] x with
    | true =>
      rw [if_pos rfl, if_pos rfl]
      refine ss_cons (st_break ?_)
      refine ss_nil (ss_cons (st_ret (ev_local O a1 ⟨?_, rfl, rfl⟩)))
      rw [idx_at hlt he kn]; rfl
    | false =>
      rw [if_neg (by decide)]
      refine ta_or (tr_cmp (ev_sub (ev_local O' a3 (ev_local O' a1 (op_item (vs := ns.map (emT 1)) (a := emT 1 ns[k]) h3 (by omega) ?_ (ev_local O' a4 (op_ge_dict O' (by show A.units < cLine; omega) (.head _) rfl hod ho2 (hk.2 (by decide)) hx1 ⟨caught_TE, fun e2 => ?_⟩)) (by omega))))))
      · rw [Int.toNat_natCast, List.getElem?_map, List.getElem?_eq_getElem hlt]; rfl
      have O2 := O'.mark e2
      refine ss_cons (st_if (tr_val (ev_local O2 a5 (tr1_bool ?_))))
      rw [if_neg (by decide)]
      refine ss_nil (ss_nil ?_)
      refine ss_cons (st_aug O' rfl a1 (ev_int (op_iadd (sn_local O' rfl (ss_nil ?_)))))
      refine ⟨⟨k + 1, ?_, a2, a3, a4, a5, rfl, rfl, hlt, fun i hi hik => ?_⟩, ?_⟩
      · show some _ = some _; simp
      · rcases Nat.lt_or_ge i k with h | h
        · exact kn i hi h
        · have : i = k := by omega
          subst this; exact he
      · rw [gap_eq (a := (k : Int) + 1) (b := ns.length) rfl a2, gap_eq a1 a2]
        omega
  · have : decide ((k : Int) < (ns.length : Int)) = false := by simp; omega
    rw [this, if_neg (by decide)]
    obtain rfl : k = ns.length := by omega
    refine ss_nil ?_
    refine ss_cons (st_ret (ev_local O a1 ⟨?_, rfl, rfl⟩))
    rw [idx_end fun i hi => kn i hi hi]; rfl
end
end Sx

namespace Sx
theorem cls_lt (w t : Nat) : clsT w t < 7 := by
  unfold clsT
  split <;> split <;> decide
def fiT (w : Nat) : List (Nat × Nat) → (Nat × Nat) → Nat := if w = 1 then idxK (kT 1) else cntK (kT w)
def goodT (w : Nat) (vs : List (Nat × Nat)) : Prop := if w = 1 then NdK (kT 1) vs else SrtK (kT w) vs
theorem goodT.nd {w : Nat} {vs : List (Nat × Nat)} (h : goodT w vs) : NdK (kT w) vs := by
  unfold goodT at h
  split at h
  · rename_i e; subst e; exact h
  · exact SrtK.nd h
theorem goodT.len {w : Nat} {vs : List (Nat × Nat)} (h : goodT w vs) : vs.length ≤ 7 := ndK_len h.nd fun y _ => cls_lt w y.2
theorem goodT.sub {w : Nat} {vs us : List (Nat × Nat)} (h : goodT w vs) (s : us.Sublist vs) : goodT w us := by
  unfold goodT at h ⊢
  split at h
  · rename_i e; rw [if_pos e]; exact h.sublist s
  · rename_i e; rw [if_neg e]; exact h.sublist s
theorem addOf_K {w : Nat} {vs : List (Nat × Nat)} {x : Nat × Nat} : addOf (fiT w) (eqK (kT w)) vs x = addK (kT w) (fiT w) vs x := rfl
theorem fiT_1 : fiT 1 = idxK (kT 1) := if_pos rfl
theorem fiT_n {w : Nat} (h : w ≠ 1) : fiT w = cntK (kT w) := if_neg h
theorem goodT_1 {vs : List (Nat × Nat)} : goodT 1 vs = NdK (kT 1) vs := if_pos rfl
theorem goodT_n {w : Nat} {vs : List (Nat × Nat)} (h : w ≠ 1) : goodT w vs = SrtK (kT w) vs := if_neg h
theorem fiT_le {w : Nat} {vs : List (Nat × Nat)} {x : Nat × Nat} : fiT w vs x ≤ vs.length := by
  by_cases h : w = 1
  · subst h; rw [fiT_1]; exact idxK_le
  · rw [fiT_n h]; exact cntK_le
theorem fiT_hit {w : Nat} {vs : List (Nat × Nat)} {x : Nat × Nat} (hg : goodT w vs) (ha : vs.any (fun y => eqK (kT w) y x) = true) :
    ∃ h : fiT w vs x < vs.length, eqK (kT w) vs[fiT w vs x] x = true ∧ ∀ i (hi : i < vs.length), i < fiT w vs x → eqK (kT w) vs[i] x = false := by
  by_cases h : w = 1
  · subst h; rw [fiT_1]; exact idxK_hit ha
  · rw [fiT_n h]; rw [goodT_n h] at hg; exact cntK_hit hg ha
theorem addT_eq {w : Nat} {vs : List (Nat × Nat)} {x : Nat × Nat} (hg : goodT w vs) : addOf (fiT w) (eqK (kT w)) vs x = if vs.any (fun y => eqK (kT w) y x) then vs else insAt vs (fiT w vs x) x := by
  rw [addOf_K]
  exact addK_any fiT_le fun ha => let ⟨h, e, _⟩ := fiT_hit hg ha; ⟨h, e⟩
theorem memT_eq {w : Nat} {vs : List (Nat × Nat)} {x : Nat × Nat} (hg : goodT w vs) : (match vs[fiT w vs x]? with | some y => eqK (kT w) y x | none => false) = vs.any (fun y => eqK (kT w) y x) := by
  cases ha : vs.any fun y => eqK (kT w) y x with
  | true =>
    obtain ⟨h, e, _⟩ := fiT_hit hg ha
    rw [List.getElem?_eq_getElem h]; exact e
  | false =>
    cases q : vs[fiT w vs x]? with
    | none => rfl
    | some y =>
      obtain ⟨h, rfl⟩ := List.getElem?_eq_some_iff.mp q
      have := List.any_eq_false.mp ha _ (List.getElem_mem h)
      simpa using this
theorem goodT_add {w : Nat} {vs : List (Nat × Nat)} {x : Nat × Nat} (hg : goodT w vs) : goodT w (addOf (fiT w) (eqK (kT w)) vs x) := by
  rw [addOf_K]
  by_cases h : w = 1
  · subst h
    rw [goodT_1] at hg ⊢
    rw [fiT_1]; exact addK_nd hg
  · rw [goodT_n h] at hg ⊢
    rw [fiT_n h, addK_ins hg]; exact pair_insK hg
theorem goodT_foldl {w : Nat} {l : List (Nat × Nat)} (hg : goodT w l) : l.foldl (addOf (fiT w) (eqK (kT w))) [] = l := by
  show l.foldl (addK (kT w) (fiT w)) [] = l
  by_cases h : w = 1
  · subst h
    rw [goodT_1] at hg
    rw [fiT_1]
    have := foldl_nd (k := kT 1) (l := l) (vs := []) (by simpa using hg)
    simpa using this
  · rw [goodT_n h] at hg
    rw [fiT_n h]
    have := foldl_srt (k := kT w) (l := l) (vs := []) (by simpa using hg)
    simpa using this
section
variable {g : Gl}
def TT (w : Nat) (hw : w < 3) (G : g.Ok) (hg : g.K = HK g.w.params) : Th g (Nat × Nat) where
  em := emT w
  ok := okT g w
  uses := fun x i => w ≠ 2 ∧ i = x.1
  good := goodT w
  fi := fiT w
  eq := eqK (kT w)
  d := 8
  stays := fun h k => ⟨h.1, fun n => (k _ ⟨n, rfl⟩).trans (h.2 n)⟩
  okUses := fun h u => by obtain ⟨n, rfl⟩ := u; rw [h.2 n]; simp
  okKind := fun h u => by obtain ⟨n, rfl⟩ := u; rw [h.2 n]; unfold objT; split <;> (intro e; cases e)
  goodNil := by unfold goodT; split <;> exact List.Pairwise.nil
  goodLen := fun h => Nat.le_trans h.len (by decide)
  goodAdd := fun h _ _ => goodT_add h
  addMem := fun {vs x} h hx => by
    rw [addT_eq h, if_pos (List.any_eq_true.mpr ⟨x, hx, by simp [eqK]⟩)]
  addFilter := fun p h => goodT_foldl (h.sub List.filter_sublist)
  fiOk := fun {s dd l hp nx vs x} h1 h2 h3 hs ho hx => by
    have : w = 0 ∨ w = 1 ∨ w = 2 := by omega
    rcases this with rfl | rfl | rfl
    · rw [fiT_n (by decide)]
      rw [goodT_n (by decide)] at hs
      exact fi_ord (.inl rfl) G hg h1 h2 h3 hs ho hx (Nat.le_trans (ndK_len hs.nd fun y _ => cls_lt 0 y.2) (by decide))
    · rw [fiT_1]
      rw [goodT_1] at hs
      exact fi_dct G hg h1 h2 h3 ho hx (Nat.le_trans (ndK_len hs fun y _ => cls_lt 1 y.2) (by decide))
    · rw [fiT_n (by decide)]
      rw [goodT_n (by decide)] at hs
      exact fi_ord (.inr rfl) G hg h1 h2 h3 hs ho hx (Nat.le_trans (ndK_len hs.nd fun y _ => cls_lt 2 y.2) (by decide))
  eqOk := fun ha hb O R q => op_eq_d (@rcdT _ _ _ _ _ hw ha hb) (by have := R.units; omega) q
  neOk := fun ha hb O R q => op_ne_d (@rndT _ _ _ _ _ hw ha hb) (by have := R.units; omega) q

/-! a dict written out -/
def KeyVals (σ : Nat → Addr) (nx : Nat) : List (Str × AV) → List (Value × Value) → Prop
  | [], vs => vs = []
  | (x, a) :: es, vs => ∃ t u r, vs = (.str x t, u) :: r ∧ VR σ nx a u ∧ KeyVals σ nx es r
inductive CP (env : Env) (pos : Pos) : List (Option Expr) → List Expr → List (Str × AV) → Prop
  | nil : CP env pos [] [] []
  | int {ks vs es x i k1 k2 p1 p2} : CP env pos ks vs es → CP env pos (some (.Constant (.str x) k1 p1) :: ks) (.Constant (.int i) k2 p2 :: vs) ((x, .int i) :: es)
  | bool {ks vs es x b k1 k2 p1 p2} : CP env pos ks vs es → CP env pos (some (.Constant (.str x) k1 p1) :: ks) (.Constant (.bool b) k2 p2 :: vs) ((x, .bool b) :: es)
theorem cp_wp {env : Env} {pos : Pos} {prog : Program} {w : World} {A : Around} {E : Value → Shared → Prop} {σ : Nat → Addr} {nx : Nat} : ∀ {ks vs es}, CP env pos ks vs es → ∀ {s : Shared} {Q : List (Value × Value) → Shared → Prop}, (∀ r tk, KeyVals σ nx es r → Q r { s with toks := tk }) → wpAny (model prog w) A (evalPairs (pairTrees ks vs env pos)) Q E s := by
  intro ks vs es h
  induction h with
  | nil => intro s Q q; exact pairTrees_nil_walk (q [] s.toks rfl)
  | int _ ih =>
    intro s Q q
    exact pairTrees_cons_walk (wpAny_Constant_str (wpAny_Constant_int (ih fun r tk hr => q _ tk ⟨_, _, r, rfl, ⟨_, rfl⟩, hr⟩)))
  | bool _ ih =>
    intro s Q q
    exact pairTrees_cons_walk (wpAny_Constant_str (wpAny_Constant_bool (ih fun r tk hr => q _ tk ⟨_, _, r, rfl, rfl, hr⟩)))
theorem kv_str {σ : Nat → Addr} {nx : Nat} : ∀ {es : List (Str × AV)} {vs : List (Value × Value)}, KeyVals σ nx es vs → allStrKeys vs = true ∧ (strPairs vs).map (·.1) = es.map (·.1) ∧ ∀ {ds : List DictEntry}, Pairs (strKind g.prog g.w) ds (strPairs vs) → (∀ e ∈ ds, ∃ k, (strKind g.prog g.w).is k e.key = true ∧ e.hash = (strKind g.prog g.w).hash k) → ER σ nx (es.map fun p => (hashStr g.w p.1, p.1, p.2)) ds
  | [], _, h => by cases h; exact ⟨rfl, rfl, fun {ds} h _ => by cases h; rfl⟩
  | (x, a) :: es, _, ⟨t, u, r, e, V, R⟩ => by
    subst e
    obtain ⟨h1, h2, h3⟩ := kv_str R
    refine ⟨by simpa [allStrKeys] using h1, by simpa [strPairs] using h2, fun {ds} hp hk => ?_⟩
    have hp : Pairs (strKind g.prog g.w) ds ((x, u) :: strPairs r) := hp
    cases hp with
    | @cons e kv es' kvs k1 k2 k3 =>
      obtain ⟨k, hk1, hk2⟩ := hk e (.head _)
      have ek : k = x := (strKind g.prog g.w).inj _ _ _ hk1 k1
      subst ek
      obtain ⟨t', ht⟩ := Value.isStrOf_shape k1
      obtain ⟨eh, ekey, eval⟩ := e
      dsimp only at ht k2 hk2
      subst ht k2 hk2
      exact ⟨t', _, es', rfl, V, h3 k3 fun e he => hk e (.tail _ he)⟩
theorem ev_dictc {c : Cx} {st : AS} {Q : AV → AS → Prop} {X : String → AS → Prop} {keys : List (Option Expr)} {values : List Expr} {pos : Pos} {es : List (Str × AV)} (hz : 1 < g.base.objs.size) (h : CP c.env pos keys values es) (hnd : (es.map (·.1)).Nodup) (hlen : keys.length ≤ 15)
    (q : Q (.ref st.nx) (st.new (.dict (es.map fun p => (hashStr g.w p.1, p.1, p.2))))) (hall : keys.all (·.isSome) = true := by rfl) (hl : keys.length = values.length := by rfl) : EV g c (.Dict keys values pos) st Q X := by
  rintro σ s ⟨⟨m, news, r⟩, z⟩
  have lo : 1 < s.heap.objs.size := Nat.lt_of_lt_of_le hz (Nat.le_trans r.fr.above (Nat.le_of_lt r.fr.ns.lt))
  have lt : ∀ p ∈ news, p.1 < s.heap.objs.size := fun p hp => Heap.lt_size (r.nw p hp).1
  obtain ⟨r1, e1⟩ := r.new (o := .dict []) (r.fr.push { cls := .type "dict", data := .dict #[] }) (r.nw.push r.fr _) lt ⟨[], 0, rfl, rfl⟩ (fun _ => lo)
  have σn : (fun i => if i = st.nx then s.heap.objs.size else σ i) st.nx = s.heap.objs.size := if_pos rfl
  have hn : (st.new (.dict [])).hp st.nx = some (.dict []) := if_pos rfl
  have pp : ∀ o, (st.new (.dict [])).put st.nx o = st.new o := fun o => by
    show (⟨st.loc, _, st.nx + 1⟩ : AS) = ⟨st.loc, _, st.nx + 1⟩
    congr 1
    funext j
    show (if j = st.nx then _ else if j = st.nx then _ else _) = (if j = st.nx then _ else _)
    split <;> rfl
  generalize hσ : (fun i => if i = st.nx then s.heap.objs.size else σ i) = σ1 at r1 e1 σn
  by_cases h0 : keys = []
  · subst h0
    cases h
    refine wpAny_Dict_empty ?_
    exact ⟨_, σ1, _, q, e1, ⟨⟨m, _, r1⟩, z⟩, Nat.lt_succ_self _, by rw [σn]⟩
  · refine wpAny_Dict_walk (knd := strKind g.prog g.w) hall hl h0 hlen (cp_wp (σ := σ) (nx := st.nx) h fun vs tk hr => ?_)
    obtain ⟨k1, k2, k3⟩ := kv_str (g := g) hr
    have hg0 : (s.heap.push { cls := .type "dict", data := .dict #[] }).get? s.heap.objs.size = some { cls := .type "dict", data := .dict #[] } := Heap.get?_push_size _ rfl
    refine display_done_str (prog := g.prog) (w := g.w) (P := fun h' => PostOk g c VR σ st.nx Q (.ref s.heap.objs.size) { s with heap := h', toks := tk + vs.length }) k1 (by rw [k2]; exact hnd) ⟨_, #[], 0, hg0, ⟨rfl, rfl, rfl⟩, rfl, (fun e he => by simp at he), .nil, List.Pairwise.nil⟩ fun h' hd hs => ?_
    obtain ⟨o, ds, ep, ho, ⟨x1, x2, x3⟩, hdat, hk, hp, _⟩ := hd
    obtain ⟨cl, dd, dt, sl⟩ := o
    dsimp only at x1 x2 x3 hdat
    subst x1 x2 x3 hdat
    have er := k3 hp (fun e he => hk e (by simpa using he))
    have hs' : Heap.SameBut (σ1 st.nx) (s.heap.push { cls := .type "dict", data := .dict #[] }) h' := by rw [σn]; exact hs
    have ho' : h'.get? (σ1 st.nx) = some (dictOf ds.toList ep) := by rw [σn, ho]
    obtain ⟨news2, r2⟩ := r1.pinned_put (o' := .dict (es.map fun p => (hashStr g.w p.1, p.1, p.2))) hn hs' ho' ⟨_, _, rfl, er.mono e1⟩ (fun _ => rfl)
    rw [pp] at r2
    exact ⟨_, σ1, _, q, e1, ⟨⟨m, _, r2⟩, z⟩, Nat.lt_succ_self _, by rw [σn]⟩
end
end Sx

namespace Sx
section
variable {g : Gl}
theorem base_lo (G : g.Ok) (hg : g.K = HK g.w.params) : 1 < g.base.objs.size := by
  have h : ∃ o, (HK g.w.params).lookup 306 = some o := ⟨_, rfl⟩
  obtain ⟨o, ho⟩ := h
  rw [← hg] at ho
  exact Nat.lt_trans (by decide) (Heap.lt_size (G.X _ _ ho))
/-! displays that each make one thing -/
def AS.news (st : AS) (os : List AO) : AS := ⟨st.loc, fun j => if st.nx ≤ j ∧ j < st.nx + os.length then os[j - st.nx]? else st.hp j, st.nx + os.length⟩
theorem news_nil {st : AS} : st.news [] = st := by
  obtain ⟨a, b, d⟩ := st
  show (⟨a, _, d + 0⟩ : AS) = ⟨a, b, d⟩
  congr 1
  funext j
  show (if d ≤ j ∧ j < d + 0 then _ else b j) = b j
  rw [if_neg (by omega)]
theorem news_cons {st : AS} {o : AO} {os : List AO} : (st.new o).news os = st.news (o :: os) := by
  show (⟨st.loc, _, st.nx + 1 + os.length⟩ : AS) = ⟨st.loc, _, st.nx + (os.length + 1)⟩
  have e : st.nx + 1 + os.length = st.nx + (os.length + 1) := by omega
  rw [e]
  congr 1
  funext j
  show (if st.nx + 1 ≤ j ∧ j < st.nx + 1 + os.length then os[j - (st.nx + 1)]? else if j = st.nx then some o else st.hp j) = (if st.nx ≤ j ∧ j < st.nx + (os.length + 1) then (o :: os)[j - st.nx]? else st.hp j)
  by_cases h : j = st.nx
  · subst h
    rw [if_neg (by omega), if_pos rfl, if_pos (by omega)]; simp
  · by_cases h2 : st.nx + 1 ≤ j ∧ j < st.nx + 1 + os.length
    · rw [if_pos h2, if_pos (by omega)]
      have : j - st.nx = (j - (st.nx + 1)) + 1 := by omega
      rw [this, List.getElem?_cons_succ]
    · rw [if_neg h2, if_neg h, if_neg (by omega)]
def Makes (g : Gl) (c : Cx) (e : Expr) (o : AO) : Prop := (∀ {es : List Expr}, starEach (e :: es) c.env = (false, eval e c.env) :: starEach es c.env) ∧ ∀ {st : AS} {Q : AV → AS → Prop} {X : String → AS → Prop}, Q (.ref st.nx) (st.new o) → EV g c e st Q X
inductive MK (g : Gl) (c : Cx) : List Expr → List AO → Prop
  | nil : MK g c [] []
  | cons {e es o os} : Makes g c e o → MK g c es os → MK g c (e :: es) (o :: os)
theorem ar_mk {c : Cx} {pos : Pos} {es : List Expr} {os : List AO} (h : MK g c es os) : ∀ {st : AS} {Q : List AV → AS → Prop} {X : String → AS → Prop}, Q ((List.range' st.nx os.length).map AV.ref) (st.news os) → Args g c pos es st Q X := by
  induction h with
  | nil => intro st Q X q; rw [news_nil] at q; exact ar_nil q
  | @cons e es o os m _ ih =>
    intro st Q X q
    refine ar_cons (m.2 (ih ?_)) m.1
    rw [news_cons]
    exact q
theorem ev_neg {c : Cx} {st : AS} {Q : AV → AS → Prop} {X : String → AS → Prop} {e : Expr} {pos : Pos} (h : EV g c e st (fun a st' => ∃ i, a = .int i ∧ Q (.int (-i)) st') X) : EV g c (.UnaryOp .USub e pos) st Q X := fun σ s H => by
  refine wpAny_UnaryOp (seq h H fun u s1 a σ1 st1 h1 e1 H1 V1 => ?_)
  obtain ⟨i, rfl, q⟩ := h1
  obtain ⟨t, rfl⟩ := V1
  exact neg_int ⟨_, σ1, st1, q, e1, H1.toks, _, rfl⟩
/-- a scalar written out -/
inductive SC (g : Gl) (c : Cx) : List Expr → List AV → Prop
  | nil : SC g c [] []
  | int {es as i k p} : SC g c es as → SC g c (.Constant (.int i) k p :: es) (.int i :: as)
  | bool {es as i k p} : SC g c es as → SC g c (.Constant (.bool i) k p :: es) (.bool i :: as)
  | neg {es as i k p p'} : SC g c es as → SC g c (.UnaryOp .USub (.Constant (.int i) k p) p' :: es) (.int (-i) :: as)
theorem ar_sc {c : Cx} {pos : Pos} {es : List Expr} {as : List AV} (h : SC g c es as) : ∀ {st : AS} {Q : List AV → AS → Prop} {X : String → AS → Prop}, Q as st → Args g c pos es st Q X := by
  induction h with
  | nil => intro st Q X q; exact ar_nil q
  | int _ ih => intro st Q X q; exact ar_cons (ev_int (ih q)) rfl
  | bool _ ih => intro st Q X q; exact ar_cons (ev_bool (ih q)) rfl
  | neg _ ih => intro st Q X q; exact ar_cons (ev_neg (ev_int ⟨_, rfl, ih q⟩)) rfl
theorem makes_list {c : Cx} {es : List Expr} {as : List AV} {pos : Pos} (h : SC g c es as) (hn : as.length ≤ 1000) : Makes g c (.List es pos) (.list as) := ⟨rfl, fun q => ev_list (ar_sc h ⟨hn, q⟩)⟩
theorem makes_dict {c : Cx} {keys : List (Option Expr)} {values : List Expr} {pos : Pos} {es : List (Str × AV)} (hz : 1 < g.base.objs.size) (h : CP c.env pos keys values es) (hnd : (es.map (·.1)).Nodup) (hlen : keys.length ≤ 15) (hall : keys.all (·.isSome) = true) (hl : keys.length = values.length) :
    Makes g c (.Dict keys values pos) (.dict (es.map fun p => (hashStr g.w p.1, p.1, p.2))) := ⟨rfl, fun q => ev_dictc hz h hnd hlen q hall hl⟩
/-- the thing t of the world w, made -/
def NewT (g : Gl) (w t : Nat) (hp : HP) (a : AV) (hp' : HP) : Prop := ∃ i, a = emT w (i, t) ∧ okT g w hp' (i, t) ∧ (w ≠ 2 → hp i = none) ∧ HP.Le hp hp'
inductive EVw (g : Gl) (c : Cx) (e : Expr) (st : AS) (Q : AV → AS → Prop) (X : String → AS → Prop) : Prop
  | mk : EV g c e st Q X → EVw g c e st Q X
theorem EVw.out {c : Cx} {e : Expr} {st : AS} {Q : AV → AS → Prop} {X : String → AS → Prop} (h : EVw g c e st Q X) : EV g c e st Q X := by cases h; assumption
theorem tup_pick2 {c : Cx} {st : AS} {Q : AV → AS → Prop} {X : String → AS → Prop} {es : List Expr} {as : List AV} {k : Nat} {p pos np : Pos} {x : Str} {t : Nat} (O : c.Ok) (hsc : SC g c es as) (hlen : as.length ≤ 1000) {a : AV} (ha : as[t]? = some a)
    (hb : ∀ j, st.nx ≤ j → st.hp j = none) (hk : st.loc x = some (.int t)) (q : ∀ hp' nx', HP.Le st.hp hp' → Q a ⟨st.loc, hp', nx'⟩) (hs : ∀ y u, subscripted (.Name x np) false (.ref y) (.int t u) = operate [.ref y, .int t u] (getItem (.ref y) (.int t u)))
    {e : Expr} (he : e = .Subscript (.Tuple es k p) (.Name x np) pos) (hl : c.env.kindOf x = some .local) (hd : (x == ("__debug__" : Str)) = false) : EVw g c e st Q X := by
  subst he
  constructor
  have ht : t < as.length := (List.getElem?_eq_some_iff.mp ha).1
  refine ev_sub (ev_tuple (ar_sc hsc ⟨hlen, ev_local O (a := .int t) hk (op_titem (l := st.nx) (vs := as) (if_pos rfl) (by omega) (by rw [Int.toNat_natCast]; exact ha) ?_ (by omega) hs) hl hd⟩))
  exact q _ _ (HP.le_new (hb _ (Nat.le_refl _)))
theorem tup_pick {c : Cx} {st : AS} {Q : AV → AS → Prop} {X : String → AS → Prop} {es : List Expr} {os : List AO} {k : Nat} {p pos np : Pos} {x : Str} {w t : Nat} (O : c.Ok) (hmk : MK g c es os) (hos : os = (List.range 7).map (objT g w)) (hw : w ≠ 2) (ht : t < 7) (hb : ∀ j, st.nx ≤ j → st.hp j = none)
    (hk : st.loc x = some (.int t)) (q : ∀ a hp' nx', NewT g w t st.hp a hp' → Q a ⟨st.loc, hp', nx'⟩) (hs : ∀ y u, subscripted (.Name x np) false (.ref y) (.int t u) = operate [.ref y, .int t u] (getItem (.ref y) (.int t u)))
    {e : Expr} (he : e = .Subscript (.Tuple es k p) (.Name x np) pos) (hl : c.env.kindOf x = some .local) (hd : (x == ("__debug__" : Str)) = false) : EVw g c e st Q X := by
  subst he
  constructor
  have hlen : os.length = 7 := by rw [hos, List.length_map, List.length_range]
  have hget : ∀ j, j < 7 → os[j]? = some (objT g w j) := fun j hj => by
    rw [hos, List.getElem?_map, List.getElem?_range hj]; rfl
  refine ev_sub (ev_tuple (ar_mk hmk ⟨by rw [List.length_map, List.length_range', hlen]; decide, ev_local O (a := .int t) hk (op_titem (a := .ref (st.nx + t)) (if_pos rfl) (by omega) ?_ ?_ (by omega) hs) hl hd⟩))
  · rw [Int.toNat_natCast, List.getElem?_map, List.getElem?_range' (by omega)]; simp
  · refine q _ _ _ ⟨st.nx + t, ?_, ⟨ht, fun _ => ?_⟩, fun _ => hb _ (by omega), fun i o e => ?_⟩
    · unfold emT; rw [if_neg hw]
    · show (if st.nx + t = st.nx + os.length then _ else if st.nx ≤ st.nx + t ∧ st.nx + t < st.nx + os.length then os[st.nx + t - st.nx]? else _) = _
      rw [if_neg (by omega), if_pos (by omega), Nat.add_sub_cancel_left]; exact hget t ht
    · have : i < st.nx := by
        by_cases hi : i < st.nx
        · exact hi
        · rw [hb i (Nat.not_lt.mp hi)] at e; cases e
      show (if i = st.nx + os.length then _ else if st.nx ≤ i ∧ i < st.nx + os.length then _ else st.hp i) = _
      rw [if_neg (by omega), if_neg (by omega)]; exact e
end
end Sx

namespace Sx
section
variable {g : Gl}
theorem th2_all (t : Nat) (ht : t < 7) : [AV.int 0, .bool false, .int 1, .bool true, .int 2, .int 3, .int (-1)][t]? = some (thN t) := by
  match t, ht with
  | 0, _ => rfl | 1, _ => rfl | 2, _ => rfl | 3, _ => rfl | 4, _ => rfl | 5, _ => rfl | 6, _ => rfl
def osL : List AO := [.list [.int 0], .list [.int 1], .list [.bool true], .list [.int 1, .int 2], .list [.int 1, .int 0], .list [], .list [.int 2]]
theorem osL_eq : osL = (List.range 7).map (objT g 0) := by
  rw [show List.range 7 = [0, 1, 2, 3, 4, 5, 6] from by decide]; rfl
def esD : List (List (Str × AV)) := [[], [("a", .int 1)], [("a", .bool true)], [("a", .int 2)], [("b", .int 1)], [("a", .int 1), ("b", .int 2)], [("b", .int 2), ("a", .int 1)]]
def osD (g : Gl) : List AO := [.dict (([] : List (Str × AV)).map fun p => (hashStr g.w p.1, p.1, p.2)), .dict ([(("a" : Str), AV.int 1)].map fun p => (hashStr g.w p.1, p.1, p.2)), .dict ([(("a" : Str), AV.bool true)].map fun p => (hashStr g.w p.1, p.1, p.2)), .dict ([(("a" : Str), AV.int 2)].map fun p => (hashStr g.w p.1, p.1, p.2)),
  .dict ([(("b" : Str), AV.int 1)].map fun p => (hashStr g.w p.1, p.1, p.2)), .dict ([(("a" : Str), AV.int 1), ("b", .int 2)].map fun p => (hashStr g.w p.1, p.1, p.2)), .dict ([(("b" : Str), AV.int 2), ("a", .int 1)].map fun p => (hashStr g.w p.1, p.1, p.2))]
theorem osD_eq : osD g = (List.range 7).map (objT g 1) := by
  rw [show List.range 7 = [0, 1, 2, 3, 4, 5, 6] from by decide]; rfl
set_option maxHeartbeats 400000 in
theorem thing_spec (G : g.Ok) (hg : g.K = HK g.w.params) {hp : HP} {nx w t : Nat} (hw : w < 3) (ht : t < 7) :
    Fn g 2 317 [.int w, .int t] hp nx (fun a hp' nx' => NewT g w t hp a hp') (fun _ _ _ => False) := by
  refine fn_d2 G hg "world" "k" rfl ?body
  intro A L outer outs pins O R hb
  have hz := base_lo G hg
  refine ss_cons (st_if (tr_cmp (ev_local O rfl (ev_int (op_eq (tr1_bool ?_))))))
  have : w = 0 ∨ w = 1 ∨ w = 2 := by omega
  rcases this with rfl | rfl | rfl
  · rw [if_pos (by simp)]
    refine ss_cons ?_
    refine st_ret ?_
    refine EVw.out ?_
    refine tup_pick (os := osL) (w := 0) (t := t) O ?m osL_eq (by decide) ht hb (by rfl) (fun a hp' nx' h => h) (by intro _ _; with_unfolding_all rfl) rfl (by rfl) (by decide)
    case m =>
      unfold osL
      refine .cons (makes_list (.int .nil) (by decide)) ?_
      refine .cons (makes_list (.int .nil) (by decide)) ?_
      refine .cons (makes_list (.bool .nil) (by decide)) ?_
      refine .cons (makes_list (.int (.int .nil)) (by decide)) ?_
      refine .cons (makes_list (.int (.int .nil)) (by decide)) ?_
      refine .cons (makes_list .nil (by decide)) ?_
      exact .cons (makes_list (.int .nil) (by decide)) .nil
  · rw [if_neg (by simp)]
    refine ss_nil (ss_cons (st_if (tr_cmp (ev_local O rfl (ev_int (op_eq (tr1_bool ?_)))))))
    rw [if_pos (by simp)]
    refine ss_cons ?_
    refine st_ret ?_
    refine EVw.out ?_
    refine tup_pick (os := osD g) (w := 1) (t := t) O ?m osD_eq (by decide) ht hb (by rfl) (fun a hp' nx' h => h) (by intro _ _; with_unfolding_all rfl) rfl (by rfl) (by decide)
    case m =>
      unfold osD
      refine .cons (makes_dict hz .nil (by decide) (by decide) rfl rfl) ?_
      refine .cons (makes_dict hz (.int .nil) (by decide) (by decide) rfl rfl) ?_
      refine .cons (makes_dict hz (.bool .nil) (by decide) (by decide) rfl rfl) ?_
      refine .cons (makes_dict hz (.int .nil) (by decide) (by decide) rfl rfl) ?_
      refine .cons (makes_dict hz (.int .nil) (by decide) (by decide) rfl rfl) ?_
      refine .cons (makes_dict hz (.int (.int .nil)) (by decide +kernel) (by decide) rfl rfl) ?_
      exact .cons (makes_dict hz (.int (.int .nil)) (by decide +kernel) (by decide) rfl rfl) .nil
  · rw [if_neg (by simp)]
    refine ss_nil (ss_cons (st_if (tr_cmp (ev_local O rfl (ev_int (op_eq (tr1_bool ?_)))))))
    rw [if_neg (by simp)]
    refine ss_nil ?_
    refine ss_cons ?_
    refine st_ret ?_
    refine EVw.out ?_
    refine tup_pick2 (t := t) O (.int (.bool (.int (.bool (.int (.int (.neg .nil))))))) (by decide) (th2_all t ht) hb (by rfl) ?q (by intro _ _; with_unfolding_all rfl) rfl (by rfl) (by decide)
    case q => exact fun hp' nx' L => ⟨0, by unfold emT; rw [if_pos rfl]; rfl, ⟨ht, fun h => absurd rfl h⟩, fun h => absurd rfl h, L⟩
end
end Sx

namespace Sx
section
variable {g : Gl}
theorem emT_cls {w : Nat} (hw : w < 3) {hp : HP} {x y : Nat × Nat} (hx : okT g w hp x) (hy : okT g w hp y) (h : emT w x = emT w y) : clsT w x.2 = clsT w y.2 := by
  have : w = 0 ∨ w = 1 ∨ w = 2 := by omega
  rcases this with rfl | rfl | rfl
  · have h : AV.ref x.1 = AV.ref y.1 := h
    injection h with h
    have h1 := hx.2 (by decide)
    have h2 := hy.2 (by decide)
    rw [h, h2] at h1
    have h1 : AO.list (thL y.2) = AO.list (thL x.2) := Option.some.inj h1
    injection h1 with h1
    have d : datT 0 x.2 = datT 0 y.2 := by show PyData.list _ = PyData.list _; rw [h1]
    have e := eq_tabL ⟨_, hx.1⟩ ⟨_, hy.1⟩
    have e0 := eq_tabL ⟨_, hy.1⟩ ⟨_, hy.1⟩
    dsimp only at e e0
    rw [d, e0] at e
    simpa using e
  · have h : AV.ref x.1 = AV.ref y.1 := h
    injection h with h
    have h1 := hx.2 (by decide)
    have h2 := hy.2 (by decide)
    rw [h, h2] at h1
    have h1 : AO.dict (thEs g y.2) = AO.dict (thEs g x.2) := Option.some.inj h1
    injection h1 with h1
    have e := dEq_th (g := g) hx.1 hy.1
    have e0 := dEq_th (g := g) hx.1 hx.1
    rw [h1, e0] at e
    simpa using e
  · have h : thN x.2 = thN y.2 := h
    have e := eq_tabN ⟨_, hx.1⟩ ⟨_, hy.1⟩
    dsimp only at e
    rw [h] at e
    simpa using e
theorem eraseIdx_mapL {α β : Type} (f : α → β) : ∀ (l : List α) (k : Nat), (l.map f).eraseIdx k = (l.eraseIdx k).map f
  | [], _ => rfl
  | _ :: _, 0 => rfl
  | a :: l, k + 1 => by
    show f a :: (l.map f).eraseIdx k = f a :: (l.eraseIdx k).map f
    rw [eraseIdx_mapL f l k]
theorem inT {w : Nat} (hw : w < 3) {hp : HP} {vs : List (Nat × Nat)} {x : Nat × Nat} (ho : ∀ y ∈ vs, okT g w hp y) (hx : okT g w hp x) :
    ∃ e : AV → Bool, (∀ y ∈ vs, e (emT w y) = eqK (kT w) y x) ∧ (∀ a ∈ vs.map (emT w), EqD g hp a (emT w x) (e a)) ∧ (vs.map (emT w)).any e = vs.any fun y => eqK (kT w) y x := by
  classical
  have h1 : ∀ y ∈ vs, (vs.any fun z => decide (emT w z = emT w y) && eqK (kT w) z x) = eqK (kT w) y x := fun y hy => by
    cases h : eqK (kT w) y x with
    | true => exact List.any_eq_true.mpr ⟨y, hy, by simp [h]⟩
    | false =>
      rw [List.any_eq_false]
      intro z hz e
      simp only [Bool.and_eq_true, decide_eq_true_eq] at e
      have : kT w z = kT w y := emT_cls hw (ho z hz) (ho y hy) e.1
      have e2 := e.2
      unfold eqK at h e2
      rw [this, h] at e2
      cases e2
  refine ⟨fun a => vs.any fun z => decide (emT w z = a) && eqK (kT w) z x, h1, fun a ha => ?_, ?_⟩
  · obtain ⟨y, hy, rfl⟩ := List.mem_map.mp ha
    show EqD g hp (emT w y) (emT w x) (vs.any fun z => decide (emT w z = emT w y) && eqK (kT w) z x)
    rw [h1 y hy]
    exact @eqdT _ _ _ _ _ hw (ho y hy) hx
  · rw [List.any_map, Bool.eq_iff_iff, List.any_eq_true, List.any_eq_true]
    constructor
    · rintro ⟨y, hy, e⟩; exact ⟨y, hy, (h1 y hy).symm.trans e⟩
    · rintro ⟨y, hy, e⟩; exact ⟨y, hy, (h1 y hy).trans e⟩
section
variable {c : Cx} {st : AS} {Q : AV → AS → Prop} {X : String → AS → Prop} {w l : Nat} {vs : List (Nat × Nat)} {x : Nat × Nat}
theorem op_inT (hw : w < 3) (hl : st.hp l = some (.list (vs.map (emT w)))) (ho : ∀ y ∈ vs, okT g w st.hp y) (hx : okT g w st.hp x) (hu : c.A.units + 20 < cLine) (q : Q (.bool (vs.any fun y => eqK (kT w) y x)) st) : Op2 g c (compareOp .In) (emT w x) (.ref l) st Q X := by
  obtain ⟨e, h1, h2, h3⟩ := inT hw ho hx
  exact op_in_d e hl h2 hu (by rw [h3]; exact q)
theorem op_notinT (hw : w < 3) (hl : st.hp l = some (.list (vs.map (emT w)))) (ho : ∀ y ∈ vs, okT g w st.hp y) (hx : okT g w st.hp x) (hu : c.A.units + 20 < cLine) (q : Q (.bool (!vs.any fun y => eqK (kT w) y x)) st) : Op2 g c (compareOp .NotIn) (emT w x) (.ref l) st Q X := by
  obtain ⟨e, h1, h2, h3⟩ := inT hw ho hx
  exact op_notin_d e hl h2 hu (by rw [h3]; exact q)
theorem indexT (hw : w < 3) (hl : st.hp l = some (.list (vs.map (emT w)))) (ho : ∀ y ∈ vs, okT g w st.hp y) (hx : okT g w st.hp x) (ha : (vs.any fun y => eqK (kT w) y x) = true) (hn : vs.length ≤ 1000) (hu : c.A.units + 20 < cLine) (q : Q (.int (idxK (kT w) vs x)) st) : CallV g c (.builtin "list.index") [.ref l, emT w x] st Q X := by
  obtain ⟨e, h1, h2, h3⟩ := inT hw ho hx
  obtain ⟨k1, k2, k3⟩ := idxK_hit ha
  refine index_d e hl h2 (k := idxK (kT w) vs x) (by simpa using k1) ?_ ?_ (by simpa using hn) hu q
  · rw [List.getElem_map, h1 _ (List.getElem_mem k1)]; exact k2
  · intro i hi lt
    have hi' : i < vs.length := by simpa using hi
    rw [List.getElem_map, h1 _ (List.getElem_mem hi')]; exact k3 i hi' lt
theorem removeT (hw : w < 3) (hl : st.hp l = some (.list (vs.map (emT w)))) (ho : ∀ y ∈ vs, okT g w st.hp y) (hx : okT g w st.hp x) (ha : (vs.any fun y => eqK (kT w) y x) = true) (hn : vs.length ≤ 1000) (hu : c.A.units + 20 < cLine) (q : Q .none (st.put l (.list ((vs.eraseIdx (idxK (kT w) vs x)).map (emT w))))) : CallV g c (.builtin "list.remove") [.ref l, emT w x] st Q X := by
  obtain ⟨e, h1, h2, h3⟩ := inT hw ho hx
  obtain ⟨k1, k2, k3⟩ := idxK_hit ha
  refine remove_d e hl h2 (k := idxK (kT w) vs x) (by simpa using k1) ?_ ?_ (by simpa using hn) hu (by rw [eraseIdx_mapL]; exact q)
  · rw [List.getElem_map, h1 _ (List.getElem_mem k1)]; exact k2
  · intro i hi lt
    have hi' : i < vs.length := by simpa using hi
    rw [List.getElem_map, h1 _ (List.getElem_mem hi')]; exact k3 i hi' lt
end
end
end Sx

namespace Sx
abbrev LcP (g : Gl) (c : Cx) (elt : Expr) (ifs : List Expr) (x : Str) (scope : Scope) (cl : List (Str × Addr)) (cid' : Str → Option Nat) (Fin : List AV → HP → Nat → (Str → Option AV) → Prop) (b : AV) (st2 : AS) : Prop :=
  ∃ (i : Nat) (S : Src) (J : Nat → List AV → HP → Nat → Prop), b = .ref i ∧ st2.hp i = some S.iter ∧ J 0 [] (st2.del i).hp st2.nx ∧ S.len ≤ 1000 ∧ (∀ k ys hp nx, J k ys hp nx → S.Keeps ⟨st2.loc, hp, nx⟩) ∧
      (∀ k v ys hp nx C lm m₀ pins, S.item k = some v → J k ys hp nx → (compCx c scope cl cid' C lm m₀ pins).Ok → CT g (compCx c scope cl cid' C lm m₀ pins) elt ifs ⟨fun y => if y = x then some v else none, hp, nx⟩
        (fun r st3 => J (k + 1) (match r with | some y => ys ++ [y] | none => ys) st3.hp st3.nx)) ∧ ∀ ys hp nx, J S.len ys hp nx → Fin ys hp nx st2.loc
theorem ev_lcx {g : Gl} {c : Cx} {st : AS} {Q : AV → AS → Prop} {X : String → AS → Prop} {pos : Pos} {elt iter : Expr} {x : Str} {px : Pos} {ifs : List Expr} {scope : Scope} {cl : List (Str × Addr)} (cid' : Str → Option Nat) (O : c.Ok) (h0 : c.cd = none) (hh : c.A.handled = none)
    (hclos : closureFor scope c.env = pure cl) (hcid : ∀ y i, cid' y = some i → c.cid y = some i ∧ cl.lookup y = c.env.cells.lookup y)
    (h : EV g c iter st (fun a st1 => PI g c a st1 (LcP g c elt ifs x scope cl cid' fun ys hp nx loc => Q (.ref nx) ((⟨loc, hp, nx⟩ : AS).new (.list ys))) X) X)
    (hcell : ∀ y ∈ scope.names, y.2 ≠ .cell := by decide) (hkind : scope.kind = .function := by rfl) (hnames : ∀ y ∈ scope.names, y.2 = .local → scope.names.lookup y.1 = some .local := by decide) (hx : scope.names.lookup x = some .local := by rfl)
    (hs : ∀ v, foldedSetIterable iter c.env v = pure v := by intro _; rfl) : EV g c (.ListComp elt [⟨.Name x px, iter, ifs, 0⟩] scope pos) st Q X := ev_lc cid' O h0 hh hclos hcid h hcell hkind hnames hx hs
theorem st_assign_lcx {g : Gl} {c : Cx} {st : AS} {X : String → AS → Prop} {pos : Pos} {elt iter : Expr} {x y : Str} {px py spos : Pos} {ifs : List Expr} {scope : Scope} {cl : List (Str × Addr)} {Q : AF → AS → Prop} (cid' : Str → Option Nat) (O : c.Ok) (h0 : c.cd = none) (hh : c.A.handled = none)
    (hclos : closureFor scope c.env = pure cl) (hcid : ∀ y i, cid' y = some i → c.cid y = some i ∧ cl.lookup y = c.env.cells.lookup y)
    (h : EV g c iter st (fun a st1 => PI g c a st1 (LcP g c elt ifs x scope cl cid' fun ys hp nx loc => Q .next (((⟨loc, hp, nx⟩ : AS).new (.list ys)).set y (.ref nx))) X) X)
    (hsw : swapsWith (.ListComp elt [⟨.Name x px, iter, ifs, 0⟩] scope pos) (some (.Name y py)) spos.line c.env = pure true := by rfl)
    (hcell : ∀ y ∈ scope.names, y.2 ≠ .cell := by decide) (hkind : scope.kind = .function := by rfl) (hnames : ∀ y ∈ scope.names, y.2 = .local → scope.names.lookup y.1 = some .local := by decide) (hx : scope.names.lookup x = some .local := by rfl) (hy : c.env.kindOf y = some .local := by rfl)
    (hs : ∀ v, foldedSetIterable iter c.env v = pure v := by intro _; rfl) : ST g c (.Assign [.Name y py] (.ListComp elt [⟨.Name x px, iter, ifs, 0⟩] scope pos) spos) st Q X := st_assign_lc cid' O h0 hh hclos hcid h hsw hcell hkind hnames hx hy hs
theorem pi_lcx {g : Gl} {c : Cx} {st : AS} {X : String → AS → Prop} {β : Type} (em : β → AV) (bs : List β) (out : β → Option AV) {elt : Expr} {ifs : List Expr} {x : Str} {scope : Scope} {cl : List (Str × Addr)} {cid' : Str → Option Nat} {l : Nat} {Fin : List AV → HP → Nat → (Str → Option AV) → Prop}
    (hl : st.hp l = some (.list (bs.map em))) (hn : bs.length ≤ 1000)
    (turn : ∀ b ∈ bs, ∀ C lm m₀ pins, (compCx c scope cl cid' C lm m₀ pins).Ok → CT g (compCx c scope cl cid' C lm m₀ pins) elt ifs ⟨fun y => if y = x then some (em b) else none, st.hp, st.nx + 1⟩ (fun r st3 => r = out b ∧ st3.hp = st.hp ∧ st3.nx = st.nx + 1))
    (done : Fin (bs.filterMap out) st.hp (st.nx + 1) st.loc) : PI g c (.ref l) st (LcP g c elt ifs x scope cl cid' Fin) X := pi_lc em bs out hl hn turn done
theorem filterMap_ifg {α : Type} {bs : List α} {p : α → Bool} {em : α → AV} : bs.filterMap (fun x => if p x then some (em x) else none) = (bs.filter p).map em := by
  induction bs with
  | nil => rfl
  | cons b bs ih =>
    cases q : p b with
    | true => rw [List.filterMap_cons_some (b := em b) (by rw [q]; rfl), List.filter_cons_of_pos q, List.map_cons, ih]
    | false => rw [List.filterMap_cons_none (by rw [q]; rfl), List.filter_cons_of_neg (by rw [q]; decide), ih]
section
variable {g : Gl}
set_option maxHeartbeats 1000000 in
theorem place_spec (G : g.Ok) (hg : g.K = HK g.w.params) {hp : HP} {nx w li : Nat} {vs : List (Nat × Nat)} {x : Nat × Nat} (hw : w < 3) (hl : hp li = some (.list (vs.map (emT w)))) (ho : ∀ y ∈ vs, okT g w hp y) (hx : okT g w hp x) (hn : vs.length ≤ 100) :
    Fn g 5 322 [.int w, .ref li, emT w x] hp nx (fun a hp' nx' => a = .int (fiT w vs x) ∧ HP.Le hp hp') (fun _ _ _ => False) := by
  refine fn_cs G (by rw [hg]; exact rfl) (by rw [hg]; exact rfl) ["world", "items", "x"] ["x"] (fun s us h => by match us, h with | [u1, u2, u3], _ => exact .of_eq rfl) (fun n => rfl) (by decide) rfl rfl rfl rfl ?body
  intro A L outer outs pins O R hb
  have hu : A.units + 30 < cLine := by have := R.units; omega
  have L0 : HP.Le hp (fun j => if j = nx then some (.cell (some (emT w x))) else hp j) := HP.le_new (hb _ (Nat.le_refl _))
  show SS g _ _ ⟨_, fun j => if j = nx then some (AO.cell (some (emT w x))) else hp j, nx + 1⟩ _ _
  have hp0e : ∃ hp0 : HP, hp0 = (fun j => if j = nx then some (AO.cell (some (emT w x))) else hp j) := ⟨_, rfl⟩
  obtain ⟨hp0, hp0e⟩ := hp0e
  have hc : hp0 nx = some (.cell (some (emT w x))) := by rw [hp0e]; exact if_pos rfl
  rw [← hp0e] at L0 ⊢
  clear hp0e
  have hl0 := L0 _ _ hl
  have ho0 : ∀ y ∈ vs, okT g w hp0 y := fun y hy => (TT w hw G hg).le (ho y hy) L0
  have hx0 : okT g w hp0 x := (TT w hw G hg).le hx L0
  refine ss_cons (st_if (tr_cmp (ev_local O rfl (ev_int (op_eq (tr1_bool ?_))))))
  by_cases h1 : w = 1
  · subst h1
    rw [if_pos (by simp)]
    refine ss_cons ?_
    refine st_ret ?_
    refine ev_if ?_
    refine tr_cmp (ev_cell O (i := nx) rfl hc (ev_local O (a := .ref li) rfl (op_inT hw hl0 ho0 hx0 (by show A.units + 20 < cLine; omega) (tr1_bool ?_))))
    rw [fiT_1]
    cases ha : vs.any fun y => eqK (kT 1) y x with
    | true =>
      rw [if_pos rfl]
      refine ev_lmeth G PySem.F.slot_list_index PySem.F.type_list_index (ev_local O (a := .ref li) rfl ⟨_, _, rfl, hl0, ar_cons (ev_cell O (i := nx) rfl hc (ar_nil (indexT hw hl0 ho0 hx0 ha (by omega) (by show A.units + 20 < cLine; omega) ?_)))⟩)
      exact ⟨rfl, L0⟩
    | false =>
      rw [if_neg (by decide)]
      refine ev_len G O (n_len hg) (ar_cons (ev_local O (a := .ref li) rfl (ar_nil (len_l hl0 ?_ (by simp; omega)))))
      refine ⟨?_, L0⟩
      rw [idxK_no ha, List.length_map]; rfl
  · have h2 : w = 0 ∨ w = 2 := by omega
    rw [if_neg (by simp; omega)]
    refine ss_nil ?_
    refine ss_cons ?_
    refine st_ret ?_
    refine ev_len G O (n_len hg) ?_
    refine ar_cons ?_
    refine ev_lcx (fun y => ([("x" : Str)].zipIdx nx).lookup y) O rfl R.handled rfl (fun y i e => ⟨e, rfl⟩) ?_
    refine ev_local O (a := .ref li) rfl ?_
    refine pi_fresh fun hb2 => ?_
    refine pi_lcx (emT w) vs (fun y => if decide (kT w y < kT w x) then some (emT w y) else none) hl0 (by omega) ?_ ?_
    · intro y hy C lm m₀ pins2 Oc
      refine tr_cmp (ev_local Oc rfl (ev_cell Oc (i := nx) rfl hc (op_lt_d (ltdT h2 (ho0 y hy) hx0) (by show A.units + 10 < cLine; omega) (tr1_bool ?_))))
      cases hP : decide (kT w y < kT w x) with
      | true =>
        rw [if_pos rfl]
        exact ev_local Oc rfl ⟨by rw [if_pos rfl], rfl, rfl⟩
      | false =>
        rw [if_neg (by decide)]
        exact ⟨by rw [if_neg (by decide)], rfl, rfl⟩
    · rw [filterMap_ifg]
      refine ar_nil (len_l (if_pos rfl) ?_ ?_)
      · refine ⟨?_, L0.trans (HP.le_new (hb2 _ (Nat.le_succ _)))⟩
        rw [fiT_n h1, List.length_map]; rfl
      · rw [List.length_map]
        have := List.length_filter_le (fun y => decide (kT w y < kT w x)) vs
        omega
theorem n_thing (hg : g.K = HK g.w.params) : nsIn g.K mainGlobals "_law_thing" = some (some (.ref 317)) := by rw [hg]; rfl
theorem n_place (hg : g.K = HK g.w.params) : nsIn g.K mainGlobals "_law_place" = some (some (.ref 322)) := by rw [hg]; rfl
theorem n_add (hg : g.K = HK g.w.params) : nsIn g.K mainGlobals "_law_add" = some (some (.ref 329)) := by rw [hg]; rfl
theorem n_same (hg : g.K = HK g.w.params) : nsIn g.K mainGlobals "_law_same" = some (some (.ref 336)) := by rw [hg]; rfl
theorem k_thing (hg : g.K = HK g.w.params) : keepIn g.K (.ref 317) = true := by rw [hg]; rfl
theorem k_place (hg : g.K = HK g.w.params) : keepIn g.K (.ref 322) = true := by rw [hg]; rfl
theorem k_add (hg : g.K = HK g.w.params) : keepIn g.K (.ref 329) = true := by rw [hg]; rfl
theorem k_same (hg : g.K = HK g.w.params) : keepIn g.K (.ref 336) = true := by rw [hg]; rfl
/-- all but one object stand -/
def HP.Bt (l : Nat) (hp hp' : HP) : Prop := ∀ i o, i ≠ l → hp i = some o → hp' i = some o
theorem HP.Le.bt {l : Nat} {hp hp' : HP} (h : HP.Le hp hp') : HP.Bt l hp hp' := fun i o _ e => h i o e
theorem HP.Bt.trans {l : Nat} {a b c : HP} (h : HP.Bt l a b) (k : HP.Bt l b c) : HP.Bt l a c := fun i o n e => k i o n (h i o n e)
theorem HP.bt_put {l : Nat} {hp : HP} {o : AO} : HP.Bt l hp (HP.put hp l o) := fun i x n e => (HP.put_ne n).trans e
theorem okT.bt {w l : Nat} {hp hp' : HP} {x : Nat × Nat} (h : okT g w hp x) (k : HP.Bt l hp hp') (n : w ≠ 2 → x.1 ≠ l) : okT g w hp' x := ⟨h.1, fun e => k _ _ (n e) (h.2 e)⟩
set_option maxHeartbeats 1000000 in
theorem addl_spec (G : g.Ok) (hg : g.K = HK g.w.params) {hp : HP} {nx w li : Nat} {vs : List (Nat × Nat)} {x : Nat × Nat} (hw : w < 3) (hl : hp li = some (.list (vs.map (emT w)))) (ho : ∀ y ∈ vs, okT g w hp y) (hx : okT g w hp x) (hgd : goodT w vs) :
    Fn g 8 329 [.int w, .ref li, emT w x] hp nx (fun a hp' nx' => a = .none ∧ hp' li = some (.list ((addOf (fiT w) (eqK (kT w)) vs x).map (emT w))) ∧ HP.Bt li hp hp') (fun _ _ _ => False) := by
  have hn := hgd.len
  refine fn_of G (by rw [hg]; exact rfl) (by rw [hg]; exact rfl) ["world", "items", "x"] (fun s us h => by match us, h with | [u1, u2, u3], _ => exact .of_eq rfl) rfl (by decide) rfl rfl rfl ?body
  intro A L outer outs pins O R hb
  have hu : A.units + 30 < cLine := by have := R.units; omega
  refine ss_cons (st_if (tr_cmp (ev_local O (a := emT w x) rfl (ev_local O (a := .ref li) rfl (op_notinT hw hl ho hx (by show A.units + 20 < cLine; omega) (tr1_bool ?_))))))
  rw [addT_eq hgd]
  cases ha : vs.any fun y => eqK (kT w) y x with
  | true =>
    rw [if_neg (by decide), if_pos rfl]
    exact ss_nil (ss_nil ⟨rfl, hl, HP.Le.refl.bt⟩)
  | false =>
    rw [if_pos (by decide), if_neg (by decide)]
    refine ss_cons ?_
    refine st_expr ?_
    refine ev_lmeth G PySem.F.slot_list_insert PySem.F.type_list_insert ?_
    refine ev_local O (a := .ref li) rfl ?_
    refine ⟨_, _, rfl, hl, ?_⟩
    refine ar_cons ?_
    refine ev_call G (ev_glob G O (n_place hg) ⟨rfl, ?_⟩) (keep_K (k_place hg))
    refine ar_cons (ev_local O rfl ?_)
    refine ar_cons (ev_local O (a := .ref li) rfl ?_)
    refine ar_cons (ev_local O (a := emT w x) rfl ?_)
    refine ar_nil (call_f O (R.less (by omega) : Room A 5) ((place_spec G hg hw hl ho hx (by omega)).mono ?_ fun _ _ _ h => h.elim))
    rintro a hp1 nx1 ⟨rfl, L1⟩
    refine ar_cons (ev_local O (a := emT w x) rfl (ar_nil (insert_l (L1 _ _ hl) (by simpa using fiT_le) ?_ (by simp; omega))))
    refine ss_nil (ss_nil ⟨rfl, ?_, ?_⟩)
    · refine HP.put_eq.trans ?_
      unfold insAt
      rw [List.map_append, List.map_cons, List.map_take, List.map_drop]
    · exact L1.bt.trans HP.bt_put
end
end Sx

namespace Sx
section
variable {g : Gl}
theorem show_all (w : Nat) (hw : w < 3) (t : Nat) (ht : t < 7) : (datT w t).showable = true ∧ (datT w t).depth ≤ 3 ∧ (datT w t).shown.length ≤ 20 := by
  have : w = 0 ∨ w = 1 ∨ w = 2 := by omega
  rcases this with rfl | rfl | rfl
  · have h := show_tab0 ⟨t, ht⟩; exact ⟨h.1, h.2.1, h.2.2.1⟩
  · exact show_tab1 ⟨t, ht⟩
  · have h := show_tab2 ⟨t, ht⟩; exact ⟨h.1, h.2.1, h.2.2.1⟩
theorem d1sT {w : Nat} {hp : HP} (hw : w < 3) : ∀ {vs : List (Nat × Nat)}, (∀ y ∈ vs, okT g w hp y) → D1s hp (vs.map (emT w)) (vs.map fun y => datT w y.2)
  | [], _ => rfl
  | y :: vs, h => ⟨_, _, rfl, okT_d1 hw (h y (.head _)), d1sT hw fun z hz => h z (.tail _ hz)⟩
theorem showsT {w : Nat} {hp : HP} (hw : w < 3) : ∀ {vs : List (Nat × Nat)}, (∀ y ∈ vs, okT g w hp y) → PyData.showableAll (vs.map fun y => datT w y.2) = true ∧ PyData.depthAll (vs.map fun y => datT w y.2) ≤ 3 ∧ ((PyData.shownAll (vs.map fun y => datT w y.2)).map (·.length)).sum ≤ 20 * vs.length ∧ (PyData.shownAll (vs.map fun y => datT w y.2)).length = vs.length
  | [], _ => ⟨rfl, Nat.zero_le _, Nat.le_refl _, rfl⟩
  | y :: vs, h => by
    obtain ⟨a1, a2, a3⟩ := show_all w hw y.2 (h y (.head _)).1
    obtain ⟨b1, b2, b3, b4⟩ := showsT (w := w) hw fun z hz => h z (.tail _ hz)
    refine ⟨?_, ?_, ?_, ?_⟩
    · show ((datT w y.2).showable && PyData.showableAll (vs.map fun y => datT w y.2)) = true
      rw [a1, b1]; rfl
    · show max (datT w y.2).depth (PyData.depthAll (vs.map fun y => datT w y.2)) ≤ 3
      omega
    · show (datT w y.2).shown.length + ((PyData.shownAll (vs.map fun y => datT w y.2)).map (·.length)).sum ≤ 20 * (vs.length + 1)
      omega
    · show (PyData.shownAll (vs.map fun y => datT w y.2)).length + 1 = vs.length + 1
      omega
theorem noDictT {w : Nat} {hp : HP} (hw : w = 0 ∨ w = 2) : ∀ {vs : List (Nat × Nat)}, (∀ y ∈ vs, okT g w hp y) → PyData.hasDictAll (vs.map fun y => datT w y.2) = false
  | [], _ => rfl
  | y :: vs, h => by
    have a : (datT w y.2).hasDict = false := by
      rcases hw with rfl | rfl
      · exact (show_tab0 ⟨_, (h y (.head _)).1⟩).2.2.2
      · exact (show_tab2 ⟨_, (h y (.head _)).1⟩).2.2.2
    show ((datT w y.2).hasDict || PyData.hasDictAll (vs.map fun y => datT w y.2)) = false
    rw [a, noDictT hw fun z hz => h z (.tail _ hz)]; rfl
theorem dictsT {vs : List (Nat × Nat)} : ∀ d ∈ (vs.map fun y => datT 1 y.2), ∃ es, d = .dict es := fun d hd => by
  obtain ⟨y, _, rfl⟩ := List.mem_map.mp hd
  exact ⟨_, rfl⟩
/-- the text of the things -/
def txtT (w : Nat) (vs : List (Nat × Nat)) : Str := listText (PyData.shownAll (vs.map fun y => datT w y.2))
theorem repr_T {c : Cx} {st : AS} {Q : AV → AS → Prop} {X : String → AS → Prop} {w l : Nat} {vs : List (Nat × Nat)} (hw : w < 3) (hg : c.A.guards = some []) (hu : c.A.units + 20 < cLine) (hl : st.hp l = some (.list (vs.map (emT w)))) (ho : ∀ y ∈ vs, okT g w st.hp y) (hn : vs.length ≤ 100) (q : Q (.str (txtT w vs)) st) : CallV g c (.builtin "repr") [.ref l] st Q X := by
  obtain ⟨b1, b2, b3, b4⟩ := showsT (g := g) hw ho
  refine call_repr_l hg hu hl (d1sT hw ho) b1 ?_ b2 ?_ q
  · have : w = 0 ∨ w = 1 ∨ w = 2 := by omega
    rcases this with rfl | rfl | rfl
    · exact .inr (noDictT (.inl rfl) ho)
    · exact .inl dictsT
    · exact .inr (noDictT (.inr rfl) ho)
  · have := listText_len_le (PyData.shownAll (vs.map fun y => datT w y.2))
    have e : sizeLine = 16777216 := rfl
    omega
/-- a set made into a list -/
theorem list_setT {α : Type} {T : Th g α} {c : Cx} {st : AS} {s d l : Nat} {vs : List α} {Q : AV → AS → Prop} {X : String → AS → Prop} (G : g.Ok) (hg : g.K = HK g.w.params) (O : c.Ok) (R : Room c.A 8) (S : IsSet T st.hp s d l vs)
    (q : ∀ t hp' nx', st.hp t = none → hp' t = some (.list (vs.map T.em)) → HP.Le st.hp hp' → Q (.ref t) ⟨st.loc, hp', nx'⟩) : CallV g c (.type "list") [.ref s] st Q X := by
  have h8 := S.len
  refine callv_fresh fun hb => ?_
  have L1 : HP.Le st.hp (fun j => if j = st.nx then some (.list []) else st.hp j) := HP.le_new (hb _ (Nat.le_refl _))
  have S1 := S.le L1
  have h1 : (fun j => if j = st.nx then some (AO.list []) else st.hp j) (st.nx + 1) = none := by
    show (if st.nx + 1 = st.nx then _ else st.hp (st.nx + 1)) = none
    rw [if_neg (by omega)]; exact hb _ (by omega)
  have L2 : HP.Le (fun j => if j = st.nx then some (.list []) else st.hp j) (fun j => if j = st.nx + 1 then some (.iter false l 0) else if j = st.nx then some (.list []) else st.hp j) := HP.le_new (hp := fun j => if j = st.nx then some (.list []) else st.hp j) h1
  have S2 := S1.le L2
  refine list_own G O R.handled S.hi S.hd (m_len hg).find (m_len hg).fn S.hl (by simp; omega) (pi_set G hg O.one.one (R.one.one.less (by omega)) S1 ⟨rfl, rfl⟩) (len_set G hg O.one.one (R.one.one.less (by omega)) S2 ⟨⟨_, rfl, by omega, by omega⟩, rfl⟩) ?_
  exact q _ _ _ (hb _ (Nat.le_refl _)) (if_pos rfl) (HP.le_new (hb _ (Nat.le_refl _)))
theorem n_repr (hg : g.K = HK g.w.params) : nsIn g.K mainGlobals "repr" = some none := by rw [hg]; rfl
set_option maxHeartbeats 1000000 in
theorem same_spec (G : g.Ok) (hg : g.K = HK g.w.params) {hp : HP} {nx w s d l li : Nat} {vs : List (Nat × Nat)} (hw : w < 3) (S : IsSet (TT w hw G hg) hp s d l vs) (hl : hp li = some (.list (vs.map (emT w)))) :
    Fn g 12 336 [.ref s, .ref li] hp nx (fun a hp' nx' => a = .bool true ∧ HP.Le hp hp') (fun _ _ _ => False) := by
  have hn := S.len
  refine fn_d2 G hg "told" "items" rfl ?body
  intro A L outer outs pins O R hb
  have hu : A.units + 20 < cLine := by have := R.units; omega
  refine ss_cons ?_
  refine st_ret ?_
  refine ev_cmp ?_
  refine ev_call G (ev_bltn G O (n_repr hg) rfl ⟨rfl, ?_⟩) keep_builtin
  refine ar_cons ?_
  refine ev_call G (ev_bltn G O (n_list hg) rfl ⟨rfl, ?_⟩) keep_type
  refine ar_cons (ev_local O (a := .ref s) rfl ?_)
  refine ar_nil (list_setT G hg O (R.less (by omega)) S fun t hp1 nx1 n1 ht L1 => ?_)
  have h1 : ∀ y ∈ vs, okT g w hp1 y := fun y hy => (TT w hw G hg).le (S.ok y hy) L1
  refine ar_nil (repr_T hw R.guards hu ht h1 hn ?_)
  refine ev_call G (ev_bltn G O (n_repr hg) rfl ⟨rfl, ?_⟩) keep_builtin
  refine ar_cons (ev_local O (a := .ref li) rfl ?_)
  refine ar_nil (repr_T hw R.guards hu (L1 _ _ hl) h1 hn ?_)
  exact op_eqs ⟨by simp [retOf], L1⟩
end
end Sx

namespace Sx
section
variable {g : Gl}
def fineD : PyData → Bool
  | .int i => decide (i.natAbs < 10)
  | .none => false
  | .str _ => false
  | _ => true
theorem fine_tab0 : ∀ a : Fin 7, fineD (datT 0 a) = true := by decide +kernel
theorem fine_tab1 : ∀ a : Fin 7, fineD (datT 1 a) = true := by decide +kernel
theorem fine_tab2 : ∀ a : Fin 7, fineD (datT 2 a) = true := by decide +kernel
theorem fineT (w : Nat) (hw : w < 3) (t : Nat) (ht : t < 7) : fineD (datT w t) = true := by
  have : w = 0 ∨ w = 1 ∨ w = 2 := by omega
  rcases this with rfl | rfl | rfl
  · exact fine_tab0 ⟨t, ht⟩
  · exact fine_tab1 ⟨t, ht⟩
  · exact fine_tab2 ⟨t, ht⟩
theorem op_modT {c : Cx} {st : AS} {Q : AV → AS → Prop} {X : String → AS → Prop} {f : Str} {w : Nat} {x : Nat × Nat} (hf : f = Str.mk #[37, 114]) (hw : w < 3) (hx : okT g w st.hp x) (hg : c.A.guards = some []) (hu : c.A.units + 20 < cLine) (q : ∀ y, Q (.str y) st) : Op2 g c (binaryOp .Mod) (.str f) (emT w x) st Q X := by
  obtain ⟨a1, a2, a3⟩ := show_all w hw x.2 hx.1
  have hfi := fineT w hw x.2 hx.1
  refine op_modr hf hg hu (okT_d1 hw hx) a1 a2 ?_ (by omega) ?_ ?_ ?_ q
  · intro i e
    rw [e] at hfi
    have h : i.natAbs < 10 := of_decide_eq_true hfi
    have := Nat.log2_le_self i.natAbs
    omega
  · intro e; rw [e] at hfi; cases hfi
  · intro y e; rw [e] at hfi; cases hfi
  · have : w = 0 ∨ w = 1 ∨ w = 2 := by omega
    rcases this with rfl | rfl | rfl
    · exact .inr (show_tab0 ⟨_, hx.1⟩).2.2.2
    · exact .inl ⟨_, rfl⟩
    · exact .inr (show_tab2 ⟨_, hx.1⟩).2.2.2
theorem m_pop (hg : g.K = HK g.w.params) : Meth g "pop" 247 := by constructor <;> rw [hg] <;> rfl
theorem m_remove (hg : g.K = HK g.w.params) : Meth g "remove" 254 := by constructor <;> rw [hg] <;> rfl
set_option maxHeartbeats 1000000 in
theorem pop_spec {α : Type} {T : Th g α} (G : g.Ok) (hg : g.K = HK g.w.params) {hp : HP} {nx s d l : Nat} {vs : List α} (S : IsSet T hp s d l vs) :
    Fn g 8 247 [.ref s] hp nx (fun a hp' nx' => ∃ us y, vs = us ++ [y] ∧ a = T.em y ∧ hp' = HP.put hp l (.list (us.map T.em))) (fun cls hp' _ => cls = "KeyError" ∧ vs = [] ∧ HP.Le hp hp') := by
  have hn := S.len
  refine fn_of G (by rw [hg]; exact rfl) (by rw [hg]; exact rfl) ["self"] (fun s us h => by match us, h with | [u1], _ => exact .of_eq rfl) rfl (by decide) rfl rfl rfl ?body
  intro A L outer outs pins O R hb
  have K := cls_ok hg
  refine ss_cons (st_if (tr_not (tr_val (ev_items G K (ev_local O rfl ⟨_, _, _, rfl, S.hi, S.hd, tr1_list S.hl ?_ (by simp; omega)⟩)))))
  rcases List.eq_nil_or_concat vs with rfl | ⟨us, y, e⟩
  · rw [if_pos (by rfl)]
    refine ss_cons ?_
    refine st_raiseK G O R.handled (n_KE hg) rfl ?_
    exact ev_str ⟨rfl, rfl, .refl⟩
  · have e : vs = us ++ [y] := by rw [e, List.concat_eq_append]
    subst e
    rw [if_neg (by simp)]
    refine ss_nil (ss_cons ?_)
    refine st_ret ?_
    refine ev_lmeth G PySem.F.slot_list_pop PySem.F.type_list_pop ?_
    refine ev_items G K (ev_local O rfl ⟨_, _, _, rfl, S.hi, S.hd, ?_⟩)
    have hl : hp l = some (.list (us.map T.em ++ [T.em y])) := by rw [S.hl, List.map_append]; rfl
    refine ⟨_, _, rfl, hl, ar_nil (pop_l hl (by simp at hn ⊢; omega) ?_)⟩
    exact ⟨us, y, rfl, rfl, rfl⟩
set_option maxHeartbeats 2000000 in
theorem remove_spec (G : g.Ok) (hg : g.K = HK g.w.params) {hp : HP} {nx w s d l : Nat} {vs : List (Nat × Nat)} {x : Nat × Nat} (hw : w < 3) (S : IsSet (TT w hw G hg) hp s d l vs) (hx : okT g w hp x) :
    Fn g 20 254 [.ref s, emT w x] hp nx (fun a hp' nx' => (vs.any fun y => eqK (kT w) y x) = true ∧ hp' = HP.put hp l (.list ((vs.eraseIdx (fiT w vs x)).map (emT w)))) (fun cls hp' _ => cls = "KeyError" ∧ (vs.any fun y => eqK (kT w) y x) = false ∧ HP.Le hp hp') := by
  have hn := S.len
  refine fn_d2 G hg "self" "item" rfl ?body
  intro A L outer outs pins O R hb
  have hu : A.units + 20 < cLine := by have := R.units; omega
  have K := cls_ok hg
  have hm := memT_eq (x := x) S.good
  refine ss_cons (st_assign (ev_m G K (m_fi hg) (ev_local O rfl ⟨_, _, _, rfl, S.hi, S.hd, ar_cons (ev_local O (a := emT w x) rfl (ar_nil (call_f O (R.less (show 8 ≤ 19 by decide) : Room A (TT w hw G hg).d) (((TT w hw G hg).fiOk (x := x) S.hi S.hd S.hl S.good S.ok hx).mono ?_ fun _ _ _ h => h.elim))))⟩)))
  rintro a hp' nx' ⟨rfl, rfl, rfl⟩
  refine sn_local O rfl ?_
  refine ss_cons (st_if (tr_cmp (ev_local O rfl (ev_len G O (n_len hg) (ar_cons (ev_items G K (ev_local O rfl ⟨_, _, _, rfl, S.hi, S.hd, ar_nil (len_l S.hl (op_lt (tr1_bool ?_)) (by simp; omega))⟩)))))))
  by_cases hlt : fiT w vs x < vs.length
  · rw [List.getElem?_eq_getElem hlt] at hm
    have hm : eqK (kT w) vs[fiT w vs x] x = _ := hm
    rw [if_pos (by show decide (((fiT w vs x : Nat) : Int) < (((vs.map (emT w)).length : Nat) : Int)) = true; simp; omega)]
    refine ss_cons ?_
    refine st_if ?_
    refine tr_cmp (ev_sub (ev_items G K (ev_local O rfl ⟨_, _, _, rfl, S.hi, S.hd, ?_⟩)))
    refine ev_local O (a := .int (fiT w vs x)) rfl (op_item (a := emT w vs[fiT w vs x]) S.hl (by omega) ?_ ?_ (by omega))
    · rw [Int.toNat_natCast, List.getElem?_map, List.getElem?_eq_getElem hlt]; rfl
    refine ev_local O (a := emT w x) rfl ((TT w hw G hg).eqOk (S.ok _ (List.getElem_mem _)) hx O (R.less (by omega)) (tr1_bool ?_))
    have hm' : (TT w hw G hg).eq vs[fiT w vs x] x = _ := hm
    rw [hm']
    cases ha : vs.any fun y => eqK (kT w) y x with
    | true =>
      rw [if_pos rfl]
      refine ss_cons ?_
      refine st_expr ?_
      refine ev_lmeth G PySem.F.slot_list_pop PySem.F.type_list_pop ?_
      refine ev_items G K (ev_local O rfl ⟨_, _, _, rfl, S.hi, S.hd, ?_⟩)
      refine ⟨_, _, rfl, S.hl, ?_⟩
      refine ar_cons (ev_local O (a := .int (fiT w vs x)) rfl ?_)
      refine ar_nil (popAt_l S.hl (by simpa using hlt) (by simp; omega) ?_)
      refine ss_cons ?_
      refine st_ret0 ?_
      refine ⟨rfl, ?_⟩
      rw [eraseIdx_mapL]; rfl
    | false =>
      rw [if_neg (by decide)]
      refine ss_nil (ss_nil ?_)
      refine ss_cons ?_
      refine st_raiseK G O R.handled (n_KE hg) rfl ?_
      refine ev_binop (ev_str (ev_local O (a := emT w x) rfl (op_modT (by decide +kernel) hw hx R.guards hu fun y => ?_)))
      exact ⟨rfl, rfl, .refl⟩
  · rw [List.getElem?_eq_none (by omega)] at hm
    have hm : false = _ := hm
    rw [if_neg (by show ¬ decide (((fiT w vs x : Nat) : Int) < (((vs.map (emT w)).length : Nat) : Int)) = true; simp; omega)]
    refine ss_nil ?_
    refine ss_cons ?_
    refine st_raiseK G O R.handled (n_KE hg) rfl ?_
    refine ev_binop (ev_str (ev_local O (a := emT w x) rfl (op_modT (by decide +kernel) hw hx R.guards hu fun y => ?_)))
    exact ⟨rfl, hm.symm, .refl⟩
end
end Sx

namespace Sx
def bodyOf : Option Obj → List Stmt
  | some ⟨_, _, .func fd, _⟩ => (match fd.body with | .stmts b => b | _ => [])
  | _ => []
def scopeOf : Option Obj → Scope
  | some ⟨_, _, .func fd, _⟩ => fd.scope
  | _ => { kind := .function, names := [], isGenerator := false, isCoroutine := false }
theorem conc {P : List Stmt → Scope → Prop} {o : Option Obj} {oc : Value} {od : Option Addr} {osl : Array (Option Value)} {name qual : Str} {params : Arguments} {body : List Stmt} {scope : Scope} {dV kV doc pm cdv ct : Value} {an : Option Addr}
    (hK : o = some ⟨oc, od, .func (fnOf name qual params body scope dV kV doc pm an cdv ct), osl⟩) (h : P body scope) : P (bodyOf o) (scopeOf o) := by subst hK; exact h
abbrev cidL : Str → Option Nat := fun y => ([("script" : Str), "world", "others"].zipIdx 0).lookup y
abbrev cxL (sc : Scope) (f : Addr) (cdv : Value) (A : Around) (L : Addr) (outer : List Env) (outs : List (Addr × (Str → Option Value))) (pins : List (Addr × Obj)) : Cx := mkC "law" sc f cdv (cellsFrom (L + 1) sc.names []) cidL A L outer outs pins
noncomputable abbrev lawO (g : Gl) : Option Obj := (HK g.w.params).lookup 341
def forBody : List Stmt → List Stmt
  | .For _ _ b _ _ :: _ => b
  | _ => []
def ifThen : List Stmt → List Stmt
  | .If _ b _ _ :: _ => b
  | _ => []
def ifElse : List Stmt → List Stmt
  | .If _ _ o _ :: _ => o
  | _ => []
/-- the part p of the law's text -/
def PartSS (g : Gl) (p : List Stmt → List Stmt) (f : Addr) (cdv : Value) (A : Around) (L : Addr) (outer : List Env) (outs : List (Addr × (Str → Option Value))) (pins : List (Addr × Obj)) (st : AS) (Q : AF → AS → Prop) : Prop :=
  (cxL (scopeOf (lawO g)) f cdv A L outer outs pins).Ok → SS g (cxL (scopeOf (lawO g)) f cdv A L outer outs pins) (p (bodyOf (lawO g))) st Q (fun _ _ => False)
section
variable {g : Gl}
/-- the set holds vs, the list us -/
structure InvP (w : Nat) (hw : w < 3) (G : g.Ok) (hg : g.K = HK g.w.params) (N : List Int) (ln s d l li : Nat) (hp : HP) (vs us : List (Nat × Nat)) : Prop where
  n : hp ln = some (.list (N.map .int))
  c1 : hp 1 = some (.cell (some (.int w)))
  c2 : ∃ o, hp 2 = some (.cell o)
  S : IsSet (TT w hw G hg) hp s d l vs
  I : hp li = some (.list (us.map (emT w)))
  ll : li ≠ l
  nl : ln ≠ l ∧ ln ≠ li
  ap : ∀ y ∈ vs, w ≠ 2 → y.1 ≠ li
  ou : ∀ y ∈ us, okT g w hp y
  au : ∀ y ∈ us, w ≠ 2 → y.1 ≠ l ∧ y.1 ≠ li
section
variable {w : Nat} {hw : w < 3} {G : g.Ok} {hg : g.K = HK g.w.params} {N : List Int} {ln s d l li : Nat} {hp hp' : HP} {vs us vs' us' : List (Nat × Nat)}
theorem InvP.le (P : InvP w hw G hg N ln s d l li hp vs us) (L : HP.Le hp hp') : InvP w hw G hg N ln s d l li hp' vs us :=
  ⟨L _ _ P.n, L _ _ P.c1, P.c2.imp fun _ h => L _ _ h, P.S.le L, L _ _ P.I, P.ll, P.nl, P.ap, fun y hy => (TT w hw G hg).le (P.ou y hy) L, P.au⟩
theorem InvP.setL (P : InvP w hw G hg N ln s d l li hp vs us) (B : HP.Bt l hp hp') (h : hp' l = some (.list (vs'.map (emT w)))) (gd : goodT w vs') (ok : ∀ y ∈ vs', okT g w hp y) (ap : ∀ y ∈ vs', w ≠ 2 → y.1 ≠ l ∧ y.1 ≠ li) : InvP w hw G hg N ln s d l li hp' vs' us :=
  ⟨B _ _ P.nl.1 P.n, B _ _ (fun e => by have := P.c1; rw [e, P.S.hl] at this; cases this) P.c1, P.c2.imp fun _ h => B _ _ (fun e => by rw [e, P.S.hl] at h; cases h) h,
    ⟨B _ _ P.S.sl P.S.hi, B _ _ P.S.dl P.S.hd, h, gd, fun y hy => (ok y hy).bt B fun n => (ap y hy n).1, fun y hy u => (ap y hy u.1).1 u.2.symm⟩,
    B _ _ P.ll P.I, P.ll, P.nl, fun y hy n => (ap y hy n).2, fun y hy => (P.ou y hy).bt B fun n => (P.au y hy n).1, P.au⟩
theorem InvP.setI (P : InvP w hw G hg N ln s d l li hp vs us) (B : HP.Bt li hp hp') (h : hp' li = some (.list (us'.map (emT w)))) (ok : ∀ y ∈ us', okT g w hp y) (ap : ∀ y ∈ us', w ≠ 2 → y.1 ≠ l ∧ y.1 ≠ li) : InvP w hw G hg N ln s d l li hp' vs us' :=
  ⟨B _ _ P.nl.2 P.n, B _ _ (fun e => by have := P.c1; rw [e, P.I] at this; cases this) P.c1, P.c2.imp fun _ h => B _ _ (fun e => by rw [e, P.I] at h; cases h) h,
    ⟨B _ _ (fun e => by have := P.S.hi; rw [e, P.I] at this; cases this) P.S.hi, B _ _ (fun e => by have := P.S.hd; rw [e, P.I] at this; cases this) P.S.hd, B _ _ P.ll.symm P.S.hl, P.S.good, fun y hy => (P.S.ok y hy : okT g w hp y).bt B (P.ap y hy), P.S.apart⟩,
    h, P.ll, P.nl, P.ap, fun y hy => (ok y hy).bt B fun n => (ap y hy n).2, ap⟩
theorem InvP.apV (P : InvP w hw G hg N ln s d l li hp vs us) : ∀ y ∈ vs, w ≠ 2 → y.1 ≠ l ∧ y.1 ≠ li := fun y hy n => ⟨fun e => P.S.apart y hy ⟨n, e.symm⟩, P.ap y hy n⟩
end
variable {f : Addr} {cdv : Value} {A : Around} {L : Addr} {outer : List Env} {outs : List (Addr × (Str → Option Value))} {pins : List (Addr × Obj)}
theorem op_neb {c : Cx} {st : AS} {Q : AV → AS → Prop} {X : String → AS → Prop} {a b : Bool} (q : Q (.bool (a != b)) st) : Op2 g c (compareOp .NotEq) (.bool a) (.bool b) st Q X := fun σ s u v H e1 e2 => by cases e1; cases e2; exact ne_bool (here q H rfl)
/-- a thing that stands by itself -/
structure XT (w : Nat) (hp : HP) (l li : Nat) (x : Nat × Nat) : Prop where
  ok : okT g w hp x
  ap : w ≠ 2 → x.1 ≠ l ∧ x.1 ≠ li
abbrev pTurn : List Stmt → List Stmt := fun b => (forBody (b.drop 4)).drop 1
set_option maxHeartbeats 2000000 in
theorem br0 {w : Nat} {hw : w < 3} {G : g.Ok} {hg : g.K = HK g.w.params} {N : List Int} {ln s d l li nx : Nat} {loc : Str → Option AV} {hp : HP} {vs : List (Nat × Nat)} {x : Nat × Nat} {Q : AF → AS → Prop} (R : Room A 60) (h1 : loc "s" = some (.ref s)) (h2 : loc "items" = some (.ref li)) (h3 : loc "x" = some (emT w x)) (P : InvP w hw G hg N ln s d l li hp vs vs) (hx : XT (g := g) w hp l li x)
    (q : ∀ hp' nx' vs', InvP w hw G hg N ln s d l li hp' vs' vs' → Q .next ⟨loc, hp', nx'⟩) :
    PartSS g (fun b => ifThen (pTurn b)) f cdv A L outer outs pins ⟨loc, hp, nx⟩ Q := by
  unfold PartSS
  refine conc (P := fun b sc => (cxL sc f cdv A L outer outs pins).Ok → SS g (cxL sc f cdv A L outer outs pins) (ifThen (pTurn b)) ⟨loc, hp, nx⟩ Q (fun _ _ => False)) rfl ?_
  intro O
  have K := cls_ok hg
  have add8 : ∀ y ∈ addOf (fiT w) (eqK (kT w)) vs x, y ∈ vs ∨ y = x := fun y hy => add_mem (T := TT w hw G hg) hy
  refine ss_cons ?_
  refine st_expr ?_
  refine ev_m G K (m_add hg) ?_
  refine ev_local O (a := .ref s) h1 ⟨_, _, _, rfl, P.S.hi, P.S.hd, ?_⟩
  refine ar_cons (ev_local O (a := emT w x) h3 ?_)
  refine ar_nil (call_f O (R.less (show 18 ≤ 60 by decide) : Room A ((TT w hw G hg).d + 10)) ((add_spec (x := x) G hg P.S hx.ok).mono ?_ fun _ _ _ h => h.elim))
  rintro a hp1 nx1 ⟨rfl, rfl, rfl⟩
  have gd : goodT w (addOf (fiT w) (eqK (kT w)) vs x) := goodT_add P.S.good
  have P1 : InvP w hw G hg N ln s d l li _ (addOf (fiT w) (eqK (kT w)) vs x) vs := P.setL (hp' := HP.put hp l (.list ((addOf (fiT w) (eqK (kT w)) vs x).map (emT w)))) HP.bt_put HP.put_eq gd (fun y hy => (add8 y hy).elim (P.S.ok y) fun e => e ▸ hx.ok) (fun y hy => (add8 y hy).elim (P.apV y) fun e => e ▸ hx.ap)
  have x1 : okT g w (HP.put hp l (.list ((addOf (fiT w) (eqK (kT w)) vs x).map (emT w)))) x := hx.ok.bt HP.bt_put fun n => (hx.ap n).1
  refine ss_cons ?_
  refine st_expr ?_
  refine ev_call G (ev_glob G O (n_add hg) ⟨rfl, ?_⟩) (keep_K (k_add hg))
  refine ar_cons (ev_cell O (i := 1) rfl P1.c1 ?_)
  refine ar_cons (ev_local O (a := .ref li) h2 ?_)
  refine ar_cons (ev_local O (a := emT w x) h3 ?_)
  refine ar_nil (call_f O (R.less (by decide) : Room A 8) ((addl_spec (x := x) G hg hw P1.I P1.ou x1 P.S.good).mono ?_ fun _ _ _ h => h.elim))
  rintro a hp2 nx2 ⟨rfl, e2, B2⟩
  refine ss_nil ?_
  refine q _ _ _ (P1.setI B2 e2 ?_ ?_)
  · exact fun y hy => P1.S.ok y hy
  · exact fun y hy => P1.apV y hy
end
end Sx

namespace Sx
section
variable {g : Gl} {f : Addr} {cdv : Value} {A : Around} {L : Addr} {outer : List Env} {outs : List (Addr × (Str → Option Value))} {pins : List (Addr × Obj)}
theorem fi_idx {w : Nat} {vs : List (Nat × Nat)} {x : Nat × Nat} (hg : goodT w vs) (ha : (vs.any fun y => eqK (kT w) y x) = true) : idxK (kT w) vs x = fiT w vs x := by
  obtain ⟨h, e, n⟩ := fiT_hit hg ha
  exact idx_at h e n
theorem repr1T {c : Cx} {st : AS} {Q : AV → AS → Prop} {X : String → AS → Prop} {w : Nat} {x : Nat × Nat} (hw : w < 3) (hx : okT g w st.hp x) (hg : c.A.guards = some []) (hu : c.A.units + 20 < cLine) (q : Q (.str (datT w x.2).shown) st) : CallV g c (.builtin "repr") [emT w x] st Q X := by
  obtain ⟨a1, a2, a3⟩ := show_all w hw x.2 hx.1
  have hfi := fineT w hw x.2 hx.1
  refine call_repr1 hg hu (okT_d1 hw hx) a1 a2 ?_ (Nat.le_trans a3 (by decide +kernel)) ?_ ?_ ?_ q
  · intro i e
    rw [e] at hfi
    have h : i.natAbs < 10 := of_decide_eq_true hfi
    have := Nat.log2_le_self i.natAbs
    omega
  · have : w = 0 ∨ w = 1 ∨ w = 2 := by omega
    rcases this with rfl | rfl | rfl
    · exact .inr (show_tab0 ⟨_, hx.1⟩).2.2.2
    · exact .inl ⟨_, rfl⟩
    · exact .inr (show_tab2 ⟨_, hx.1⟩).2.2.2
  · intro e; rw [e] at hfi; cases hfi
  · intro y e; rw [e] at hfi; cases hfi
theorem mem_TT {w : Nat} {hw : w < 3} {G : g.Ok} {hg : g.K = HK g.w.params} {vs : List (Nat × Nat)} {x : Nat × Nat} (h : goodT w vs) : (TT w hw G hg).mem vs x = vs.any fun y => eqK (kT w) y x := by
  have k := memT_eq (x := x) h
  unfold Th.mem
  have e2 : (TT w hw G hg).fi vs x = fiT w vs x := rfl
  rw [e2]
  cases q : vs[fiT w vs x]? with
  | none => rw [q] at k; exact k
  | some y => rw [q] at k; exact k
/-- the names that a turn leaves -/
def Same3 (loc loc' : Str → Option AV) : Prop := loc' "n" = loc "n" ∧ loc' "s" = loc "s" ∧ loc' "items" = loc "items"
set_option maxHeartbeats 2000000 in
theorem br1 {w : Nat} {hw : w < 3} {G : g.Ok} {hg : g.K = HK g.w.params} {N : List Int} {ln s d l li nx : Nat} {loc : Str → Option AV} {hp : HP} {vs : List (Nat × Nat)} {x : Nat × Nat} {Q : AF → AS → Prop} (R : Room A 60) (h1 : loc "s" = some (.ref s)) (h2 : loc "items" = some (.ref li)) (h3 : loc "x" = some (emT w x)) (P : InvP w hw G hg N ln s d l li hp vs vs) (hx : XT (g := g) w hp l li x)
    (q : ∀ loc' hp' nx' vs', Same3 loc loc' → InvP w hw G hg N ln s d l li hp' vs' vs' → Q .next ⟨loc', hp', nx'⟩) :
    PartSS g (fun b => ifThen (ifElse (pTurn b))) f cdv A L outer outs pins ⟨loc, hp, nx⟩ Q := by
  unfold PartSS
  refine conc (P := fun b sc => (cxL sc f cdv A L outer outs pins).Ok → SS g (cxL sc f cdv A L outer outs pins) (ifThen (ifElse (pTurn b))) ⟨loc, hp, nx⟩ Q (fun _ _ => False)) rfl ?_
  intro O
  have K := cls_ok hg
  have hu : A.units + 20 < cLine := by have := R.units; omega
  have hn := P.S.len
  refine ss_cons ?_
  refine st_assign (ev_bool (sn_local O rfl ?_))
  refine ss_cons ?_
  refine st_try G O rfl (n_KE hg) rfl ?_
  refine ss_cons ?_
  refine st_expr ?_
  refine ev_m G K (m_remove hg) ?_
  refine ev_local O (a := .ref s) (by exact h1) ⟨_, _, _, rfl, P.S.hi, P.S.hd, ?_⟩
  refine ar_cons (ev_local O (a := emT w x) (by exact h3) ?_)
  refine ar_nil (call_f O (R.less (by decide) : Room A 20) ((remove_spec (x := x) G hg hw P.S hx.ok).mono ?_ ?_))
  · rintro a hp1 nx1 ⟨ha, rfl⟩
    have sub : (vs.eraseIdx (fiT w vs x)).Sublist vs := List.eraseIdx_sublist ..
    have P1 : InvP w hw G hg N ln s d l li _ (vs.eraseIdx (fiT w vs x)) vs := P.setL (hp' := HP.put hp l (.list ((vs.eraseIdx (fiT w vs x)).map (emT w)))) HP.bt_put HP.put_eq (goodT.sub P.S.good sub) (fun y hy => P.S.ok y (sub.subset hy)) (fun y hy => P.apV y (sub.subset hy))
    have x1 : okT g w (HP.put hp l (.list ((vs.eraseIdx (fiT w vs x)).map (emT w)))) x := hx.ok.bt HP.bt_put fun n => (hx.ap n).1
    refine ss_nil ?_
    refine ss_cons ?_
    refine st_if ?_
    refine tr_cmp (ev_local O (a := .bool false) rfl ?_)
    refine ev_cmp (ev_local O (a := emT w x) (by exact h3) (ev_local O (a := .ref li) (by exact h2) ?_))
    refine op_notinT hw P1.I P1.ou x1 hu ?_
    rw [ha]
    refine op_neb (tr1_bool ?_)
    rw [if_neg (by decide)]
    refine ss_nil ?_
    refine ss_cons ?_
    refine st_if ?_
    refine tr_cmp (ev_local O (a := emT w x) (by exact h3) (ev_local O (a := .ref li) (by exact h2) ?_))
    refine op_inT hw P1.I P1.ou x1 hu (tr1_bool ?_)
    rw [if_pos ha]
    refine ss_cons ?_
    refine st_expr ?_
    refine ev_lmeth G PySem.F.slot_list_remove PySem.F.type_list_remove ?_
    refine ev_local O (a := .ref li) (by exact h2) ⟨_, _, rfl, P1.I, ?_⟩
    refine ar_cons (ev_local O (a := emT w x) (by exact h3) ?_)
    refine ar_nil (removeT hw P1.I P1.ou x1 ha (by omega) hu ?_)
    rw [fi_idx P.S.good ha]
    refine ss_nil (ss_nil ?_)
    exact q _ _ _ _ ⟨rfl, rfl, rfl⟩ (P1.setI HP.bt_put HP.put_eq (fun y hy => P1.S.ok y hy) (fun y hy => P1.apV y hy))
  · rintro cls hp1 nx1 ⟨rfl, ha, L1⟩
    have P1 := P.le L1
    have x1 : okT g w hp1 x := (TT w hw G hg).le hx.ok L1
    refine ⟨caught_KE, fun e' => ss_cons (st_assign (ev_bool (sn_local (O.mark e') rfl (ss_nil ?_))))⟩
    refine ss_cons ?_
    refine st_if ?_
    refine tr_cmp (ev_local O (a := .bool true) rfl ?_)
    refine ev_cmp (ev_local O (a := emT w x) (by exact h3) (ev_local O (a := .ref li) (by exact h2) ?_))
    refine op_notinT hw P1.I P1.ou x1 hu ?_
    rw [ha]
    refine op_neb (tr1_bool ?_)
    rw [if_neg (by decide)]
    refine ss_nil ?_
    refine ss_cons ?_
    refine st_if ?_
    refine tr_cmp (ev_local O (a := emT w x) (by exact h3) (ev_local O (a := .ref li) (by exact h2) ?_))
    refine op_inT hw P1.I P1.ou x1 hu (tr1_bool ?_)
    rw [if_neg (by rw [ha]; decide)]
    refine ss_nil (ss_nil ?_)
    exact q _ _ _ _ ⟨rfl, rfl, rfl⟩ P1
set_option maxHeartbeats 2000000 in
theorem br2 {w : Nat} {hw : w < 3} {G : g.Ok} {hg : g.K = HK g.w.params} {N : List Int} {ln s d l li nx : Nat} {loc : Str → Option AV} {hp : HP} {vs : List (Nat × Nat)} {x : Nat × Nat} {Q : AF → AS → Prop} (R : Room A 60) (h1 : loc "s" = some (.ref s)) (h2 : loc "items" = some (.ref li)) (h3 : loc "x" = some (emT w x)) (P : InvP w hw G hg N ln s d l li hp vs vs) (hx : XT (g := g) w hp l li x)
    (q : ∀ loc' hp' nx' vs', Same3 loc loc' → InvP w hw G hg N ln s d l li hp' vs' vs' → Q .next ⟨loc', hp', nx'⟩) :
    PartSS g (fun b => ifThen (ifElse (ifElse (pTurn b)))) f cdv A L outer outs pins ⟨loc, hp, nx⟩ Q := by
  unfold PartSS
  refine conc (P := fun b sc => (cxL sc f cdv A L outer outs pins).Ok → SS g (cxL sc f cdv A L outer outs pins) (ifThen (ifElse (ifElse (pTurn b)))) ⟨loc, hp, nx⟩ Q (fun _ _ => False)) rfl ?_
  intro O
  have K := cls_ok hg
  have hu : A.units + 20 < cLine := by have := R.units; omega
  have hm : (TT w hw G hg).mem vs x = vs.any fun y => eqK (kT w) y x := mem_TT P.S.good
  refine ss_cons ?_
  refine st_if ?_
  refine tr_cmp ?_
  refine ev_cmp (ev_local O (a := emT w x) h3 (ev_local O (a := .ref s) h1 ?_))
  refine (ino_set G hg P.S).isin O (R.less (show 20 ≤ 60 by decide)) .refl hx.ok ?_
  rw [hm]
  refine ev_cmp (ev_local O (a := emT w x) h3 (ev_local O (a := .ref li) h2 ?_))
  refine op_inT hw P.I P.ou hx.ok hu ?_
  refine op_neb (tr1_bool ?_)
  rw [if_neg (by simp)]
  exact ss_nil (ss_nil (q _ _ _ _ ⟨rfl, rfl, rfl⟩ P))
set_option maxHeartbeats 2000000 in
theorem br3 {w : Nat} {hw : w < 3} {G : g.Ok} {hg : g.K = HK g.w.params} {N : List Int} {ln s d l li nx : Nat} {loc : Str → Option AV} {hp : HP} {vs : List (Nat × Nat)} {Q : AF → AS → Prop} (R : Room A 60) (h1 : loc "s" = some (.ref s)) (h2 : loc "items" = some (.ref li)) (P : InvP w hw G hg N ln s d l li hp vs vs)
    (q : ∀ loc' hp' nx' vs', Same3 loc loc' → InvP w hw G hg N ln s d l li hp' vs' vs' → Q .next ⟨loc', hp', nx'⟩) :
    PartSS g (fun b => ifThen (ifElse (ifElse (ifElse (pTurn b))))) f cdv A L outer outs pins ⟨loc, hp, nx⟩ Q := by
  unfold PartSS
  refine conc (P := fun b sc => (cxL sc f cdv A L outer outs pins).Ok → SS g (cxL sc f cdv A L outer outs pins) (ifThen (ifElse (ifElse (ifElse (pTurn b))))) ⟨loc, hp, nx⟩ Q (fun _ _ => False)) rfl ?_
  intro O
  have K := cls_ok hg
  have hu : A.units + 20 < cLine := by have := R.units; omega
  have hn := P.S.len
  refine ss_cons ?_
  refine st_assign (ev_str (sn_local O rfl ?_))
  refine ss_cons ?_
  refine st_try G O rfl (n_KE hg) rfl ?_
  refine ss_cons ?_
  refine st_assign ?_
  refine ev_m G K (m_pop hg) ?_
  refine ev_local O (a := .ref s) (by exact h1) ⟨_, _, _, rfl, P.S.hi, P.S.hd, ?_⟩
  refine ar_nil (call_f O (R.less (by decide) : Room A 8) ((pop_spec G hg P.S).mono ?_ ?_))
  · rintro a hp1 nx1 ⟨us, y, rfl, rfl, rfl⟩
    have sub : us.Sublist (us ++ [y]) := List.sublist_append_left ..
    have my : y ∈ us ++ [y] := by simp
    have P1 : InvP w hw G hg N ln s d l li _ us (us ++ [y]) := P.setL (hp' := HP.put hp l (.list (us.map (emT w)))) HP.bt_put HP.put_eq (goodT.sub P.S.good sub) (fun y hy => P.S.ok y (sub.subset hy)) (fun y hy => P.apV y (sub.subset hy))
    refine sn_local O rfl ?_
    refine ss_nil ?_
    refine ss_cons ?_
    refine st_if ?_
    refine tr_bool ?_
    refine ta_and ?_
    refine tr_not (tr_val (ev_local O (a := .ref li) (by exact h2) (tr1_list P1.I ?_ (by simp at hn ⊢; omega))))
    rw [if_neg (by simp), if_neg (by decide)]
    refine ss_nil ?_
    refine ss_cons ?_
    refine st_if ?_
    refine tr_bool ?_
    refine ta_and ?_
    refine tr_val (ev_local O (a := .ref li) (by exact h2) (tr1_list P1.I ?_ (by simp at hn ⊢; omega)))
    rw [if_pos (by simp)]
    refine ta_and ?_
    refine tr_cmp ?_
    refine ev_call G (ev_bltn G O (n_repr hg) rfl ⟨rfl, ?_⟩) keep_builtin
    refine ar_cons (ev_local O (a := emT w y) rfl ?_)
    refine ar_nil (repr1T hw (P1.ou y my) R.guards hu ?_)
    refine ev_call G (ev_bltn G O (n_repr hg) rfl ⟨rfl, ?_⟩) keep_builtin
    refine ar_cons ?_
    refine ev_lmeth G PySem.F.slot_list_pop PySem.F.type_list_pop ?_
    have hl : HP.put hp l (.list (us.map (emT w))) li = some (.list (us.map (emT w) ++ [emT w y])) := by rw [P1.I, List.map_append]; rfl
    refine ev_local O (a := .ref li) (by exact h2) ⟨_, _, rfl, hl, ?_⟩
    refine ar_nil (pop_l hl (by simp at hn ⊢; omega) ?_)
    have P2 : InvP w hw G hg N ln s d l li (HP.put (HP.put hp l (.list (us.map (emT w)))) li (.list (us.map (emT w)))) us us := P1.setI HP.bt_put HP.put_eq (fun y hy => P1.S.ok y hy) (fun y hy => P1.apV y hy)
    have y2 : okT g w (HP.put (HP.put hp l (.list (us.map (emT w)))) li (.list (us.map (emT w)))) y := (P1.ou y my).bt HP.bt_put fun n => (P1.au y my n).2
    refine ar_nil (repr1T hw y2 R.guards hu ?_)
    refine op_nes (tr1_bool ?_)
    rw [if_neg (by simp), if_neg (by decide)]
    exact ss_nil (ss_nil (q _ _ _ _ ⟨rfl, rfl, rfl⟩ P2))
  · rintro cls hp1 nx1 ⟨rfl, rfl, L1⟩
    have P1 := P.le L1
    refine ⟨caught_KE, fun e' => ss_cons (st_pass (ss_nil ?_))⟩
    refine ss_cons ?_
    refine st_if ?_
    refine tr_bool ?_
    refine ta_and ?_
    refine tr_not (tr_val (ev_local O (a := .ref li) (by exact h2) (tr1_list P1.I ?_ (by simp))))
    rw [if_pos (by simp)]
    refine ta_and ?_
    refine tr_cmp (ev_local O (a := .str "refused") rfl (ev_str (op_nes (tr1_bool ?_))))
    rw [if_neg (by simp), if_neg (by decide)]
    refine ss_nil ?_
    refine ss_cons ?_
    refine st_if ?_
    refine tr_bool ?_
    refine ta_and ?_
    refine tr_val (ev_local O (a := .ref li) (by exact h2) (tr1_list P1.I ?_ (by simp)))
    rw [if_neg (by simp), if_neg (by decide)]
    exact ss_nil (ss_nil (q _ _ _ _ ⟨rfl, rfl, rfl⟩ P1))
set_option maxHeartbeats 2000000 in
theorem br4 {w : Nat} {hw : w < 3} {G : g.Ok} {hg : g.K = HK g.w.params} {N : List Int} {ln s d l li nx : Nat} {loc : Str → Option AV} {hp : HP} {vs : List (Nat × Nat)} {x : Nat × Nat} {Q : AF → AS → Prop} (R : Room A 60) (h1 : loc "s" = some (.ref s)) (h2 : loc "items" = some (.ref li)) (h3 : loc "x" = some (emT w x)) (P : InvP w hw G hg N ln s d l li hp vs vs) (hx : XT (g := g) w hp l li x)
    (q : ∀ loc' hp' nx' vs', Same3 loc loc' → InvP w hw G hg N ln s d l li hp' vs' vs' → Q .next ⟨loc', hp', nx'⟩) :
    PartSS g (fun b => ifElse (ifElse (ifElse (ifElse (pTurn b))))) f cdv A L outer outs pins ⟨loc, hp, nx⟩ Q := by
  unfold PartSS
  refine conc (P := fun b sc => (cxL sc f cdv A L outer outs pins).Ok → SS g (cxL sc f cdv A L outer outs pins) (ifElse (ifElse (ifElse (ifElse (pTurn b))))) ⟨loc, hp, nx⟩ Q (fun _ _ => False)) rfl ?_
  intro O
  have K := cls_ok hg
  have hn := P.S.len
  refine ss_cons ?_
  refine st_if ?_
  refine tr_cmp ?_
  refine ev_m G K (m_fi hg) ?_
  refine ev_local O (a := .ref s) h1 ⟨_, _, _, rfl, P.S.hi, P.S.hd, ?_⟩
  refine ar_cons (ev_local O (a := emT w x) h3 ?_)
  refine ar_nil (call_f O (R.less (show 8 ≤ 60 by decide) : Room A (TT w hw G hg).d) (((TT w hw G hg).fiOk (x := x) P.S.hi P.S.hd P.S.hl P.S.good P.S.ok hx.ok).mono ?_ fun _ _ _ h => h.elim))
  rintro a hp' nx' ⟨rfl, rfl, rfl⟩
  refine ev_call G (ev_glob G O (n_place hg) ⟨rfl, ?_⟩) (keep_K (k_place hg))
  refine ar_cons (ev_cell O (i := 1) rfl P.c1 ?_)
  refine ar_cons (ev_local O (a := .ref li) h2 ?_)
  refine ar_cons (ev_local O (a := emT w x) h3 ?_)
  refine ar_nil (call_f O (R.less (by decide) : Room A 5) ((place_spec (x := x) G hg hw P.I P.ou hx.ok (by omega)).mono ?_ fun _ _ _ h => h.elim))
  rintro a hp2 nx2 ⟨rfl, L2⟩
  refine op_ne (tr1_bool ?_)
  rw [if_neg (by show ¬ (((fiT w vs x : Nat) : Int) != ((fiT w vs x : Nat) : Int)) = true; simp)]
  exact ss_nil (ss_nil (q _ _ _ _ ⟨rfl, rfl, rfl⟩ (P.le L2)))
set_option maxHeartbeats 2000000 in
theorem tail2 {w : Nat} {hw : w < 3} {G : g.Ok} {hg : g.K = HK g.w.params} {N : List Int} {ln s d l li nx : Nat} {loc : Str → Option AV} {hp : HP} {vs : List (Nat × Nat)} {Q : AF → AS → Prop} (R : Room A 60) (h1 : loc "s" = some (.ref s)) (h2 : loc "items" = some (.ref li)) (P : InvP w hw G hg N ln s d l li hp vs vs)
    (q : ∀ hp' nx', InvP w hw G hg N ln s d l li hp' vs vs → Q .next ⟨loc, hp', nx'⟩) :
    PartSS g (fun b => (pTurn b).drop 1) f cdv A L outer outs pins ⟨loc, hp, nx⟩ Q := by
  unfold PartSS
  refine conc (P := fun b sc => (cxL sc f cdv A L outer outs pins).Ok → SS g (cxL sc f cdv A L outer outs pins) ((pTurn b).drop 1) ⟨loc, hp, nx⟩ Q (fun _ _ => False)) rfl ?_
  intro O
  have K := cls_ok hg
  have hn := P.S.len
  refine ss_cons ?_
  refine st_if ?_
  refine tr_bool ?_
  refine ta_or ?_
  refine tr_not (tr_val ?_)
  refine ev_call G (ev_glob G O (n_same hg) ⟨rfl, ?_⟩) (keep_K (k_same hg))
  refine ar_cons (ev_local O (a := .ref s) h1 ?_)
  refine ar_cons (ev_local O (a := .ref li) h2 ?_)
  refine ar_nil (call_f O (R.less (by decide) : Room A 12) ((same_spec G hg hw P.S P.I).mono ?_ fun _ _ _ h => h.elim))
  rintro a hp1 nx1 ⟨rfl, L1⟩
  have P1 := P.le L1
  refine tr1_bool ?_
  rw [if_neg (by decide)]
  refine ta_or ?_
  refine tr_cmp ?_
  refine ev_len G O (n_len hg) (ar_cons (ev_local O (a := .ref s) h1 (ar_nil (len_set G hg O (R.less (by decide)) P1.S ?_))))
  refine ev_len G O (n_len hg) (ar_cons (ev_local O (a := .ref li) h2 (ar_nil (len_l P1.I (op_ne (tr1_bool ?_)) (by simp; omega)))))
  rw [if_neg (by simp)]
  refine ta_or0 ?_
  rw [if_neg (by decide)]
  exact ss_nil (ss_nil (q _ _ P1))
end
end Sx

namespace Sx
section
variable {g : Gl} {f : Addr} {cdv : Value} {A : Around} {L : Addr} {outer : List Env} {outs : List (Addr × (Str → Option Value))} {pins : List (Addr × Obj)}
theorem op_mul' {c : Cx} {st : AS} {Q : AV → AS → Prop} {X : String → AS → Prop} {i j : Int} (hm : IntMulOk i j) (q : Q (.int (i * j)) st) : Op2 g c (binaryOp .Mult) (.int i) (.int j) st Q X := op_mul q hm
/-- what a branch does -/
def BrS (w : Nat) (hw : w < 3) (G : g.Ok) (hg : g.K = HK g.w.params) (N : List Int) (ln s d l li : Nat) (f : Addr) (cdv : Value) (A : Around) (L : Addr) (outer : List Env) (outs : List (Addr × (Str → Option Value))) (pins : List (Addr × Obj)) (b : List Stmt) (sc : Scope) : Prop :=
  ∀ (loc : Str → Option AV) (hp : HP) (nx : Nat) (vs : List (Nat × Nat)) (x : Nat × Nat) (Q : AF → AS → Prop), loc "s" = some (.ref s) → loc "items" = some (.ref li) → loc "x" = some (emT w x) → InvP w hw G hg N ln s d l li hp vs vs → XT (g := g) w hp l li x →
    (∀ loc' hp' nx' vs', Same3 loc loc' → InvP w hw G hg N ln s d l li hp' vs' vs' → Q .next ⟨loc', hp', nx'⟩) → (cxL sc f cdv A L outer outs pins).Ok → SS g (cxL sc f cdv A L outer outs pins) b ⟨loc, hp, nx⟩ Q (fun _ _ => False)
def TailS (w : Nat) (hw : w < 3) (G : g.Ok) (hg : g.K = HK g.w.params) (N : List Int) (ln s d l li : Nat) (f : Addr) (cdv : Value) (A : Around) (L : Addr) (outer : List Env) (outs : List (Addr × (Str → Option Value))) (pins : List (Addr × Obj)) (b : List Stmt) (sc : Scope) : Prop :=
  ∀ (loc : Str → Option AV) (hp : HP) (nx : Nat) (vs : List (Nat × Nat)) (Q : AF → AS → Prop), loc "s" = some (.ref s) → loc "items" = some (.ref li) → InvP w hw G hg N ln s d l li hp vs vs →
    (∀ hp' nx', InvP w hw G hg N ln s d l li hp' vs vs → Q .next ⟨loc, hp', nx'⟩) → (cxL sc f cdv A L outer outs pins).Ok → SS g (cxL sc f cdv A L outer outs pins) b ⟨loc, hp, nx⟩ Q (fun _ _ => False)
set_option maxHeartbeats 4000000 in
theorem turn2 {w : Nat} {hw : w < 3} {G : g.Ok} {hg : g.K = HK g.w.params} {N : List Int} {ln s d l li nx k : Nat} {loc : Str → Option AV} {hp : HP} {vs : List (Nat × Nat)} {Q : AF → AS → Prop} (R : Room A 60) (h0 : loc "n" = some (.ref ln)) (h1 : loc "s" = some (.ref s)) (h2 : loc "items" = some (.ref li)) (h3 : loc "j" = some (.int k)) (hk : k < 10) (hN : N.length = 24) (P : InvP w hw G hg N ln s d l li hp vs vs)
    (q : ∀ loc' hp' nx' vs', Same3 loc loc' → InvP w hw G hg N ln s d l li hp' vs' vs' → Q .next ⟨loc', hp', nx'⟩) :
    PartSS g (fun b => forBody (b.drop 4)) f cdv A L outer outs pins ⟨loc, hp, nx⟩ Q := by
  unfold PartSS
  have key := conc (o := lawO g) (P := fun b sc => BrS w hw G hg N ln s d l li f cdv A L outer outs pins (ifThen (pTurn b)) sc → BrS w hw G hg N ln s d l li f cdv A L outer outs pins (ifThen (ifElse (pTurn b))) sc → BrS w hw G hg N ln s d l li f cdv A L outer outs pins (ifThen (ifElse (ifElse (pTurn b)))) sc → BrS w hw G hg N ln s d l li f cdv A L outer outs pins (ifThen (ifElse (ifElse (ifElse (pTurn b))))) sc → BrS w hw G hg N ln s d l li f cdv A L outer outs pins (ifElse (ifElse (ifElse (ifElse (pTurn b))))) sc → TailS w hw G hg N ln s d l li f cdv A L outer outs pins ((pTurn b).drop 1) sc →
    (cxL sc f cdv A L outer outs pins).Ok → SS g (cxL sc f cdv A L outer outs pins) (forBody (b.drop 4)) ⟨loc, hp, nx⟩ Q (fun _ _ => False)) rfl ?key
  refine key ?_ ?_ ?_ ?_ ?_ ?_
  · intro loc hp nx vs x Q h1 h2 h3 P X q
    have h := br0 (f := f) (cdv := cdv) (L := L) (outer := outer) (outs := outs) (pins := pins) (nx := nx) (Q := Q) R h1 h2 h3 P X (fun hp' nx' vs' P' => q _ _ _ _ ⟨rfl, rfl, rfl⟩ P')
    exact h
  · intro loc hp nx vs x Q h1 h2 h3 P X q
    have h := br1 (f := f) (cdv := cdv) (L := L) (outer := outer) (outs := outs) (pins := pins) (nx := nx) (Q := Q) R h1 h2 h3 P X q
    exact h
  · intro loc hp nx vs x Q h1 h2 h3 P X q
    have h := br2 (f := f) (cdv := cdv) (L := L) (outer := outer) (outs := outs) (pins := pins) (nx := nx) (Q := Q) R h1 h2 h3 P X q
    exact h
  · intro loc hp nx vs x Q h1 h2 h3 P X q
    have h := br3 (f := f) (cdv := cdv) (L := L) (outer := outer) (outs := outs) (pins := pins) (nx := nx) (Q := Q) R h1 h2 P q
    exact h
  · intro loc hp nx vs x Q h1 h2 h3 P X q
    have h := br4 (f := f) (cdv := cdv) (L := L) (outer := outer) (outs := outs) (pins := pins) (nx := nx) (Q := Q) R h1 h2 h3 P X q
    exact h
  · intro loc hp nx vs Q h1 h2 P q
    have h := tail2 (f := f) (cdv := cdv) (L := L) (outer := outer) (outs := outs) (pins := pins) (nx := nx) (Q := Q) R h1 h2 P q
    exact h
  intro B0 B1 B2 B3 B4 TS
  intro O
  have K := cls_ok hg
  have hmul : IntMulOk 2 (k : Int) := .of_left (by decide)
  have la : 1 + 2 * k < N.length := by omega
  have lb : 2 + 2 * k < N.length := by omega
  have hxa : (N.map AV.int)[((1 : Int) + 2 * (k : Nat)).toNat]? = some (.int N[1 + 2 * k]) := by
    rw [show ((1 : Int) + 2 * (k : Nat)).toNat = 1 + 2 * k by omega, List.getElem?_map, List.getElem?_eq_getElem la]; rfl
  have hxb : (N.map AV.int)[((2 : Int) + 2 * (k : Nat)).toNat]? = some (.int N[2 + 2 * k]) := by
    rw [show ((2 : Int) + 2 * (k : Nat)).toNat = 2 + 2 * k by omega, List.getElem?_map, List.getElem?_eq_getElem lb]; rfl
  have k0 : 0 ≤ (N[1 + 2 * k]).fmod 6 := Int.fmod_nonneg_of_pos _ (by decide)
  have k6 : (N[1 + 2 * k]).fmod 6 < 6 := Int.fmod_lt_of_pos _ (by decide)
  have t0 : 0 ≤ (N[2 + 2 * k]).fmod 7 := Int.fmod_nonneg_of_pos _ (by decide)
  have t7 : (N[2 + 2 * k]).fmod 7 < 7 := Int.fmod_lt_of_pos _ (by decide)
  refine ss_cons ?_
  refine st_unpack2 R.handled ?_
  refine ev_tuple ?_
  refine ar_cons ?_
  refine ev_binop ?_
  refine ev_sub ?_
  refine ev_local O (a := .ref ln) h0 ?_
  refine ev_binop ?_
  refine ev_int ?_
  refine ev_binop ?_
  refine ev_int ?_
  refine ev_local O (a := .int k) h3 ?_
  refine op_mul' hmul ?_
  refine op_add ?_
  refine op_item (a := .int N[1 + 2 * k]) P.n (by omega) hxa ?_ (by omega)
  refine ev_int ?_
  refine op_mod ?_
  generalize hkd : (N[1 + 2 * k]).fmod 6 = kd at k0 k6 ⊢
  refine ar_cons ?_
  refine ev_call G (ev_glob G O (n_thing hg) ⟨rfl, ?_⟩) (keep_K (k_thing hg))
  refine ar_cons (ev_cell O (i := 1) rfl P.c1 ?_)
  refine ar_cons ?_
  refine ev_binop ?_
  refine ev_sub ?_
  refine ev_local O (a := .ref ln) h0 ?_
  refine ev_binop ?_
  refine ev_int ?_
  refine ev_binop ?_
  refine ev_int ?_
  refine ev_local O (a := .int k) h3 ?_
  refine op_mul' hmul ?_
  refine op_add ?_
  refine op_item (a := .int N[2 + 2 * k]) P.n (by omega) hxb ?_ (by omega)
  refine ev_int ?_
  refine op_mod ?_
  rw [show (N[2 + 2 * k]).fmod 7 = ((((N[2 + 2 * k]).fmod 7).toNat : Nat) : Int) by omega]
  have t7' : ((N[2 + 2 * k]).fmod 7).toNat < 7 := by omega
  generalize ((N[2 + 2 * k]).fmod 7).toNat = t at t7' ⊢
  refine ar_nil (call_f O (R.less (by decide) : Room A 2) ((thing_spec G hg hw t7').mono ?_ fun _ _ _ h => h.elim))
  rintro a hp1 nx1 ⟨i, rfl, ok1, fr, L1⟩
  refine Ok.fresh fun hb1 => ?_
  refine ar_nil ⟨by simp, _, _, _, rfl, if_pos rfl, sn_local O rfl (sn_local O rfl ?_)⟩
  have L2 : HP.Le hp1 (fun j => if j = nx1 then some (.tup [.int kd, emT w (i, t)]) else hp1 j) := HP.le_new (hb1 _ (Nat.le_refl _))
  have P2 := (P.le L1).le L2
  have ok2 : okT g w _ (i, t) := (TT w hw G hg).le ok1 L2
  have X2 : XT (g := g) w (fun j => if j = nx1 then some (AO.tup [.int kd, emT w (i, t)]) else hp1 j) l li (i, t) := by
    refine ⟨ok2, fun n => ?_⟩
    have fr' : hp i = none := fr n
    constructor
    · intro e
      have e : i = l := e
      have z := P.S.hl
      rw [← e, fr'] at z; cases z
    · intro e
      have e : i = li := e
      have z := P.I
      rw [← e, fr'] at z; cases z
  clear L2 ok2 hb1
  show SS g _ _ ⟨_, fun j => if j = nx1 then some (.tup [.int kd, emT w (i, t)]) else hp1 j, nx1 + 1⟩ _ _
  generalize (fun j => if j = nx1 then some (AO.tup [.int kd, emT w (i, t)]) else hp1 j) = hp2 at P2 X2 ⊢
  refine ss_cons ?_
  refine st_if ?_
  refine tr_cmp ?_
  refine ev_local O (a := .int kd) rfl ?_
  refine ev_int ?_
  refine op_lt ?_
  refine tr1_bool ?_
  by_cases c0 : kd < 2
  · rw [if_pos (by simpa using c0)]
    refine B0 _ _ _ _ _ _ (by exact h1) (by exact h2) rfl P2 X2 (fun loc' hp' nx' vs' e P' => ?_) O
    refine TS _ _ _ _ _ (e.2.1.trans h1) (e.2.2.trans h2) P' (fun hp'' nx'' P'' => ?_) O
    exact q _ _ _ _ ⟨e.1, e.2.1, e.2.2⟩ P''
  rw [if_neg (by simpa using c0)]
  refine ss_cons ?_
  refine st_if ?_
  refine tr_cmp ?_
  refine ev_local O (a := .int kd) rfl ?_
  refine ev_int ?_
  refine op_eq ?_
  refine tr1_bool ?_
  by_cases c1 : kd = 2
  · rw [if_pos (by simpa using c1)]
    refine B1 _ _ _ _ _ _ (by exact h1) (by exact h2) rfl P2 X2 (fun loc' hp' nx' vs' e P' => ?_) O
    refine ss_nil ?_
    refine TS _ _ _ _ _ (e.2.1.trans h1) (e.2.2.trans h2) P' (fun hp'' nx'' P'' => ?_) O
    exact q _ _ _ _ ⟨e.1, e.2.1, e.2.2⟩ P''
  rw [if_neg (by simpa using c1)]
  refine ss_cons ?_
  refine st_if ?_
  refine tr_cmp ?_
  refine ev_local O (a := .int kd) rfl ?_
  refine ev_int ?_
  refine op_eq ?_
  refine tr1_bool ?_
  by_cases c2 : kd = 3
  · rw [if_pos (by simpa using c2)]
    refine B2 _ _ _ _ _ _ (by exact h1) (by exact h2) rfl P2 X2 (fun loc' hp' nx' vs' e P' => ?_) O
    refine ss_nil (ss_nil ?_)
    refine TS _ _ _ _ _ (e.2.1.trans h1) (e.2.2.trans h2) P' (fun hp'' nx'' P'' => ?_) O
    exact q _ _ _ _ ⟨e.1, e.2.1, e.2.2⟩ P''
  rw [if_neg (by simpa using c2)]
  refine ss_cons ?_
  refine st_if ?_
  refine tr_cmp ?_
  refine ev_local O (a := .int kd) rfl ?_
  refine ev_int ?_
  refine op_eq ?_
  refine tr1_bool ?_
  by_cases c3 : kd = 4
  · rw [if_pos (by simpa using c3)]
    refine B3 _ _ _ _ _ _ (by exact h1) (by exact h2) rfl P2 X2 (fun loc' hp' nx' vs' e P' => ?_) O
    refine ss_nil (ss_nil (ss_nil ?_))
    refine TS _ _ _ _ _ (e.2.1.trans h1) (e.2.2.trans h2) P' (fun hp'' nx'' P'' => ?_) O
    exact q _ _ _ _ ⟨e.1, e.2.1, e.2.2⟩ P''
  rw [if_neg (by simpa using c3)]
  refine B4 _ _ _ _ _ _ (by exact h1) (by exact h2) rfl P2 X2 (fun loc' hp' nx' vs' e P' => ?_) O
  refine ss_nil (ss_nil (ss_nil ?_))
  refine TS _ _ _ _ _ (e.2.1.trans h1) (e.2.2.trans h2) P' (fun hp'' nx'' P'' => ?_) O
  exact q _ _ _ _ ⟨e.1, e.2.1, e.2.2⟩ P''
end
end Sx

namespace Sx
section
variable {g : Gl}
theorem Ok.after {α β : Type} {c : Cx} {R : (Nat → Addr) → Nat → β → α → Prop} {t : Sem α} {st : AS} {Q : β → AS → Prop} {X : String → AS → Prop} (h : Ok g c R t st (fun a st' => (∀ j, st'.nx ≤ j → st'.hp j = none) → Q a st') X) : Ok g c R t st Q X := fun σ s r =>
  wpAny_mono (h σ s r) (fun v s' ⟨a, σ', st', q, e, r', x⟩ => ⟨a, σ', st', q r'.fresh, e, r', x⟩) fun _ _ x => x
/-- among the things of a list -/
abbrev amK (w : Nat) (xs : List (Nat × Nat)) (y : Nat × Nat) : Bool := xs.any fun z => eqK (kT w) z y
theorem ino_T {w : Nat} {hw : w < 3} {G : g.Ok} {hg : g.K = HK g.w.params} {hp : HP} {l : Nat} {xs : List (Nat × Nat)} (hl : hp l = some (.list (xs.map (emT w)))) (ho : ∀ x ∈ xs, okT g w hp x) : InO (TT w hw G hg) hp (.ref l) (amK w xs) :=
  ⟨fun O R L h q => op_inT hw (L _ _ hl) (fun x hx => (TT w hw G hg).le (ho x hx) L) h (by have := R.units; have e : (TT w hw G hg).d = 8 := rfl; omega) q,
   fun O R L h q => op_notinT hw (L _ _ hl) (fun x hx => (TT w hw G hg).le (ho x hx) L) h (by have := R.units; have e : (TT w hw G hg).d = 8 := rfl; omega) q⟩
theorem okT.cell {w : Nat} {hp : HP} {x : Nat × Nat} {i : Nat} {o v : Option AV} (h : okT g w hp x) (c : hp i = some (.cell o)) : okT g w (HP.put hp i (.cell v)) x := h.bt HP.bt_put fun n e => by
  have := h.2 n
  rw [e, c] at this
  have this := Option.some.inj this
  unfold objT at this
  split at this <;> cases this
section
variable {w : Nat} {hw : w < 3} {G : g.Ok} {hg : g.K = HK g.w.params} {N : List Int} {ln s d l li : Nat} {hp hp' : HP} {vs us vs' us' : List (Nat × Nat)}
theorem InvP.cell2 (P : InvP w hw G hg N ln s d l li hp vs us) {v : Option AV} : InvP w hw G hg N ln s d l li (HP.put hp 2 (.cell v)) vs us := by
  obtain ⟨o, c2⟩ := P.c2
  have ne : ∀ {i : Nat} {x : AO}, hp i = some x → (∀ z, x ≠ .cell z) → HP.put hp 2 (.cell v) i = some x := fun {i x} h k => by
    rw [HP.put_ne (fun e => by rw [e, c2] at h; exact k _ (Option.some.inj h).symm)]; exact h
  exact ⟨ne P.n (fun _ h => nomatch h), (HP.put_ne (by decide)).trans P.c1, ⟨_, HP.put_eq⟩, ⟨ne P.S.hi (fun _ h => nomatch h), ne P.S.hd (fun _ h => nomatch h), ne P.S.hl (fun _ h => nomatch h), P.S.good, fun y hy => okT.cell (P.S.ok y hy) c2, P.S.apart⟩,
    ne P.I (fun _ h => nomatch h), P.ll, P.nl, P.ap, fun y hy => okT.cell (P.ou y hy) c2, P.au⟩
end
/-- the others stand -/
structure Oths (w : Nat) (hp : HP) (lo : Nat) (xs : List (Nat × Nat)) : Prop where
  c : hp 2 = some (.cell (some (.ref lo)))
  l : hp lo = some (.list (xs.map (emT w)))
  ok : ∀ x ∈ xs, okT g w hp x
  n : xs.length ≤ 10
theorem Oths.le {w : Nat} (hw : w < 3) (G : g.Ok) (hg : g.K = HK g.w.params) {hp hp' : HP} {lo : Nat} {xs : List (Nat × Nat)} (h : Oths (g := g) w hp lo xs) (L : HP.Le hp hp') : Oths (g := g) w hp' lo xs := ⟨L _ _ h.c, L _ _ h.l, fun x hx => (TT w hw G hg).le (h.ok x hx) L, h.n⟩
variable {f : Addr} {cdv : Value} {A : Around} {L : Addr} {outer : List Env} {outs : List (Addr × (Str → Option Value))} {pins : List (Addr × Obj)}
abbrev Told1 : AF → AS → Prop := fun fl _ => retOf fl = .bool true
set_option maxHeartbeats 4000000 in
theorem segC {w : Nat} {hw : w < 3} {G : g.Ok} {hg : g.K = HK g.w.params} {N : List Int} {ln s d l li lo nx : Nat} {loc : Str → Option AV} {hp : HP} {vs xs : List (Nat × Nat)} (R : Room A 60) (h1 : loc "s" = some (.ref s)) (h2 : loc "items" = some (.ref li)) (P : InvP w hw G hg N ln s d l li hp vs vs) (Y : Oths (g := g) w hp lo xs) :
    PartSS g (fun b => b.drop 8) f cdv A L outer outs pins ⟨loc, hp, nx⟩ Told1 := by
  unfold PartSS
  refine conc (P := fun b sc => (cxL sc f cdv A L outer outs pins).Ok → SS g (cxL sc f cdv A L outer outs pins) (b.drop 8) ⟨loc, hp, nx⟩ Told1 (fun _ _ => False)) rfl ?_
  intro O
  have K := cls_ok hg
  have hn := P.S.len
  -- joined = list(items)
  refine ss_cons ?_
  refine Ok.fresh fun hb => ?_
  refine st_assign ?_
  refine ev_call G (ev_bltn G O (n_list hg) rfl ⟨rfl, ?_⟩) keep_type
  refine ar_cons (ev_local O (a := .ref li) h2 ?_)
  refine ar_nil (copy_l P.I (sn_local O rfl ?_) (by simp; omega))
  have f1 : hp nx = none := hb _ (Nat.le_refl _)
  have L1 : HP.Le hp (fun j => if j = nx then some (.list (vs.map (emT w))) else hp j) := HP.le_new f1
  have P1 := P.le L1
  have Y1 := Y.le hw G hg L1
  have J1 : (fun j => if j = nx then some (AO.list (vs.map (emT w))) else hp j) nx = some (.list (vs.map (emT w))) := if_pos rfl
  have nv : ∀ y ∈ vs, w ≠ 2 → y.1 ≠ nx := fun y hy n e => by
    have := (P.ou y hy).2 n
    rw [e, f1] at this; cases this
  have nxs : ∀ y ∈ xs, w ≠ 2 → y.1 ≠ nx := fun y hy n e => by
    have := (Y.ok y hy).2 n
    rw [e, f1] at this; cases this
  have n2 : nx ≠ 2 := fun e => by have := Y.c; rw [← e, f1] at this; cases this
  have n1 : nx ≠ 1 := fun e => by have := P.c1; rw [← e, f1] at this; cases this
  have nlo : lo ≠ nx := fun e => by have := Y.l; rw [e, f1] at this; cases this
  have f2 : (fun j => if j = nx then some (AO.list (vs.map (emT w))) else hp j) (nx + 1) = none := by
    show (if nx + 1 = nx then _ else hp (nx + 1)) = none
    rw [if_neg (by omega)]; exact hb _ (by show nx ≤ nx + 1; omega)
  clear L1 hb
  show SS g _ _ ⟨_, fun j => if j = nx then some (.list (vs.map (emT w))) else hp j, nx + 1⟩ _ _
  generalize (fun j => if j = nx then some (AO.list (vs.map (emT w))) else hp j) = H at P1 Y1 J1 f2 ⊢
  -- for x in others
  refine ss_cons ?_
  refine st_for O rfl R.handled ?_
  refine ev_cell O (i := 2) rfl Y1.c ?_
  refine pi_seq (T := false) (vs := xs.map (emT w)) Y1.l ?_
  refine ⟨nx + 1, false, lo, xs.map (emT w), fun k st => st.loc "s" = some (.ref s) ∧ st.loc "items" = some (.ref li) ∧ st.loc "joined" = some (.ref nx) ∧ HP.Bt nx H st.hp ∧ st.hp nx = some (.list (((TT w hw G hg).adds vs (xs.take k)).map (emT w))), rfl, if_pos rfl, ?start, ?keeps, ?turn, ?done⟩
  case start =>
    have e : (fun j => if j = nx + 1 then none else if j = nx + 1 then some (AO.iter false lo 0) else H j) = H := del_new (hp1 := H) f2
    refine ⟨h1, h2, rfl, ?_, ?_⟩
    · show HP.Bt nx H (fun j => if j = nx + 1 then none else if j = nx + 1 then some (AO.iter false lo 0) else H j)
      rw [e]; exact HP.Le.refl.bt
    · show (fun j => if j = nx + 1 then none else if j = nx + 1 then some (AO.iter false lo 0) else H j) nx = _
      rw [e]; exact J1
  case keeps =>
    rintro k st ⟨_, _, _, B, _⟩
    exact B _ _ nlo Y1.l
  case turn =>
    rintro k v ⟨loc3, hp3, nx3⟩ p hk ⟨e1, e2, e3, B, e4⟩
    dsimp only at e1 e2 e3 B e4
    rw [List.getElem?_map] at hk
    obtain ⟨x, hx, rfl⟩ := Option.map_eq_some_iff.mp hk
    obtain ⟨lk, rfl⟩ := List.getElem?_eq_some_iff.mp hx
    have Op := Cx.Ok.pin O p
    refine sn_local Op rfl ?_
    have mx : xs[k] ∈ xs := List.getElem_mem lk
    have okv : ∀ y ∈ (TT w hw G hg).adds vs (xs.take k), okT g w hp3 y := fun y hy => (adds_mem hy).elim (fun z => (P1.ou y z).bt B (nv y z)) fun z => (Y1.ok y (List.mem_of_mem_take z)).bt B (nxs y (List.mem_of_mem_take z))
    have gd : ∀ k, goodT w ((TT w hw G hg).adds vs (xs.take k)) := fun k => by
      induction k with
      | zero => exact P.S.good
      | succ k ih =>
        by_cases h : k < xs.length
        · rw [adds_take h]; exact goodT_add ih
        · rw [List.take_of_length_le (by omega)]; rw [List.take_of_length_le (by omega)] at ih; exact ih
    refine ss_cons ?_
    refine st_expr ?_
    refine ev_call G (ev_glob G Op (n_add hg) ⟨rfl, ?_⟩) (keep_K (k_add hg))
    refine ar_cons (ev_cell Op (i := 1) rfl (B _ _ n1.symm P1.c1) ?_)
    refine ar_cons (ev_local Op (a := .ref nx) (by exact e3) ?_)
    refine ar_cons (ev_local Op (a := emT w xs[k]) rfl ?_)
    refine ar_nil (call_f Op (R.less (by decide) : Room A 8) ((addl_spec (x := xs[k]) G hg hw e4 okv ((Y1.ok _ mx).bt B (nxs _ mx)) (gd k)).mono ?_ fun _ _ _ h => h.elim))
    rintro a hp4 nx4 ⟨rfl, e5, B5⟩
    refine ss_nil ⟨e1, e2, e3, B.trans B5, ?_⟩
    rw [adds_take lk]; exact e5
  case done =>
    rintro ⟨loc3, hp3, nx3⟩ ⟨e1, e2, e3, B, e4⟩
    dsimp only at e1 e2 e3 B e4
    rw [List.take_of_length_le (by simp)] at e4
    have P3 : InvP w hw G hg N ln s d l li hp3 vs vs := ⟨B _ _ (fun e => by have := P.n; rw [e, f1] at this; cases this) P1.n, B _ _ n1.symm P1.c1, P1.c2.imp fun _ h => B _ _ n2.symm h,
      ⟨B _ _ (fun e => by have := P.S.hi; rw [e, f1] at this; cases this) P1.S.hi, B _ _ (fun e => by have := P.S.hd; rw [e, f1] at this; cases this) P1.S.hd, B _ _ (fun e => by have := P.S.hl; rw [e, f1] at this; cases this) P1.S.hl, P.S.good, fun y hy => (P1.ou y hy).bt B (nv y hy), P.S.apart⟩,
      B _ _ (fun e => by have := P.I; rw [e, f1] at this; cases this) P1.I, P.ll, P.nl, P.ap, fun y hy => (P1.ou y hy).bt B (nv y hy), P.au⟩
    have Y3 : Oths (g := g) w hp3 lo xs := ⟨B _ _ n2.symm Y1.c, B _ _ nlo Y1.l, fun x hx => (Y1.ok x hx).bt B (nxs x hx), Y.n⟩
    refine ss_cons ?_
    refine st_ret ?_
    refine ev_boolop ?_
    refine bo_and ?_
    refine ev_call G (ev_glob G O (n_same hg) ⟨rfl, ?_⟩) (keep_K (k_same hg))
    refine ar_cons ?_
    refine ev_m G K (m_union hg) ?_
    refine ev_local O (a := .ref s) e1 ⟨_, _, _, rfl, P3.S.hi, P3.S.hd, ?_⟩
    refine ar_cons ?_
    refine ev_call G (ev_bltn G O (n_list hg) rfl ⟨rfl, ?_⟩) keep_type
    refine ar_cons (ev_cell O (i := 2) rfl Y3.c ?_)
    refine Ok.fresh fun hb4 => ?_
    refine ar_nil (copy_l Y3.l ?_ (by have := Y.n; simp; omega))
    have L4 : HP.Le hp3 (fun j => if j = nx3 then some (.list (xs.map (emT w))) else hp3 j) := HP.le_new (hb4 _ (Nat.le_refl _))
    have P4 := P3.le L4
    have Y4 := Y3.le hw G hg L4
    have l4 : (fun j => if j = nx3 then some (AO.list (xs.map (emT w))) else hp3 j) nx3 = some (.list (xs.map (emT w))) := if_pos rfl
    have j4 := L4 _ _ e4
    have OO : OthOk (TT w hw G hg) (fun j => if j = nx3 then some (AO.list (xs.map (emT w))) else hp3 j) ⟨.ref nx3, some (xs, amK w xs)⟩ := .seq (T := TT w hw G hg) (xs := xs) (B := false) (itr_list l4) l4 Y4.ok (ino_T l4 Y4.ok)
    refine ar_nil (call_f O (R.less (show 8 + 24 ≤ 60 by decide) : Room A ((TT w hw G hg).d + 24)) ((union_spec G hg P4.S (os := [⟨.ref nx3, some (xs, amK w xs)⟩]) (fun o h => by rw [List.mem_singleton.mp h]; exact OO) (by simp)).mono ?_ ?_))
    · rintro a hp5 nx5 ⟨us, e, s5, d5, l5, rfl, m1, m2, m3, S5, L5⟩
      cases e
      refine ar_cons (ev_local O (a := .ref nx) (by exact e3) ?_)
      refine ar_nil (call_f O (R.less (by decide) : Room A 12) ((same_spec G hg hw S5 (L5 _ _ j4)).mono ?_ fun _ _ _ h => h.elim))
      rintro a hp6 nx6 ⟨rfl, L6⟩
      refine tr1_bool ?_
      rw [if_pos rfl]
      have P6 := (P4.le L5).le L6
      refine bo_one ?_
      refine ev_call G (ev_glob G O (n_same hg) ⟨rfl, ?_⟩) (keep_K (k_same hg))
      refine ar_cons (ev_local O (a := .ref s) (by exact e1) ?_)
      refine ar_cons (ev_local O (a := .ref li) (by exact e2) ?_)
      refine ar_nil (call_f O (R.less (by decide) : Room A 12) ((same_spec G hg hw P6.S P6.I).mono ?_ fun _ _ _ h => h.elim))
      rintro a hp7 nx7 ⟨rfl, L7⟩
      rfl
    · rintro cls hp5 nx5 ⟨_, e, _⟩
      cases e
end
end Sx

namespace Sx
section
variable {g : Gl} {f : Addr} {cdv : Value} {A : Around} {L : Addr} {outer : List Env} {outs : List (Addr × (Str → Option Value))} {pins : List (Addr × Obj)}
theorem hcidO {scope : Scope} {i : Nat} {x : Str} {C : Addr} (h : cidL x = some i) (hc : (cellsFrom (L + 1) scope.names []).lookup x = some C) : ∀ y j, (fun y : Str => if y = x then some i else none) y = some j → cidL y = some j ∧ ([(x, C)] : List (Str × Addr)).lookup y = (cellsFrom (L + 1) scope.names []).lookup y := fun y j e => by
  by_cases hy : y = x
  · subst hy
    have e : (if y = y then some i else none) = some j := e
    rw [if_pos rfl] at e
    refine ⟨h.trans e, ?_⟩
    rw [hc]
    simp [List.lookup]
  · have e : (if y = x then some i else none) = some j := e
    rw [if_neg hy] at e; cases e
set_option maxHeartbeats 4000000 in
theorem segB2 {w : Nat} {hw : w < 3} {G : g.Ok} {hg : g.K = HK g.w.params} {N : List Int} {ln s d l li lo nx : Nat} {loc : Str → Option AV} {hp : HP} {vs xs : List (Nat × Nat)} (R : Room A 60) (h1 : loc "s" = some (.ref s)) (h2 : loc "items" = some (.ref li)) (P : InvP w hw G hg N ln s d l li hp vs vs) (Y : Oths (g := g) w hp lo xs) :
    PartSS g (fun b => b.drop 7) f cdv A L outer outs pins ⟨loc, hp, nx⟩ Told1 := by
  unfold PartSS
  refine conc (o := lawO g) (P := fun b sc => (∀ hp' nx', InvP w hw G hg N ln s d l li hp' vs vs → Oths (g := g) w hp' lo xs → (cxL sc f cdv A L outer outs pins).Ok → SS g (cxL sc f cdv A L outer outs pins) (b.drop 8) ⟨loc, hp', nx'⟩ Told1 (fun _ _ => False)) → (cxL sc f cdv A L outer outs pins).Ok → SS g (cxL sc f cdv A L outer outs pins) (b.drop 7) ⟨loc, hp, nx⟩ Told1 (fun _ _ => False)) rfl ?_ ?later
  case later =>
    intro hp' nx' P' Y'
    have h := segC (f := f) (cdv := cdv) (L := L) (outer := outer) (outs := outs) (pins := pins) (nx := nx') R h1 h2 P' Y'
    exact h
  intro later O
  have K := cls_ok hg
  have hn := P.S.len
  refine ss_cons ?_
  refine st_if ?_
  refine tr_not (tr_val ?_)
  refine ev_call G (ev_glob G O (n_same hg) ⟨rfl, ?_⟩) (keep_K (k_same hg))
  refine ar_cons ?_
  refine ev_m G K (m_diff hg) ?_
  refine ev_local O (a := .ref s) h1 ⟨_, _, _, rfl, P.S.hi, P.S.hd, ?_⟩
  refine ar_cons ?_
  refine ev_call G (ev_bltn G O (n_list hg) rfl ⟨rfl, ?_⟩) keep_type
  refine ar_cons (ev_cell O (i := 2) rfl Y.c ?_)
  refine Ok.fresh fun hb4 => ?_
  refine ar_nil (copy_l Y.l ?_ (by have := Y.n; simp; omega))
  have L4 : HP.Le hp (fun j => if j = nx then some (.list (xs.map (emT w))) else hp j) := HP.le_new (hb4 _ (Nat.le_refl _))
  have P4 := P.le L4
  have Y4 := Y.le hw G hg L4
  have l4 : (fun j => if j = nx then some (AO.list (xs.map (emT w))) else hp j) nx = some (.list (xs.map (emT w))) := if_pos rfl
  refine ar_nil (call_f O (R.less (show 8 + 18 ≤ 60 by decide) : Room A ((TT w hw G hg).d + 18)) ((diff_spec G hg P4.S (ino_T l4 Y4.ok)).mono ?_ fun _ _ _ h => h.elim))
  rintro a hp5 nx5 ⟨s5, d5, l5, rfl, m1, m2, m3, S5, L5⟩
  have P5 := P4.le L5
  have Y5 := Y4.le hw G hg L5
  refine ar_cons ?_
  refine ev_lcx (fun y => if y = "others" then some 2 else none) O rfl R.handled rfl (hcidO rfl rfl) ?_
  refine ev_local O (a := .ref li) h2 ?_
  refine pi_fresh fun hb7 => ?_
  refine pi_lcx (emT w) vs (fun y => if !amK w xs y then some (emT w y) else none) P5.I (by omega) ?_ ?_
  · intro y hy C lm m₀ pins2 Oc
    refine tr_cmp ?_
    refine ev_local Oc rfl ?_
    refine ev_cell Oc (i := 2) rfl Y5.c ?_
    refine op_notinT hw Y5.l Y5.ok (P5.ou y hy) (by have := R.units; show A.units + 20 < cLine; omega) ?_
    refine tr1_bool ?_
    cases hP : (!xs.any fun z => eqK (kT w) z y) with
    | true =>
      rw [if_pos rfl]
      exact ev_local Oc rfl ⟨by first | (rw [if_pos rfl]; done) | exact (if_pos hP).symm, rfl, rfl⟩
    | false =>
      rw [if_neg (by decide)]
      exact ⟨by first | (rw [if_neg (by decide)]; done) | exact (if_neg (by rw [show amK w xs y = false from hP]; decide)).symm, rfl, rfl⟩
  · rw [filterMap_ifg]
    have f7 : hp5 (nx5 + 1) = none := hb7 _ (Nat.le_succ _)
    have L6 := HP.le_new (o := AO.list ((vs.filter fun y => !amK w xs y).map (emT w))) f7
    have P6 := P5.le L6
    have Y6 := Y5.le hw G hg L6
    have S6 := S5.le L6
    refine ar_nil (call_f O (R.less (by decide) : Room A 12) ((same_spec G hg hw S6 (if_pos rfl)).mono ?_ fun _ _ _ h => h.elim))
    rintro a hp7 nx7 ⟨rfl, L7⟩
    refine tr1_bool ?_
    rw [if_neg (by decide)]
    refine ss_nil ?_
    exact later _ _ (P6.le L7) (Y6.le hw G hg L7) O
set_option maxHeartbeats 4000000 in
theorem segB1 {w : Nat} {hw : w < 3} {G : g.Ok} {hg : g.K = HK g.w.params} {N : List Int} {ln s d l li lo nx : Nat} {loc : Str → Option AV} {hp : HP} {vs xs : List (Nat × Nat)} (R : Room A 60) (h1 : loc "s" = some (.ref s)) (h2 : loc "items" = some (.ref li)) (P : InvP w hw G hg N ln s d l li hp vs vs) (Y : Oths (g := g) w hp lo xs) :
    PartSS g (fun b => b.drop 6) f cdv A L outer outs pins ⟨loc, hp, nx⟩ Told1 := by
  unfold PartSS
  refine conc (o := lawO g) (P := fun b sc => (∀ hp' nx', InvP w hw G hg N ln s d l li hp' vs vs → Oths (g := g) w hp' lo xs → (cxL sc f cdv A L outer outs pins).Ok → SS g (cxL sc f cdv A L outer outs pins) (b.drop 7) ⟨loc, hp', nx'⟩ Told1 (fun _ _ => False)) → (cxL sc f cdv A L outer outs pins).Ok → SS g (cxL sc f cdv A L outer outs pins) (b.drop 6) ⟨loc, hp, nx⟩ Told1 (fun _ _ => False)) rfl ?_ ?later
  case later =>
    intro hp' nx' P' Y'
    have h := segB2 (f := f) (cdv := cdv) (L := L) (outer := outer) (outs := outs) (pins := pins) (nx := nx') R h1 h2 P' Y'
    exact h
  intro later O
  have K := cls_ok hg
  have hn := P.S.len
  refine ss_cons ?_
  refine st_if ?_
  refine tr_not (tr_val ?_)
  refine ev_call G (ev_glob G O (n_same hg) ⟨rfl, ?_⟩) (keep_K (k_same hg))
  refine ar_cons ?_
  refine ev_m G K (m_inter hg) ?_
  refine ev_local O (a := .ref s) h1 ⟨_, _, _, rfl, P.S.hi, P.S.hd, ?_⟩
  refine ar_cons ?_
  refine ev_call G (ev_bltn G O (n_list hg) rfl ⟨rfl, ?_⟩) keep_type
  refine ar_cons (ev_cell O (i := 2) rfl Y.c ?_)
  refine Ok.fresh fun hb4 => ?_
  refine ar_nil (copy_l Y.l ?_ (by have := Y.n; simp; omega))
  have L4 : HP.Le hp (fun j => if j = nx then some (.list (xs.map (emT w))) else hp j) := HP.le_new (hb4 _ (Nat.le_refl _))
  have P4 := P.le L4
  have Y4 := Y.le hw G hg L4
  have l4 : (fun j => if j = nx then some (AO.list (xs.map (emT w))) else hp j) nx = some (.list (xs.map (emT w))) := if_pos rfl
  refine ar_nil (call_f O (R.less (show 8 + 18 ≤ 60 by decide) : Room A ((TT w hw G hg).d + 18)) ((inter_spec G hg P4.S (ino_T l4 Y4.ok)).mono ?_ fun _ _ _ h => h.elim))
  rintro a hp5 nx5 ⟨s5, d5, l5, rfl, m1, m2, m3, S5, L5⟩
  have P5 := P4.le L5
  have Y5 := Y4.le hw G hg L5
  refine ar_cons ?_
  refine ev_lcx (fun y => if y = "others" then some 2 else none) O rfl R.handled rfl (hcidO rfl rfl) ?_
  refine ev_local O (a := .ref li) h2 ?_
  refine pi_fresh fun hb7 => ?_
  refine pi_lcx (emT w) vs (fun y => if amK w xs y then some (emT w y) else none) P5.I (by omega) ?_ ?_
  · intro y hy C lm m₀ pins2 Oc
    refine tr_cmp ?_
    refine ev_local Oc rfl ?_
    refine ev_cell Oc (i := 2) rfl Y5.c ?_
    refine op_inT hw Y5.l Y5.ok (P5.ou y hy) (by have := R.units; show A.units + 20 < cLine; omega) ?_
    refine tr1_bool ?_
    cases hP : (xs.any fun z => eqK (kT w) z y) with
    | true =>
      rw [if_pos rfl]
      exact ev_local Oc rfl ⟨by first | (rw [if_pos rfl]; done) | exact (if_pos hP).symm, rfl, rfl⟩
    | false =>
      rw [if_neg (by decide)]
      exact ⟨by first | (rw [if_neg (by decide)]; done) | exact (if_neg (by rw [show amK w xs y = false from hP]; decide)).symm, rfl, rfl⟩
  · rw [filterMap_ifg]
    have f7 : hp5 (nx5 + 1) = none := hb7 _ (Nat.le_succ _)
    have L6 := HP.le_new (o := AO.list ((vs.filter fun y => amK w xs y).map (emT w))) f7
    have P6 := P5.le L6
    have Y6 := Y5.le hw G hg L6
    have S6 := S5.le L6
    refine ar_nil (call_f O (R.less (by decide) : Room A 12) ((same_spec G hg hw S6 (if_pos rfl)).mono ?_ fun _ _ _ h => h.elim))
    rintro a hp7 nx7 ⟨rfl, L7⟩
    refine tr1_bool ?_
    rw [if_neg (by decide)]
    refine ss_nil ?_
    exact later _ _ (P6.le L7) (Y6.le hw G hg L7) O
end
end Sx

namespace Sx
section
variable {g : Gl} {f : Addr} {cdv : Value} {A : Around} {L : Addr} {outer : List Env} {outs : List (Addr × (Str → Option Value))} {pins : List (Addr × Obj)}
theorem n_range (hg : g.K = HK g.w.params) : nsIn g.K mainGlobals "range" = some none := by rw [hg]; rfl
set_option maxHeartbeats 4000000 in
theorem segA {w : Nat} {hw : w < 3} {G : g.Ok} {hg : g.K = HK g.w.params} {N : List Int} {ln s d l li nx : Nat} {loc : Str → Option AV} {hp : HP} {vs : List (Nat × Nat)} (R : Room A 60) (h0 : loc "n" = some (.ref ln)) (h1 : loc "s" = some (.ref s)) (h2 : loc "items" = some (.ref li)) (hN : N.length = 24) (P : InvP w hw G hg N ln s d l li hp vs vs) :
    PartSS g (fun b => b.drop 5) f cdv A L outer outs pins ⟨loc, hp, nx⟩ Told1 := by
  unfold PartSS
  refine conc (o := lawO g) (P := fun b sc => (∀ hp' nx' lo xs, InvP w hw G hg N ln s d l li hp' vs vs → Oths (g := g) w hp' lo xs → (cxL sc f cdv A L outer outs pins).Ok → SS g (cxL sc f cdv A L outer outs pins) (b.drop 6) ⟨loc, hp', nx'⟩ Told1 (fun _ _ => False)) → (cxL sc f cdv A L outer outs pins).Ok → SS g (cxL sc f cdv A L outer outs pins) (b.drop 5) ⟨loc, hp, nx⟩ Told1 (fun _ _ => False)) rfl ?_ ?later
  case later =>
    intro hp' nx' lo xs P' Y'
    have h := segB1 (f := f) (cdv := cdv) (L := L) (outer := outer) (outs := outs) (pins := pins) (nx := nx') R h1 h2 P' Y'
    exact h
  intro later O
  refine ss_cons ?_
  refine Ok.fresh fun hb => ?_
  refine st_assign ?_
  refine ev_lc (fun y => if y = "world" then some 1 else none) O rfl R.handled rfl (hcidO rfl rfl) ?_
  refine ev_slice ?_
  refine ev_local O (a := .ref ln) h0 ?_
  refine ev_int ?_
  refine ev_int ?_
  refine ⟨ln, N.map .int, 21, 24, rfl, rfl, rfl, P.n, by simp; omega, by simp; omega, ?_⟩
  have fb : ∀ j, nx ≤ j → hp j = none := fun j hj => hb j hj
  have LA : HP.Le hp (fun j => if j = nx then some (.list (((N.map AV.int).drop 21).take (24 - 21))) else hp j) := HP.le_new (fb _ (Nat.le_refl _))
  have hA : (fun j => if j = nx then some (AO.list (((N.map AV.int).drop 21).take (24 - 21))) else hp j) nx = some (.list (((N.drop 21).take 3).map .int)) := by
    rw [List.map_take, List.map_drop]; exact if_pos rfl
  have fA : ∀ j, nx + 1 ≤ j → (fun j => if j = nx then some (AO.list (((N.map AV.int).drop 21).take (24 - 21))) else hp j) j = none := fun j hj => by
    show (if j = nx then _ else hp j) = none
    rw [if_neg (by omega)]; exact fb j (by omega)
  show PI g _ (.ref nx) ⟨loc, fun j => if j = nx then some (.list (((N.map AV.int).drop 21).take (24 - 21))) else hp j, nx + 1⟩ _ _
  generalize (fun j => if j = nx then some (AO.list (((N.map AV.int).drop 21).take (24 - 21))) else hp j) = hpA at LA hA fA ⊢
  have l3 : ((N.drop 21).take 3).length = 3 := by simp; omega
  generalize (N.drop 21).take 3 = vals at hA l3 ⊢
  refine pi_seq (T := false) (vs := vals.map .int) hA ?_
  refine ⟨nx + 1, .seq false nx (vals.map .int), fun k ys hp' nx' => ∃ qs : List (Nat × Nat), ys = qs.map (emT w) ∧ (∀ q ∈ qs, okT g w hp' q) ∧ HP.Le hpA hp' ∧ qs.length = k ∧ (∀ j, nx' ≤ j → hp' j = none), rfl, if_pos rfl, ?start, ?len, ?keeps, ?turn, ?done⟩
  case start =>
    have e : (fun j => if j = nx + 1 then none else if j = nx + 1 then some (AO.iter false nx 0) else hpA j) = hpA := del_new (hp1 := hpA) (fA _ (Nat.le_refl _))
    show ∃ qs : List (Nat × Nat), [] = qs.map (emT w) ∧ (∀ q ∈ qs, okT g w _ q) ∧ HP.Le hpA (fun j => if j = nx + 1 then none else if j = nx + 1 then some (AO.iter false nx 0) else hpA j) ∧ qs.length = 0 ∧ ∀ j, nx + 1 + 1 ≤ j → (fun j => if j = nx + 1 then none else if j = nx + 1 then some (AO.iter false nx 0) else hpA j) j = none
    rw [e]
    exact ⟨[], rfl, (fun _ h => nomatch h), .refl, rfl, fun j hj => fA j (by omega)⟩
  case len => show (vals.map AV.int).length ≤ 1000; simp; omega
  case keeps =>
    rintro k ys hp' nx' ⟨_, _, _, LL, _⟩
    exact LL _ _ hA
  case turn =>
    rintro k v ys hp' nx' C lm m₀ pins2 hv ⟨qs, rfl, hok, LL, hlen, hfr⟩ Oc
    have hv : (vals.map AV.int)[k]? = some v := hv
    rw [List.getElem?_map] at hv
    obtain ⟨z, hz, rfl⟩ := Option.map_eq_some_iff.mp hv
    change EV g _ _ _ _ _
    refine Ok.after ?_
    refine ev_call G (ev_glob G Oc (n_thing hg) ⟨rfl, ?_⟩) (keep_K (k_thing hg))
    refine ar_cons (ev_cell Oc (i := 1) rfl (LL _ _ (LA _ _ P.c1)) ?_)
    refine ar_cons ?_
    refine ev_binop ?_
    refine ev_local Oc (a := .int z) rfl ?_
    refine ev_int ?_
    refine op_mod ?_
    have t0 : 0 ≤ z.fmod 7 := Int.fmod_nonneg_of_pos _ (by decide)
    have t7 : z.fmod 7 < 7 := Int.fmod_lt_of_pos _ (by decide)
    rw [show z.fmod 7 = (((z.fmod 7).toNat : Nat) : Int) by omega]
    have t7' : (z.fmod 7).toNat < 7 := by omega
    generalize (z.fmod 7).toNat = t at t7' ⊢
    refine ar_nil (call_f Oc (R.less (by decide) : Room A 2) ((thing_spec G hg hw t7').mono ?_ fun _ _ _ h => h.elim))
    rintro a hp1 nx1 ⟨i, rfl, ok1, fr, L1⟩ hfr1
    refine ⟨qs ++ [(i, t)], by rw [List.map_append]; rfl, ?_, LL.trans L1, by simp [hlen], hfr1⟩
    intro q hq
    rcases List.mem_append.mp hq with hq | hq
    · exact (TT w hw G hg).le (hok q hq) L1
    · rw [List.mem_singleton.mp hq]; exact ok1
  case done =>
    rintro ys hp' nx' ⟨qs, rfl, hok, LL, hlen, hfr⟩
    have LN : HP.Le hp' (fun j => if j = nx' then some (.list (qs.map (emT w))) else hp' j) := HP.le_new (hfr _ (Nat.le_refl _))
    have PN := ((P.le LA).le LL).le LN
    have okN : ∀ q ∈ qs, okT g w (fun j => if j = nx' then some (.list (qs.map (emT w))) else hp' j) q := fun q hq => (TT w hw G hg).le (hok q hq) LN
    have lN : (fun j => if j = nx' then some (AO.list (qs.map (emT w))) else hp' j) nx' = some (.list (qs.map (emT w))) := if_pos rfl
    show SN g _ _ _ ⟨loc, fun j => if j = nx' then some (.list (qs.map (emT w))) else hp' j, nx' + 1⟩ _ _
    generalize (fun j => if j = nx' then some (AO.list (qs.map (emT w))) else hp' j) = hN2 at PN okN lN ⊢
    obtain ⟨o, c2⟩ := PN.c2
    refine sn_cell O (i := 2) rfl c2 ?_
    have l24 : qs.length ≤ 10 := by
      have : (Src.seq false nx (vals.map AV.int)).len = vals.length := List.length_map ..
      omega
    refine later _ _ _ qs PN.cell2 ⟨HP.put_eq, ?_, fun q hq => okT.cell (okN q hq) c2, l24⟩ O
    refine (HP.put_ne (fun e => ?_)).trans lN
    rw [e, c2] at lN; cases lN
set_option maxHeartbeats 4000000 in
theorem segL {w : Nat} {hw : w < 3} {G : g.Ok} {hg : g.K = HK g.w.params} {N : List Int} {ln s d l li nx : Nat} {loc : Str → Option AV} {hp : HP} {vs : List (Nat × Nat)} (R : Room A 60) (h0 : loc "n" = some (.ref ln)) (h1 : loc "s" = some (.ref s)) (h2 : loc "items" = some (.ref li)) (hN : N.length = 24) (P : InvP w hw G hg N ln s d l li hp vs vs) :
    PartSS g (fun b => b.drop 4) f cdv A L outer outs pins ⟨loc, hp, nx⟩ Told1 := by
  unfold PartSS
  refine conc (o := lawO g) (P := fun b sc => (∀ loc' hp' nx' vs', loc' "n" = some (.ref ln) → loc' "s" = some (.ref s) → loc' "items" = some (.ref li) → InvP w hw G hg N ln s d l li hp' vs' vs' → (cxL sc f cdv A L outer outs pins).Ok → SS g (cxL sc f cdv A L outer outs pins) (b.drop 5) ⟨loc', hp', nx'⟩ Told1 (fun _ _ => False)) →
    (∀ loc' hp' nx' vs' k pins' Q, loc' "n" = some (.ref ln) → loc' "s" = some (.ref s) → loc' "items" = some (.ref li) → loc' "j" = some (.int (k : Nat)) → k < 10 → InvP w hw G hg N ln s d l li hp' vs' vs' → (∀ loc2 hp2 nx2 vs2, Same3 loc' loc2 → InvP w hw G hg N ln s d l li hp2 vs2 vs2 → Q .next ⟨loc2, hp2, nx2⟩) → (cxL sc f cdv A L outer outs pins').Ok → SS g (cxL sc f cdv A L outer outs pins') (forBody (b.drop 4)) ⟨loc', hp', nx'⟩ Q (fun _ _ => False)) →
    (cxL sc f cdv A L outer outs pins).Ok → SS g (cxL sc f cdv A L outer outs pins) (b.drop 4) ⟨loc, hp, nx⟩ Told1 (fun _ _ => False)) rfl ?_ ?later ?turn
  case later =>
    intro loc' hp' nx' vs' a0 a1 a2 P'
    have h := segA (f := f) (cdv := cdv) (L := L) (outer := outer) (outs := outs) (pins := pins) (nx := nx') R a0 a1 a2 hN P'
    exact h
  case turn =>
    intro loc' hp' nx' vs' k pins' Q a0 a1 a2 a3 hk P' q
    have h := turn2 (f := f) (cdv := cdv) (L := L) (outer := outer) (outs := outs) (pins := pins') (nx := nx') (Q := Q) R a0 a1 a2 a3 hk hN P' q
    exact h
  intro later turn O
  refine ss_cons ?_
  refine Ok.fresh fun hb => ?_
  refine st_forS O rfl R.handled ?_
  refine ev_call G (ev_bltn G O (n_range hg) rfl ⟨rfl, ?_⟩) keep_type
  refine ar_cons (ev_int ?_)
  refine ar_nil (call_range (n := 10) ?_)
  refine pi_range (if_pos rfl) (by decide) ?_
  refine ⟨nx + 1, .rng 10, fun k st => st.loc "n" = some (.ref ln) ∧ st.loc "s" = some (.ref s) ∧ st.loc "items" = some (.ref li) ∧ ∃ vs, InvP w hw G hg N ln s d l li st.hp vs vs, rfl, if_pos rfl, ?start, ?keeps, ?trn, ?done⟩
  case start =>
    have f1 : hp nx = none := hb _ (Nat.le_refl _)
    have f2 : (fun j => if j = nx then some (AO.range 10) else hp j) (nx + 1) = none := by
      show (if nx + 1 = nx then _ else hp (nx + 1)) = none
      rw [if_neg (by omega)]; exact hb _ (by show nx ≤ nx + 1; omega)
    have e : (fun j => if j = nx + 1 then none else if j = nx + 1 then some (AO.riter 0 10) else if j = nx then some (AO.range 10) else hp j) = (fun j => if j = nx then some (AO.range 10) else hp j) := del_new (hp1 := fun j => if j = nx then some (AO.range 10) else hp j) f2
    refine ⟨h0, h1, h2, vs, ?_⟩
    show InvP w hw G hg N ln s d l li (fun j => if j = nx + 1 then none else if j = nx + 1 then some (AO.riter 0 10) else if j = nx then some (AO.range 10) else hp j) vs vs
    rw [e]
    exact P.le (HP.le_new f1)
  case keeps => intro k st _; trivial
  case trn =>
    rintro k v ⟨loc6, hp6, nx6⟩ p hk ⟨e0, e1, e2, vs6, P6⟩
    dsimp only at e0 e1 e2 P6
    have hk3 : k < 10 := by
      by_cases e : k < 10
      · exact e
      · have hk : (if k < 10 then some (AV.int k) else none) = some v := hk
        rw [if_neg e] at hk; cases hk
    have hv : v = .int k := by
      have hk : (if k < 10 then some (AV.int k) else none) = some v := hk
      rw [if_pos hk3] at hk; exact (Option.some.inj hk).symm
    subst hv
    have Op := Cx.Ok.pin O p
    refine sn_local Op rfl ?_
    refine turn _ _ _ vs6 k (p :: pins) _ (by exact e0) (by exact e1) (by exact e2) rfl hk3 P6 (fun loc2 hp2 nx2 vs2 e P2 => ?_) Op
    exact ⟨e.1.trans e0, e.2.1.trans e1, e.2.2.trans e2, vs2, P2⟩
  case done =>
    rintro ⟨loc6, hp6, nx6⟩ ⟨e0, e1, e2, vs6, P6⟩
    exact later _ _ _ vs6 e0 e1 e2 P6 O
end
end Sx

namespace Sx
section
variable {g : Gl} {f : Addr} {cdv : Value} {A : Around} {L : Addr} {outer : List Env} {outs : List (Addr × (Str → Option Value))} {pins : List (Addr × Obj)}
abbrev hp0L (a : Addr) : HP := fun j => if j = 2 then some (.cell none) else if j = 1 then some (.cell none) else if j = 0 then some (.cell (some (.con (.ref a)))) else none
def numsL (xs : List Int) (k : Nat) : List Int := (List.range k).map fun i => xs.getD i 0
theorem n_SS (hg : g.K = HK g.w.params) : nsIn g.K mainGlobals "SortedSet" = some (some (.ref 306)) := by rw [hg]; rfl
set_option maxHeartbeats 4000000 in
theorem segE (G : g.Ok) (hg : g.K = HK g.w.params) (R : Room A 60) {a : Addr} {us : List Value} {xs : List Int} (hL : g.base.IsList a us.toArray) (hI : IntsAre us xs) (hx : xs.length ≤ 63) :
    PartSS g (fun b => b) f cdv A L outer outs pins ⟨fun _ => none, hp0L a, 3⟩ Told1 := by
  unfold PartSS
  refine conc (o := lawO g) (P := fun b sc => (∀ w hw N ln s d l li loc' hp' nx', loc' "n" = some (.ref ln) → loc' "s" = some (.ref s) → loc' "items" = some (.ref li) → N.length = 24 → InvP w hw G hg N ln s d l li hp' [] [] → (cxL sc f cdv A L outer outs pins).Ok → SS g (cxL sc f cdv A L outer outs pins) (b.drop 4) ⟨loc', hp', nx'⟩ Told1 (fun _ _ => False)) →
    (cxL sc f cdv A L outer outs pins).Ok → SS g (cxL sc f cdv A L outer outs pins) b ⟨fun _ => none, hp0L a, 3⟩ Told1 (fun _ _ => False)) rfl ?_ ?later
  case later =>
    intro w hw N ln s d l li loc' hp' nx' a0 a1 a2 hN P'
    have h := segL (f := f) (cdv := cdv) (L := L) (outer := outer) (outs := outs) (pins := pins) (nx := nx') R a0 a1 a2 hN P'
    exact h
  intro later O
  have K := cls_ok hg
  have hul : us.length = xs.length := by have := hI.length; omega
  have hcid : ∀ y i, (fun y : Str => if y = "script" then some 0 else none) y = some i → cidL y = some i ∧ ([(("script" : Str), L + 1)] : List (Str × Addr)).lookup y = (cellsFrom (L + 1) (scopeOf (lawO g)).names []).lookup y := fun y i e => by
    by_cases hy : y = "script"
    · subst hy
      have e : some 0 = some i := e
      cases e
      exact ⟨rfl, rfl⟩
    · have e : (if y = "script" then some 0 else none) = some i := e
      rw [if_neg hy] at e; cases e
  -- n
  refine ss_cons (Ok.fresh fun hb => st_assign_lc (fun y => if y = "script" then some 0 else none) O rfl R.handled rfl (hcidO rfl rfl) (ev_call G (ev_bltn G O (n_range hg) rfl ⟨rfl, ar_cons (ev_int (ar_nil (call_range (n := 24) (pi_range (n := 24) rfl (by decide) ⟨4, .rng 24, fun k ys hp nx => hp = (fun j => if j = 3 then some (.range 24) else hp0L a j) ∧ nx = 5 ∧ ys = (numsL xs k).map AV.int, rfl, rfl, ⟨?_, rfl, rfl⟩, by decide, ?_, ?_, ?_⟩))))⟩) keep_type))
  · funext j
    show (if j = 4 then none else if j = 4 then _ else if j = 3 then _ else hp0L a j) = _
    by_cases h : j = 4
    · subst h; rfl
    · rw [if_neg h, if_neg h]
  · intro k ys hp nx _; trivial
  · rintro k v ys hp nx C lm' m₀ pins2 hk ⟨rfl, rfl, rfl⟩ Oc
    have hk3 : k < 24 := by
      by_cases e : k < 24
      · exact e
      · have hk : (if k < 24 then some (AV.int k) else none) = some v := hk
        rw [if_neg e] at hk; cases hk
    have hv : v = .int k := by
      have hk : (if k < 24 then some (AV.int k) else none) = some v := hk
      rw [if_pos hk3] at hk; exact (Option.some.inj hk).symm
    subst hv
    have c0 : (fun j => if j = 3 then some (AO.range 24) else hp0L a j) 0 = some (.cell (some (.con (.ref a)))) := rfl
    have hsn : numsL xs (k + 1) = numsL xs k ++ [xs.getD k 0] := by unfold numsL; rw [List.range_succ, List.map_append]; rfl
    refine ev_if (tr_cmp (ev_local Oc (a := .int k) rfl (ev_len G Oc (n_len hg) (ar_cons (ev_cell Oc (i := 0) rfl c0 (ar_nil (len_con hL (by omega) (op_lt (tr1_bool ?_)))))))))
    by_cases hlt : k < xs.length
    · rw [if_pos (by simp; omega)]
      refine ev_sub (ev_cell Oc (i := 0) rfl c0 (ev_local Oc (a := .int k) rfl (op_citem hL hI (by omega) (x := xs.getD k 0) ?_ ⟨rfl, rfl, ?_⟩ (by omega))))
      · rw [Int.toNat_natCast, List.getD_eq_getElem?_getD, List.getElem?_eq_getElem hlt]; rfl
      · rw [hsn, List.map_append]; rfl
    · rw [if_neg (by simp; omega)]
      refine ev_int ⟨rfl, rfl, ?_⟩
      rw [hsn, List.map_append, List.getD_eq_getElem?_getD, List.getElem?_eq_none (by omega)]; rfl
  rintro ys hp nx ⟨rfl, rfl, rfl⟩
  have hN : (numsL xs 24).length = 24 := by unfold numsL; simp
  have e24 : (Src.rng 24).len = 24 := rfl
  rw [e24]
  generalize numsL xs 24 = N at hN ⊢
  show SS g _ _ ⟨fun y => if y = ("n" : Str) then some (.ref 5) else none, (fun j => if j = 5 then some (.list (N.map AV.int)) else if j = 3 then some (.range 24) else hp0L a j), 6⟩ _ _
  have cc1 : (fun j => if j = 5 then some (AO.list (N.map AV.int)) else if j = 3 then some (.range 24) else hp0L a j) 1 = some (.cell none) := rfl
  have cc2 : (fun j => if j = 5 then some (AO.list (N.map AV.int)) else if j = 3 then some (.range 24) else hp0L a j) 2 = some (.cell none) := rfl
  have hln : (fun j => if j = 5 then some (AO.list (N.map AV.int)) else if j = 3 then some (.range 24) else hp0L a j) 5 = some (.list (N.map AV.int)) := rfl
  generalize (fun j => if j = 5 then some (AO.list (N.map AV.int)) else if j = 3 then some (.range 24) else hp0L a j) = hp1 at cc1 cc2 hln ⊢
  have l0 : 0 < N.length := by omega
  have hm0 : 0 ≤ (N[0]).fmod 3 := Int.fmod_nonneg_of_pos _ (by decide)
  have hm3 : (N[0]).fmod 3 < 3 := Int.fmod_lt_of_pos _ (by decide)
  have hx0 : (N.map AV.int)[(0 : Int).toNat]? = some (.int N[0]) := by
    show (N.map AV.int)[0]? = _
    rw [List.getElem?_map, List.getElem?_eq_getElem l0]; rfl
  refine ss_cons ?_
  refine Ok.fresh fun hbn => ?_
  refine st_assign ?_
  refine ev_binop ?_
  refine ev_sub ?_
  refine ev_local O (a := .ref 5) rfl ?_
  refine ev_int ?_
  refine op_item (a := .int N[0]) hln (by decide) hx0 ?_
  refine ev_int ?_
  refine op_mod ?_
  rw [show (N[0]).fmod 3 = ((((N[0]).fmod 3).toNat : Nat) : Int) by omega]
  have hw : ((N[0]).fmod 3).toNat < 3 := by omega
  generalize ((N[0]).fmod 3).toNat = w at hw ⊢
  refine sn_cell O (i := 1) rfl cc1 ?_
  have fz : ∀ j, 6 ≤ j → HP.put hp1 1 (.cell (some (.int w))) j = none := fun j hj => (HP.put_ne (by omega)).trans (hbn j hj)
  have z1 : HP.put hp1 1 (.cell (some (.int w))) 1 = some (.cell (some (.int w))) := HP.put_eq
  have z2 : HP.put hp1 1 (.cell (some (.int w))) 2 = some (.cell none) := (HP.put_ne (by decide)).trans cc2
  have zn : HP.put hp1 1 (.cell (some (.int w))) 5 = some (.list (N.map AV.int)) := (HP.put_ne (by decide)).trans hln
  show SS g _ _ ⟨_, HP.put hp1 1 (.cell (some (.int w))), 6⟩ _ _
  generalize HP.put hp1 1 (.cell (some (.int w))) = hp2 at fz z1 z2 zn ⊢
  -- s = SortedSet()
  refine ss_cons ?_
  refine st_assign ?_
  refine ev_call G (ev_glob G O (n_SS hg) ⟨rfl, ?_⟩) (keep_K (n_set_keep hg))
  refine ar_nil (call_set0 (T := TT w hw G hg) G hg O (R.less (show 8 + 16 ≤ 60 by decide)) ?_)
  rintro a' hp3 nx3 ⟨s, d, l, rfl, m1, m2, m3, S, L3⟩
  refine sn_local O rfl ?_
  -- items = []
  refine ss_cons ?_
  refine Ok.fresh fun hb4 => ?_
  refine st_assign ?_
  refine ev_list ?_
  refine ar_nil ⟨by simp, ?_⟩
  refine sn_local O rfl ?_
  have L4 : HP.Le hp3 (fun j => if j = nx3 then some (.list []) else hp3 j) := HP.le_new (hb4 _ (Nat.le_refl _))
  have f4 : hp3 nx3 = none := hb4 _ (Nat.le_refl _)
  refine later w hw N 5 s d l nx3 _ _ _ rfl rfl rfl hN ?_ O
  refine ⟨L4 _ _ (L3 _ _ zn), L4 _ _ (L3 _ _ z1), ⟨_, L4 _ _ (L3 _ _ z2)⟩, S.le L4, if_pos rfl, ?_, ⟨?_, ?_⟩, (fun _ h => nomatch h), (fun _ h => nomatch h), fun _ h => nomatch h⟩
  · intro e; have := S.hl; rw [← e, f4] at this; cases this
  · intro e
    rw [← e] at m3
    have m3 : hp2 5 = none := m3
    rw [zn] at m3; cases m3
  · intro e; have := L3 _ _ zn; rw [e, f4] at this; cases this
end
set_option maxHeartbeats 4000000 in
theorem start2 {prog : Program} {w : World} {s₁ : Shared} {p : Program} {loose : List Str} {mean : ExcName → Option Value} {mg mb m : Str → Option Value} {fa a tk : Nat} {cdv : Value} {us : List Value} {xs : List Int} {h₁ : Heap} {w2 w1 w0 : Obj} {A : Around}
    (KX : (HK w.params).In s₁.heap) (T : Top p loose mean mg mb s₁.heap) (hL : s₁.heap.IsList a us.toArray) (hI : IntsAre us xs) (hx : xs.length ≤ 63) (F : Fr s₁.heap s₁.heap.objs.size h₁ m)
    (d2 : w2.data = .cell none) (d1 : w1.data = .cell none) (d0 : w0.data = .cell (some (.ref a))) (N : News s₁.heap s₁.heap.objs.size h₁ [(s₁.heap.objs.size + 1 + 1 + 1, w2), (s₁.heap.objs.size + 1 + 1, w1), (s₁.heap.objs.size + 1, w0)])
    (hA : A.frames = some [envX "law" (scopeOf ((HK w.params).lookup 341)) s₁.heap.objs.size fa cdv (cellsFrom (s₁.heap.objs.size + 1) (scopeOf ((HK w.params).lookup 341)).names [])]) (R : Room A 60) :
    wpAny (model prog w) A (execs (bodyOf ((HK w.params).lookup 341)) (envX "law" (scopeOf ((HK w.params).lookup 341)) s₁.heap.objs.size fa cdv (cellsFrom (s₁.heap.objs.size + 1) (scopeOf ((HK w.params).lookup 341)).names []))) (fun f s' => f = .ret (.bool true) ∧ (∃ m', Fr s₁.heap s₁.heap.objs.size s'.heap m') ∧ s'.gens = s₁.gens ∧ s'.os = s₁.os) (fun _ _ => False)
      { heap := h₁, gens := s₁.gens, drawn := s₁.drawn, toks := tk, os := s₁.os } := by
  let g : Gl := { prog := prog, w := w, K := HK w.params, p := p, loose := loose, mean := mean, mg := mg, mb := mb, base := s₁.heap, os := s₁.os, drawn := s₁.drawn, gp := fun gs => gs = s₁.gens }
  have G : g.Ok := ⟨KX, T⟩
  have O : (cxL (scopeOf (lawO g)) fa cdv A s₁.heap.objs.size [] [] []).Ok := ⟨hA, rfl, rfl, rfl, rfl, (fun _ => ⟨rfl, rfl⟩), (fun _ h => nomatch h), (fun _ h => nomatch h), (fun _ h => nomatch h)⟩
  have B := segE (g := g) (f := fa) (cdv := cdv) (L := s₁.heap.objs.size) (outer := []) (outs := []) (pins := []) G rfl R (a := a) hL hI hx O
  have rep : RepN g (cxL (scopeOf (lawO g)) fa cdv A s₁.heap.objs.size [] [] []) (fun i => s₁.heap.objs.size + 1 + i) ⟨fun _ => none, hp0L a, 3⟩ m _ h₁ := {
    fr := F, nw := N, loc := fun x a e => (nomatch e)
    hp := fun i o e => by
      have e : (if i = 2 then some (AO.cell none) else if i = 1 then some (.cell none) else if i = 0 then some (.cell (some (.con (.ref a)))) else none) = some o := e
      by_cases h2 : i = 2
      · subst h2; rw [if_pos rfl] at e; cases e
        exact ⟨by show 2 < 3; decide, w2, .head _, _, d2, trivial⟩
      · rw [if_neg h2] at e
        by_cases h1 : i = 1
        · subst h1; rw [if_pos rfl] at e; cases e
          exact ⟨by show 1 < 3; decide, w1, .tail _ (.head _), _, d1, trivial⟩
        · rw [if_neg h1] at e
          by_cases h0 : i = 0
          · subst h0; rw [if_pos rfl] at e; cases e
            exact ⟨by show 0 < 3; decide, w0, .tail _ (.tail _ (.head _)), _, d0, _, rfl, rfl⟩
          · rw [if_neg h0] at e; cases e
    inj := fun i j _ _ e => by
      have e : s₁.heap.objs.size + 1 + i = s₁.heap.objs.size + 1 + j := e
      omega
    outs := fun _ h => nomatch h
    sep := fun _ _ _ h => nomatch h
    cids := fun y i e => by
      obtain ⟨k, rfl, hk, hl⟩ := zip_lookup e
      refine ⟨by show 0 + k < 3; have : k < 3 := hl; omega, ?_⟩
      have : k = 0 ∨ k = 1 ∨ k = 2 := by have : k < 3 := hl; omega
      rcases this with rfl | rfl | rfl
      · cases hk; rfl
      · cases hk; rfl
      · cases hk; rfl
    pins := (fun _ h => nomatch h)
    lo := fun i o e d => by
      have e : (if i = 2 then some (AO.cell none) else if i = 1 then some (.cell none) else if i = 0 then some (.cell (some (.con (.ref a)))) else none) = some o := e
      by_cases h2 : i = 2
      · rw [if_pos h2] at e; cases e; cases d
      · rw [if_neg h2] at e
        by_cases h1 : i = 1
        · rw [if_pos h1] at e; cases e; cases d
        · rw [if_neg h1] at e
          by_cases h0 : i = 0
          · rw [if_pos h0] at e; cases e; cases d
          · rw [if_neg h0] at e; cases e }
  refine wpAny_mono (B _ { heap := h₁, gens := s₁.gens, drawn := s₁.drawn, toks := tk, os := s₁.os } ⟨⟨m, _, rep⟩, rfl, rfl, rfl⟩) (fun f s' hf => ?_) fun e s' hx => ?_
  · obtain ⟨af, σ', st', hq, _, ⟨⟨m', news', r'⟩, z'⟩, W⟩ := hf
    refine ⟨?_, ⟨m', r'.fr⟩, z'.2.2, z'.1⟩
    cases af with
    | next => cases hq
    | brk => cases hq
    | cont => cases hq
    | ret b =>
      obtain ⟨v, rfl, V⟩ := W
      have hq : b = .bool true := hq
      subst hq
      cases V; rfl
  · obtain ⟨_, _, _, h, _⟩ := hx; exact h.elim
end Sx

set_option maxHeartbeats 8000000 in
theorem PySem.Challenge.cw_fq5009_02_holds : PySem.Challenge.rw_fq5009_02.Holds :=
  hd2 (by
  k_go0
  all_goals try k_fold
  rename_i K0 hD h₁ tk₁ F w2 w1 w0 d2 d1 d0 N0 X0
  refine wpAny_mono (Sx.start2 (by assumption) (by assumption) (by assumption) (by assumption) (by omega) F d2 d1 d0 N0 ?fr ?room) (fun f s' hf => ?post) (fun _ _ h => h.elim)
  case fr => exact Around.frames_deeper rfl
  case room => exact ⟨by show 1 + claimMargin + 1 + 60 < recursionLimit; decide +kernel, by show 4 + 3 + 8 * 60 < cLine; decide +kernel, rfl, rfl⟩
  case post =>
    obtain ⟨rfl, ⟨m', F'⟩, hg', hos'⟩ := hf
    refine goodW_bool F' (hg'.trans (by assumption)) (raisesW_false ?_) ?_ hos'
    · wrow_none_raised
    · wrow_post)

